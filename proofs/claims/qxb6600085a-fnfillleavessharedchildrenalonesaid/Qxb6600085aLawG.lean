/-
  FnFillLeavesSharedChildrenAlone: the walk.
-/
import Derived.Test.Qxb6600085aSetup
import Derived.Deep.DeepCutAuto
import Derived.Deep.CutRange
import Derived.Deep.LoopGhost
namespace Go.Proofs.Qxb6600085a
open Go.RowKit

theorem Cmp.heap {w W : World} {ka va kao : Option Addr} {es : List Ent} {inner : Bool} {ks : List Nat} (h : Cmp w ka va kao es inner ks) (e : W.heap = w.heap) : Cmp W ka va kao es inner ks := by
  have hc : ∀ a, W.cell? a = w.cell? a := fun a => by simp [World.cell?, e]
  exact ⟨fun i hi => by obtain ⟨b, hb, hh⟩ := h.k i hi; exact ⟨b, hb, by rw [hc]; exact hh⟩, fun i hi => by obtain ⟨b, hb, hh⟩ := h.v i hi; exact ⟨b, hb, by rw [hc]; exact hh⟩, fun i hi => (h.isB i hi).same e, h.kn, fun i hi => by obtain ⟨b, hb, hh⟩ := h.kk i hi; exact ⟨b, hb, by rw [hc]; exact hh⟩⟩

/-- holdsExactly at a leaf, as it is called here. -/
theorem f19_leaf {w W : World} {b o kb vb : Nat} {ev : Value} {es : List Ent} (hc : Cmp w (some ⟨kb, 0, none⟩) (some ⟨vb, 0, none⟩) none es false []) (hN : LeafAt w b o ev es) (e : W.heap = w.heap) (hl : es.length ≤ 1048576) :
    Calls Try.prog 19 #[pv b, .slice (some ⟨kb, 0, none⟩) es.length es.length, .slice (some ⟨vb, 0, none⟩) es.length es.length, .slice none 0 0] W fun e w' => e = .returned (.bool true) ∧ Drew W w' := by
  have h := f19_cmp (w := W) (b := b) (o := o) (ka := some ⟨kb, 0, none⟩) (va := some ⟨vb, 0, none⟩) (kao := none) (es := es) (inner := false) (ks := []) (ev := ev) (kv := nilV) es.length es.length es.length 0 (hc.heap e) (NodeAt.same hN e) hl (Nat.zero_le _) (Nat.le_refl _)
  exact h

/-- OwnedBy at the owner's own. -/
theorem f24_own {w W : World} {b o : Nat} {ev : Value} {es : List Ent} {kv : Value} {inner : Bool} {ks : List Nat} (hN : NodeAt w b o ev es kv inner ks) (lo : Lies w o) (e : W.heap = w.heap) : Calls Try.prog 24 #[pv b, pv o] W fun e w' => e = .returned (.bool true) ∧ w' = W := by
  refine (f24_any o (NodeAt.same hN e) (lo.same e) (lo.same e)).mono ?_
  rintro e' w' ⟨he, hw⟩
  exact ⟨by rw [he, decide_eq_true rfl], hw⟩

set_option maxRecDepth 100000 in
set_option maxHeartbeats 6400000 in
theorem f7_any (w : World) (sa : Option Addr) (ns cs : Nat) (zs : List Int) (iz : Int) (ao : Option Addr) (nv cap : Nat) (A : Nat → Option Addr) (L0 C0 : Nat → Nat) (hs : SizIn w sa ns zs) (hv : ValIn w ao nv A L0 C0) :
    Calls Try.prog 7 #[.slice sa ns cs, .int .i64 iz, .slice ao nv cap] w fun e w' => e = .returned (.bool true) ∧ Below w.heap.size w w' := by
  go_enter Try.func7, Try.ntmps7
  go_wp2_with (go_at_call 32; refine (f32_any w sa ns cs iz ao nv cap A L0 C0 hs.len hv.len hv.row).mono ?_)
  rintro e w' ⟨⟨y, rfl, hy⟩, hw⟩
  rw [hw]; clear hw w'
  cases y with
  | false =>
    go_wp2_with fail
    go_ret
    exact ⟨rfl, Below.refl _ _⟩
  | true =>
    have hS := hy rfl
    clear hy
    have hn1 := hS.1
    have hn2 := hS.2.1
    by_cases hn4 : ns ≤ 4096
    case neg =>
      have hz4 : (4096 : Int) < (ns : Int) := by omega
      go_wp2_with fail
      go_ret
      exact ⟨rfl, Below.refl _ _⟩
    case pos =>
    have hz4 : (ns : Int) ≤ 4096 := by omega
    by_cases hn6 : nv ≤ 65536
    case neg =>
      have hz6 : (65536 : Int) < (nv : Int) := by omega
      go_wp2_with fail
      go_ret
      exact ⟨rfl, Below.refl _ _⟩
    case pos =>
    have hz6 : (nv : Int) ≤ 65536 := by omega
    have H9 := hide (f9_any w ao nv cap A L0 C0 hn2 hv.row)
    have HS := hide hs
    have HV := hide hv
    have HSM := hide hS
    clear hs hv hS hn1 hn2
    go_wp2_with fail
    refine H9.out.mono ?_
    rintro e w' ⟨⟨q, rfl⟩, hw⟩
    rw [hw]; clear hw w' H9
    by_cases hq : 1048576 < wrap64 ((ns : Int) + q)
    case pos =>
      go_wp2_with fail
      go_ret
      exact ⟨rfl, Below.refl _ _⟩
    case neg =>
    by_cases hns2 : ns < 2
    case pos =>
      have hz2 : (ns : Int) < 2 := by omega
      go_wp2_with fail
      go_ret
      exact ⟨rfl, Below.refl _ _⟩
    case neg =>
    have hz2 : (2 : Int) ≤ (ns : Int) := by omega
    by_cases hi0 : iz < 0
    case pos =>
      go_wp2_with fail
      go_ret
      exact ⟨rfl, Below.refl _ _⟩
    case neg =>
    by_cases hi1 : (ns : Int) ≤ iz
    case pos =>
      go_wp2_with fail
      go_ret
      exact ⟨rfl, Below.refl _ _⟩
    case neg =>
    obtain ⟨i, rfl⟩ : ∃ i : Nat, iz = (i : Int) := ⟨iz.toNat, by omega⟩
    have hilt : i < ns := by omega
    have hiz : (i : Int) < (ns : Int) := by omega
    cases sa with
    | none => exact absurd (HS.out.none rfl) (by omega)
    | some ad =>
    have H27 := hide (f27_zs w ad ns cs (by omega) zs HS.out.zl (HS.out.src ad rfl))
    clear hi0 hi1
    go_wp2_with fail
    refine H27.out.mono ?_
    rintro e w1 ⟨gs, rfl, hat1, hb1⟩
    have H10 := hide (f10_any w1 ao nv cap A L0 C0 HSM.out.2 (HV.out.below hb1))
    clear H27
    go_wp2_with fail
    refine H10.out.mono ?_
    rintro e w2 ⟨va, vc, vs, rfl, hcl, hb2⟩
    clear H10
    go_wp2_with fail
    refine (f11_new w2).mono ?_
    rintro e w3 ⟨a, rfl, -, ha3, hb3⟩
    go_wp2_with fail
    refine (f11_new w3).mono ?_
    rintro e w4 ⟨b, rfl, hbge, hb4l, hb4⟩
    have ha4 := ha3.below hb4
    have HAB := hide (show b ≠ a by have := ha3.lt; omega)
    clear hbge
    go_wp2_with fail
    refine (f12_new w4 a ha4).mono ?_
    rintro e w7 ⟨t, rfl, hT7, hb7⟩
    have hSC : Scn w w7 t a b gs zs va nv vs := by
      have hb12 := hb1.trans (hb2.mono hb1.size)
      have hb13 := hb12.trans (hb3.mono hb12.size)
      have hb14 := hb13.trans (hb4.mono hb13.size)
      have hb17 := hb14.trans (hb7.mono hb14.size)
      have hx24 := hb3.trans (hb4.mono hb3.size)
      have hx27 := hx24.trans (hb7.mono hx24.size)
      have hx17 := hb2.trans (hx27.mono hb2.size)
      exact ⟨hT7, hb4l.below hb7, HAB.out, hat1.below hx17 hat1.lt, hcl.below hx27, hb17⟩
    have HSC := hide hSC
    clear hSC hT7 hb7 hb4 hb4l hb3 hb2 hb1 hat1 hcl ha3 ha4
    have H28 := hide (f28_any w7 a b gs ns nv va vc vs zs HSC.out.siz HS.out.zl HS.out.byte (by omega) hn4 HSC.out.cl hn6)
    go_wp2_with fail
    refine H28.out.mono ?_
    rintro e w8 ⟨lab, V, L, Y, ps, all, p, evp, kvp, rfl, hcase⟩
    have hLn : L.length = ns := hcase.len.trans HS.out.zl
    obtain ⟨g1, g2, g3, g4, g5, g6, c1, c2, c3, c4, c5, c6, ⟨hV1, hV2, hV3, hV4, hV5, hV6⟩, hrd⟩ := hcase.forms HS.out.byte (by omega)
    rw [hV1, hV2, hV3, hV4, hV5, hV6, hLn]
    have HRD := hide hrd
    have HCASE := hide hcase
    have HLN := hide hLn
    clear hrd hcase hV1 hV2 hV3 hV4 hV5 hV6 hLn H28
    have hb9 : Below w8.heap.size w8 (w8.alloc (.cells #[pv p, .slice (some ⟨g1, 0, none⟩) ns c1, .slice (some ⟨g2, 0, none⟩) ns c2, .slice (some ⟨g3, 0, none⟩) ns c3, .slice (some ⟨g4, 0, none⟩) ns c4, .slice (some ⟨g5, 0, none⟩) all.length c5, .slice (some ⟨g6, 0, none⟩) all.length c6] 53)) := (Below.refl _ _).alloc (Nat.le_refl _) _
    have hat9 := At.new w8 [pv p, .slice (some ⟨g1, 0, none⟩) ns c1, .slice (some ⟨g2, 0, none⟩) ns c2, .slice (some ⟨g3, 0, none⟩) ns c3, .slice (some ⟨g4, 0, none⟩) ns c4, .slice (some ⟨g5, 0, none⟩) all.length c5, .slice (some ⟨g6, 0, none⟩) all.length c6] 53
    have HFILL := hide (after_fill (tb := w8.heap.size) (fs := [pv p, .slice (some ⟨g1, 0, none⟩) ns c1, .slice (some ⟨g2, 0, none⟩) ns c2, .slice (some ⟨g3, 0, none⟩) ns c3, .slice (some ⟨g4, 0, none⟩) ns c4, .slice (some ⟨g5, 0, none⟩) all.length c5, .slice (some ⟨g6, 0, none⟩) all.length c6]) (i := i) HSC.out HCASE.out HS.out.byte HRD.out hb9 hat9 (Nat.le_refl _) (by have := HLN.out; omega) (by have := HLN.out; omega) (by have := HLN.out; omega))
    have HAT9 := hide hat9
    clear hat9 hb9 HRD
    go_upto_region 19 with fail
    generalize w8.alloc (.cells #[pv p, .slice (some ⟨g1, 0, none⟩) ns c1, .slice (some ⟨g2, 0, none⟩) ns c2, .slice (some ⟨g3, 0, none⟩) ns c3, .slice (some ⟨g4, 0, none⟩) ns c4, .slice (some ⟨g5, 0, none⟩) all.length c5, .slice (some ⟨g6, 0, none⟩) all.length c6] 53) = w9 at *
    generalize w8.heap.size = tb at *
    have d0 : w9.cell? ⟨tb, 0, none⟩ = some (pv p) := HAT9.out.cell rfl
    clear HAT9
    go_wp2_with fail
    refine HFILL.out.mono ?_
    rintro e W ⟨r, rfl, M, qs, hD⟩
    obtain ⟨evq, kvq, hpar⟩ := hD.fil.par
    obtain ⟨m, hm⟩ : ∃ m, M.length = m := ⟨_, rfl⟩
    have hcnt := hD.fil.cnt
    rw [List.length_map, HLN.out, hm] at hcnt
    have hmm : m ≤ 4096 := by omega
    have hrm : r < m := by
      obtain ⟨kr, ki, h1, -⟩ := hD.fil.ans
      have := (List.getElem?_eq_some_iff.1 h1).1
      omega
    have HD := hide hD
    have HM := hide hm
    have HPAR := hide hpar
    clear hD hm hpar hcnt HFILL d0
    go_wp2_with fail
    go_loopg [12] ns (fun g s wr => ∃ k : Nat, k ≤ ns ∧ g = ns - k ∧ s = .int .i64 k ∧ Drew W wr)
    case atStart => exact ⟨0, Nat.zero_le _, rfl, rfl, Drew.refl _⟩
    case round =>
      obtain ⟨k, hkn, rfl, rfl, hq1⟩ := hrel
      have htab := HD.out.tab.same hq1.heap
      have q1 : wr.cell? ⟨tb, 1, none⟩ = some (.slice (some ⟨g1, 0, none⟩) ns c1) := htab.cell rfl
      by_cases hlt : k < ns
      · have hkL : k < L.length := by have := HLN.out; omega
        have hkz : (k : Int) < (ns : Int) := by omega
        have hk0 : (0 : Int) ≤ (k : Int) := Int.natCast_nonneg _
        obtain ⟨z, hz⟩ : ∃ z, zs[k]? = some z := ⟨_, List.getElem?_eq_getElem (by have := HS.out.zl; omega)⟩
        have q2 : wr.cell? ⟨tb, 2, none⟩ = some (.slice (some ⟨g2, 0, none⟩) ns c2) := htab.cell rfl
        have hcl := HD.out.rd.cl k z hkL hz
        rw [← hq1.cell] at hcl
        cases hic : isC z
        case false =>
          rw [hic] at hcl
          clear htab hz hic
          go_wp2_with fail
          go_roundg (ns - (k + 1))
          case measure => omega
          case rel => exact ⟨k + 1, by omega, rfl, by go_num, hq1⟩
        case true =>
          rw [hic] at hcl
          obtain ⟨hob, hat0⟩ := HD.out.clone k z hkL hz hic
          have hcmp0 := HD.out.rd.cmp k hkL
          have hck := HD.out.rd.ck k hkL
          have hcv := HD.out.rd.cv k hkL
          have hkd := HD.out.rd.kids k hkL
          have hok := HCASE.out.ok HS.out.byte k hkL
          unfold Kid.ok at hok
          unfold Kid.at at hat0
          obtain ⟨cb, hcb⟩ : ∃ cb, L[k].k.b = cb := ⟨_, rfl⟩
          obtain ⟨es, hes⟩ : ∃ es, L[k].k.es = es := ⟨_, rfl⟩
          obtain ⟨kb, hkb⟩ : ∃ kb, L[k].kb = kb := ⟨_, rfl⟩
          obtain ⟨vb, hvb⟩ : ∃ vb, L[k].vb = vb := ⟨_, rfl⟩
          rw [hcb, hes, hob] at hat0
          rw [hes, hkb, hvb] at hcmp0
          rw [hes, hkb, ← hq1.cell] at hck
          rw [hes, hvb, ← hq1.cell] at hcv
          rw [hcb, ← hq1.cell] at hkd
          rw [hes] at hok
          have h24 : ∀ W2, W2.heap = wr.heap → Calls Try.prog 24 #[pv cb, pv b] W2 fun e w' => e = .returned (.bool true) ∧ w' = W2 := fun W2 hW2 => by
            exact f24_own hat0 HD.out.own.2 (hW2.trans hq1.heap)
          have h19 : ∀ W2, W2.heap = wr.heap → Calls Try.prog 19 #[pv cb, .slice (some ⟨kb, 0, none⟩) es.length es.length, .slice (some ⟨vb, 0, none⟩) es.length es.length, .slice none 0 0] W2 fun e w' => e = .returned (.bool true) ∧ Drew W2 w' := fun W2 hW2 => by
            have hh := hW2.trans hq1.heap
            exact f19_leaf hcmp0 hat0 hh (by omega)
          have H24 := hide h24
          have H19 := hide h19
          have q3 : wr.cell? ⟨tb, 3, none⟩ = some (.slice (some ⟨g3, 0, none⟩) ns c3) := htab.cell rfl
          have q4 : wr.cell? ⟨tb, 4, none⟩ = some (.slice (some ⟨g4, 0, none⟩) ns c4) := htab.cell rfl
          clear htab hz hic hob hat0 hcmp0 hcb hes hkb hvb hok h24 h19
          go_wp2_with fail
          go_quiet (first | (go_at_call 24; refine Calls.quiet_of_same (H24.out _ ?_); rfl) | (go_at_call 19; refine Calls.quiet_of (H19.out _ ?_); rfl))
          go_wp2_with fail
          go_roundg (ns - (k + 1))
          case measure => omega
          case rel => exact ⟨k + 1, by omega, rfl, by go_num, hq1.more _⟩
      · have hkz : ¬ (k : Int) < (ns : Int) := by omega
        have hparD := HPAR.out.same hq1.heap
        have h18 := f18_any hparD
        rw [List.length_map, HM.out] at h18
        have H18 := hide h18
        have HPD := hide hparD
        have HRD := hide (HD.out.rd.same hq1)
        have HBW := hide (Below.drewOf HD.out.below hq1)
        have HKD : Hid (∀ x ∈ M, x.at wr) := fun x hx => NodeAt.same (HD.out.fil.kid x hx) hq1.heap
        have HLA := hide (HD.out.own.1.same hq1.heap)
        have HLM : Hid (∀ x ∈ M, Lies wr x.b) := fun x hx => (HD.out.lies x hx).same hq1.heap
        have HLL : Hid (∀ d ∈ L, Lies wr d.k.b) := fun d hd => (HD.out.liesL d hd).same hq1.heap
        have q0 : wr.cell? ⟨tb, 0, none⟩ = some (pv p) := htab.cell rfl
        have q3 : wr.cell? ⟨tb, 3, none⟩ = some (.slice (some ⟨g3, 0, none⟩) ns c3) := htab.cell rfl
        generalize wr = WD at *
        clear hparD h18 htab hq1 HPAR
        go_wp2_with fail
        refine H18.out.mono ?_
        rintro e w' ⟨rfl, hw⟩
        rw [hw]; clear hw w' H18
        go_wp2_with fail
        go_loopg [15] m (fun g s wr => WD = wr ∧ ∃ k : Nat, k ≤ m ∧ g = m - k ∧ s = .int .i64 k)
        case atStart => exact ⟨rfl, 0, Nat.zero_le _, rfl, rfl⟩
        case round =>
          obtain ⟨rfl, k1, hkm, rfl, rfl⟩ := hrel
          by_cases hlt1 : k1 < m
          · have hkl : k1 < M.length := by have := HM.out; omega
            have hk1z : (k1 : Int) < (m : Int) := by omega
            obtain ⟨kd, hkd⟩ : ∃ kd, M[k1] = kd := ⟨_, rfl⟩
            have hmem : kd ∈ M := by rw [← hkd]; exact List.getElem_mem _
            have hat := HKD.out kd hmem
            have hliesk := HLM.out kd hmem
            have horg := HD.out.fil.org kd hmem
            have h20 := f20_any HPD.out k1 (by simpa using hkl)
            rw [List.getElem_map, hkd] at h20
            have H20 := hide h20
            have HORG := hide horg
            have HAT := hide hat
            have HLK := hide hliesk
            clear h20 hat horg hliesk hmem hkd
            go_wp2_with fail
            refine H20.out.mono ?_
            rintro e w' ⟨rfl, hw⟩
            rw [hw]; clear hw w' H20
            go_wp2_with fail
            go_loopg [17, 18] ns (fun g s17 s18 wr => WD = wr ∧ ∃ (j : Nat) (ob : Bool), j ≤ ns ∧ g = ns - j ∧ s17 = .bool ob ∧ s18 = .int .i64 j ∧ Hid (∀ j' (h : j' < L.length), j' < j → L[j'].k.b = kd.b → ob = true))
            case atStart => exact ⟨rfl, 0, false, Nat.zero_le _, rfl, rfl, rfl, fun j' _ h => absurd h (Nat.not_lt_zero _)⟩
            case round =>
              obtain ⟨rfl, j, ob, hjn, rfl, rfl, rfl, hinv⟩ := hrel
              by_cases hjlt : j < ns
              · have hjL : j < L.length := by have := HLN.out; omega
                have hjz : (j : Int) < (ns : Int) := by omega
                have hj0 : (0 : Int) ≤ (j : Int) := Int.natCast_nonneg _
                obtain ⟨cb, hcb⟩ : ∃ cb, L[j].k.b = cb := ⟨_, rfl⟩
                have hkc := HRD.out.kids j hjL
                rw [hcb] at hkc
                have hlc : Lies WD cb := by rw [← hcb]; exact HLL.out L[j] (List.getElem_mem _)
                have heq := eql_node HLK.out hlc
                by_cases hcc : kd.b = cb
                · rw [decide_eq_true hcc] at heq
                  clear hcc hcb hlc
                  go_wp2_with fail
                  go_roundg (ns - (j + 1))
                  case measure => omega
                  case rel => exact ⟨rfl, j + 1, true, by omega, rfl, rfl, by go_num, fun _ _ _ _ => rfl⟩
                · rw [decide_eq_false hcc] at heq
                  have HNE := hide (show ¬ L[j].k.b = kd.b by rw [hcb]; exact fun h => hcc h.symm)
                  clear hcc hcb hlc
                  go_wp2_with fail
                  go_roundg (ns - (j + 1))
                  case measure => omega
                  case rel =>
                    refine ⟨rfl, j + 1, ob, by omega, rfl, rfl, by go_num, fun j' hj' hlt' hb' => ?_⟩
                    rcases Nat.lt_succ_iff_lt_or_eq.1 hlt' with h | h
                    · exact hinv.out j' hj' h hb'
                    · subst h; exact absurd hb' HNE.out
              · have hjz : ¬ (j : Int) < (ns : Int) := by omega
                cases ob
                case true =>
                  clear hinv
                  go_wp2_with fail
                  go_roundg (m - (k1 + 1))
                  case measure => omega
                  case rel => exact ⟨rfl, k1 + 1, by omega, rfl, by go_num⟩
                case false =>
                  have hko : kd.o = a := by
                    rcases HORG.out with h | h
                    · obtain ⟨j', hj', he'⟩ := kids_mem h
                      have := hinv.out j' hj' (by have := HLN.out; omega) (by rw [he'])
                      cases this
                    · exact h
                  have hat2 : LeafAt WD kd.b kd.o kd.ev kd.es := HAT.out
                  rw [hko] at hat2
                  have H24 := hide (f24_own hat2 HLA.out rfl)
                  clear hinv hko hat2
                  go_wp2_with fail
                  refine H24.out.mono ?_
                  rintro e w' ⟨rfl, hw⟩
                  rw [hw]; clear hw w' H24
                  go_wp2_with fail
                  go_roundg (m - (k1 + 1))
                  case measure => omega
                  case rel => exact ⟨rfl, k1 + 1, by omega, rfl, by go_num⟩
          · have hk1z : ¬ (k1 : Int) < (m : Int) := by omega
            have fr0 : (0 : Int) ≤ (r : Int) := Int.natCast_nonneg _
            have fr1 : (r : Int) < (m : Int) := by omega
            obtain ⟨kr, ki, hkr, hki, h15, hsub, hroom, hown⟩ := HD.out.fil.ans
            have hiL : i < L.length := by have := HLN.out; omega
            have hki' : L[i].k = ki := by
              rw [List.getElem?_map, List.getElem?_eq_getElem hiL] at hki
              simpa using hki
            have hrl : r < M.length := by have := HM.out; omega
            have hkr' : M[r] = kr := by
              rw [List.getElem?_eq_getElem hrl] at hkr
              simpa using hkr
            have hmem : kr ∈ M := by rw [← hkr']; exact List.getElem_mem _
            have hat : LeafAt WD kr.b kr.o kr.ev kr.es := HKD.out kr hmem
            have hlk := HLM.out kr hmem
            have h20 := f20_any HPD.out r (by simpa using hrl)
            rw [List.getElem_map, hkr'] at h20
            have hck := HRD.out.ck i hiL
            have hkc := HRD.out.kids i hiL
            rw [hki'] at hck
            have hroom' : 15 < ki.es.length → L[i].k.b = kr.b := fun h => by
              obtain ⟨hML, hri⟩ := hroom h
              subst hri
              rw [hML, List.getElem?_map, List.getElem?_eq_getElem hiL] at hkr
              simp at hkr
              rw [hkr]
            have H20 := hide h20
            have hi0 : (0 : Int) ≤ (i : Int) := Int.natCast_nonneg _
            clear h20 hkr hki hki' hkr' hmem h15 hsub hroom
            go_wp2_with fail
            refine H20.out.mono ?_
            rintro e w' ⟨rfl, hw⟩
            rw [hw]; clear hw w' H20
            by_cases hbig : 15 < ki.es.length
            · have hbz : (15 : Int) < (ki.es.length : Int) := by omega
              rw [hroom' hbig] at hkc
              have heq := eql_node hlk hlk
              rw [decide_eq_true rfl] at heq
              clear hroom' hown hat hlk
              go_wp2_with fail
              go_ret
              exact ⟨rfl, HBW.out⟩
            · have hbz : ¬ (15 : Int) < (ki.es.length : Int) := by omega
              rw [hown (by omega)] at hat
              have H24 := hide (f24_own hat HLA.out rfl)
              clear hroom' hown hat hlk hkc
              go_wp2_with fail
              refine H24.out.mono ?_
              rintro e w' ⟨rfl, hw⟩
              rw [hw]; clear hw w' H24
              go_wp2_with fail
              go_ret
              exact ⟨rfl, HBW.out⟩

end Go.Proofs.Qxb6600085a
