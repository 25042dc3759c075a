/-
  FnFillKeepsOrderAndBounds: the walk.
-/
import Derived.Test.Qxb6600085aSetup
import Derived.Deep.DeepCutAuto
import Derived.Deep.CutRange
import Derived.Deep.LoopGhost
namespace Go.Proofs.Qxb6600085a
open Go.RowKit

set_option maxRecDepth 100000 in
set_option maxHeartbeats 6400000 in
theorem f6_any (w : World) (sa : Option Addr) (ns cs : Nat) (zs : List Int) (iz : Int) (ao : Option Addr) (nv cap : Nat) (A : Nat → Option Addr) (L0 C0 : Nat → Nat) (hs : SizIn w sa ns zs) (hv : ValIn w ao nv A L0 C0) :
    Calls Try.prog 6 #[.slice sa ns cs, .int .i64 iz, .slice ao nv cap] w fun e w' => e = .returned (.bool true) ∧ Below w.heap.size w w' := by
  go_enter Try.func6, Try.ntmps6
  go_wp2_with (go_at_call 26; refine (f26_any w sa ns cs iz ao nv cap A L0 C0 hs.len hv.len hv.row).mono ?_)
  rintro e w' ⟨⟨y, rfl, hy⟩, hw⟩
  rw [hw]; clear hw w'
  cases y with
  | false =>
    go_wp2_with fail
    go_ret
    exact ⟨rfl, Below.refl _ _⟩
  | true =>
    have hS := hy rfl
    clear hy
    have hn1 := hS.1
    have hn2 := hS.2.1
    by_cases hn4 : ns ≤ 4096
    case neg =>
      have hz4 : (4096 : Int) < (ns : Int) := by omega
      go_wp2_with fail
      go_ret
      exact ⟨rfl, Below.refl _ _⟩
    case pos =>
    have hz4 : (ns : Int) ≤ 4096 := by omega
    by_cases hn6 : nv ≤ 65536
    case neg =>
      have hz6 : (65536 : Int) < (nv : Int) := by omega
      go_wp2_with fail
      go_ret
      exact ⟨rfl, Below.refl _ _⟩
    case pos =>
    have hz6 : (nv : Int) ≤ 65536 := by omega
    have H9 := hide (f9_any w ao nv cap A L0 C0 hn2 hv.row)
    have HS := hide hs
    have HV := hide hv
    have HSM := hide hS
    clear hs hv hS hn1 hn2
    go_wp2_with fail
    refine H9.out.mono ?_
    rintro e w' ⟨⟨q, rfl⟩, hw⟩
    rw [hw]; clear hw w' H9
    by_cases hq : 1048576 < wrap64 ((ns : Int) + q)
    case pos =>
      go_wp2_with fail
      go_ret
      exact ⟨rfl, Below.refl _ _⟩
    case neg =>
    by_cases hns2 : ns < 2
    case pos =>
      have hz2 : (ns : Int) < 2 := by omega
      go_wp2_with fail
      go_ret
      exact ⟨rfl, Below.refl _ _⟩
    case neg =>
    have hz2 : (2 : Int) ≤ (ns : Int) := by omega
    by_cases hi0 : iz < 0
    case pos =>
      go_wp2_with fail
      go_ret
      exact ⟨rfl, Below.refl _ _⟩
    case neg =>
    by_cases hi1 : (ns : Int) ≤ iz
    case pos =>
      go_wp2_with fail
      go_ret
      exact ⟨rfl, Below.refl _ _⟩
    case neg =>
    obtain ⟨i, rfl⟩ : ∃ i : Nat, iz = (i : Int) := ⟨iz.toNat, by omega⟩
    have hilt : i < ns := by omega
    have hiz : (i : Int) < (ns : Int) := by omega
    cases sa with
    | none => exact absurd (HS.out.none rfl) (by omega)
    | some ad =>
    have H27 := hide (f27_zs w ad ns cs (by omega) zs HS.out.zl (HS.out.src ad rfl))
    clear hi0 hi1
    go_wp2_with fail
    refine H27.out.mono ?_
    rintro e w1 ⟨gs, rfl, hat1, hb1⟩
    have H10 := hide (f10_any w1 ao nv cap A L0 C0 HSM.out.2 (HV.out.below hb1))
    clear H27
    go_wp2_with fail
    refine H10.out.mono ?_
    rintro e w2 ⟨va, vc, vs, rfl, hcl, hb2⟩
    clear H10
    go_wp2_with fail
    refine (f11_new w2).mono ?_
    rintro e w3 ⟨a, rfl, -, ha3, hb3⟩
    go_wp2_with fail
    refine (f11_new w3).mono ?_
    rintro e w4 ⟨b, rfl, hbge, hb4l, hb4⟩
    have ha4 := ha3.below hb4
    have HAB := hide (show b ≠ a by have := ha3.lt; omega)
    clear hbge
    go_wp2_with fail
    refine (f12_new w4 a ha4).mono ?_
    rintro e w7 ⟨t, rfl, hT7, hb7⟩
    have hSC : Scn w w7 t a b gs zs va nv vs := by
      have hb12 := hb1.trans (hb2.mono hb1.size)
      have hb13 := hb12.trans (hb3.mono hb12.size)
      have hb14 := hb13.trans (hb4.mono hb13.size)
      have hb17 := hb14.trans (hb7.mono hb14.size)
      have hx24 := hb3.trans (hb4.mono hb3.size)
      have hx27 := hx24.trans (hb7.mono hx24.size)
      have hx17 := hb2.trans (hx27.mono hb2.size)
      exact ⟨hT7, hb4l.below hb7, HAB.out, hat1.below hx17 hat1.lt, hcl.below hx27, hb17⟩
    have HSC := hide hSC
    clear hSC hT7 hb7 hb4 hb4l hb3 hb2 hb1 hat1 hcl ha3 ha4
    have H28 := hide (f28_any w7 a b gs ns nv va vc vs zs HSC.out.siz HS.out.zl HS.out.byte (by omega) hn4 HSC.out.cl hn6)
    go_wp2_with fail
    refine H28.out.mono ?_
    rintro e w8 ⟨lab, V, L, Y, ps, all, p, evp, kvp, rfl, hcase⟩
    have hLn : L.length = ns := hcase.len.trans HS.out.zl
    obtain ⟨g1, g2, g3, g4, g5, g6, c1, c2, c3, c4, c5, c6, ⟨hV1, hV2, hV3, hV4, hV5, hV6⟩, hrd⟩ := hcase.forms HS.out.byte (by omega)
    rw [hV1, hV2, hV3, hV4, hV5, hV6, hLn]
    have HRD := hide hrd
    have HCASE := hide hcase
    have HLN := hide hLn
    clear hrd hcase hV1 hV2 hV3 hV4 hV5 hV6 hLn H28
    have hb9 : Below w8.heap.size w8 (w8.alloc (.cells #[pv p, .slice (some ⟨g1, 0, none⟩) ns c1, .slice (some ⟨g2, 0, none⟩) ns c2, .slice (some ⟨g3, 0, none⟩) ns c3, .slice (some ⟨g4, 0, none⟩) ns c4, .slice (some ⟨g5, 0, none⟩) all.length c5, .slice (some ⟨g6, 0, none⟩) all.length c6] 53)) := (Below.refl _ _).alloc (Nat.le_refl _) _
    have hat9 := At.new w8 [pv p, .slice (some ⟨g1, 0, none⟩) ns c1, .slice (some ⟨g2, 0, none⟩) ns c2, .slice (some ⟨g3, 0, none⟩) ns c3, .slice (some ⟨g4, 0, none⟩) ns c4, .slice (some ⟨g5, 0, none⟩) all.length c5, .slice (some ⟨g6, 0, none⟩) all.length c6] 53
    have HFILL := hide (after_fill (tb := w8.heap.size) (fs := [pv p, .slice (some ⟨g1, 0, none⟩) ns c1, .slice (some ⟨g2, 0, none⟩) ns c2, .slice (some ⟨g3, 0, none⟩) ns c3, .slice (some ⟨g4, 0, none⟩) ns c4, .slice (some ⟨g5, 0, none⟩) all.length c5, .slice (some ⟨g6, 0, none⟩) all.length c6]) (i := i) HSC.out HCASE.out HS.out.byte HRD.out hb9 hat9 (Nat.le_refl _) (by have := HLN.out; omega) (by have := HLN.out; omega) (by have := HLN.out; omega))
    have h18 := f18_any (HCASE.out.par.below hb9)
    rw [List.length_map, HLN.out] at h18
    have H18 := hide h18
    have HAT9 := hide hat9
    clear h18 hat9 hb9 HRD
    go_upto_region 19 with fail
    generalize w8.alloc (.cells #[pv p, .slice (some ⟨g1, 0, none⟩) ns c1, .slice (some ⟨g2, 0, none⟩) ns c2, .slice (some ⟨g3, 0, none⟩) ns c3, .slice (some ⟨g4, 0, none⟩) ns c4, .slice (some ⟨g5, 0, none⟩) all.length c5, .slice (some ⟨g6, 0, none⟩) all.length c6] 53) = w9 at *
    generalize w8.heap.size = tb at *
    have d0 : w9.cell? ⟨tb, 0, none⟩ = some (pv p) := HAT9.out.cell rfl
    clear HAT9
    go_wp2_with fail
    refine H18.out.mono ?_
    rintro e w' ⟨rfl, hw⟩
    rw [hw]; clear hw w' H18
    go_wp2_with fail
    refine HFILL.out.mono ?_
    rintro e W ⟨r, rfl, M, qs, hD⟩
    obtain ⟨evq, kvq, hpar⟩ := hD.fil.par
    obtain ⟨m, hm⟩ : ∃ m, M.length = m := ⟨_, rfl⟩
    have e0 : W.cell? ⟨tb, 0, none⟩ = some (pv p) := hD.tab.cell rfl
    have e5 : W.cell? ⟨tb, 5, none⟩ = some (.slice (some ⟨g5, 0, none⟩) all.length c5) := hD.tab.cell rfl
    have e6 : W.cell? ⟨tb, 6, none⟩ = some (.slice (some ⟨g6, 0, none⟩) all.length c6) := hD.tab.cell rfl
    have hcnt := hD.fil.cnt
    rw [List.length_map, HLN.out, hm] at hcnt
    have hmm : m ≤ 4096 := by omega
    have hrm : r < m := by
      obtain ⟨kr, ki, h1, -⟩ := hD.fil.ans
      have := (List.getElem?_eq_some_iff.1 h1).1
      omega
    have hal : all.length ≤ 131072 := by have := hD.al; have := HLN.out; omega
    have H29 := hide (f29_any W p a evq qs kvq (M.map Kid.b) (M.map Kid.es) g5 g6 all.length c5 c6 all hpar (by simp [hD.fil.len]) (by simp) (fun k h h2 => ⟨(M[k]'(by simpa using h)).o, (M[k]'(by simpa using h)).ev, by rw [List.getElem_map, List.getElem_map]; exact hD.fil.kid _ (List.getElem_mem _)⟩) hD.ord rfl (by omega) (by simp; omega) hD.rd.al)
    have h18 := f18_any hpar
    rw [List.length_map, hm] at h18
    have H18 := hide h18
    have HD := hide hD
    have HM := hide hm
    have HPAR := hide hpar
    have HCT := hide (show (m = ns ∧ r = i) ∨ (m + 1 = ns ∧ (r = i ∨ (r + 1 = i ∧ i + 1 = ns))) by omega)
    clear hD hm hpar hcnt h18 HFILL d0
    go_wp2_with fail
    refine H18.out.mono ?_
    rintro e w' ⟨rfl, hw⟩
    rw [hw]; clear hw w' H18
    go_wp2_with fail
    refine H29.out.mono ?_
    rintro e WD ⟨rfl, hd⟩
    have hparD := HPAR.out.same hd.heap
    have hRD := HD.out.rd.same hd
    have htab := HD.out.tab.same hd.heap
    have hbw := Below.drewOf HD.out.below hd
    have hkid : ∀ k ∈ M, k.at WD := fun k hk => NodeAt.same (HD.out.fil.kid k hk) hd.heap
    have HPD := hide hparD
    have HRD := hide hRD
    have HKD := hide hkid
    have HBW := hide hbw
    have q0 : WD.cell? ⟨tb, 0, none⟩ = some (pv p) := htab.cell rfl
    have q1 : WD.cell? ⟨tb, 1, none⟩ = some (.slice (some ⟨g1, 0, none⟩) ns c1) := htab.cell rfl
    have q3 : WD.cell? ⟨tb, 3, none⟩ = some (.slice (some ⟨g3, 0, none⟩) ns c3) := htab.cell rfl
    clear hparD hRD htab hbw hkid hd H29 HPAR e0 e5 e6
    go_upto_region 24 with fail
    go_cut [1, 12, 13, 87] (fun s1 s12 s13 c wx => s1 = .int .i64 i ∧ s12 = .int .i64 r ∧ s13 = .int .i64 m ∧ c = .bool false ∧ WD = wx)
    case first =>
      have hdis : (m = ns) ∨ (m + 1 = ns) := by have := HCT.out; omega
      rcases hdis with h1 | h1
      · have HH := hide h1
        have fb1 : ((m : Int) != (ns : Int)) = false := by simp; omega
        have fb1e : ((m : Int) == (ns : Int)) = true := beq_iff_eq.2 (by omega)
        have fb2 : ((m : Int) != ((ns : Int) - 1)) = true := by simp; omega
        have fb2e : ((m : Int) == ((ns : Int) - 1)) = false := beq_eq_false_iff_ne.2 (by omega)
        clear h1
        go_wp2_with fail
        go_meet
        have hh := HH.out
        exact ⟨by first | rfl | (congr 1; omega), by first | rfl | (congr 1; omega), by first | rfl | (congr 1; omega), by first | rfl | (simp; omega), rfl⟩
      · have HH := hide h1
        have fb1 : ((m : Int) != (ns : Int)) = true := by simp; omega
        have fb1e : ((m : Int) == (ns : Int)) = false := beq_eq_false_iff_ne.2 (by omega)
        have fb2 : ((m : Int) != ((ns : Int) - 1)) = false := by simp; omega
        have fb2e : ((m : Int) == ((ns : Int) - 1)) = true := beq_iff_eq.2 (by omega)
        clear h1
        go_wp2_with fail
        go_meet
        have hh := HH.out
        exact ⟨by first | rfl | (congr 1; omega), by first | rfl | (congr 1; omega), by first | rfl | (congr 1; omega), by first | rfl | (simp; omega), rfl⟩
    case rest =>
    obtain ⟨rfl, rfl, rfl, rfl, rfl⟩ := hcut
    go_upto_region 26 with fail
    go_cut [1, 12, 13, 95] from 88 to 95 (fun s1 s12 s13 c wx => s1 = .int .i64 i ∧ s12 = .int .i64 r ∧ s13 = .int .i64 m ∧ c = .bool false ∧ WD = wx)
    case first =>
      have hdis : (m = ns ∧ r = i) ∨ (m + 1 = ns) := by have := HCT.out; omega
      rcases hdis with h1 | h1
      · have HH := hide h1
        have fb1 : ((m : Int) != (ns : Int)) = false := by simp; omega
        have fb1e : ((m : Int) == (ns : Int)) = true := beq_iff_eq.2 (by omega)
        have fb3 : ((r : Int) != (i : Int)) = false := by simp; omega
        have fb3e : ((r : Int) == (i : Int)) = true := beq_iff_eq.2 (by omega)
        clear h1
        go_wp2_with fail
        go_meet
        have hh := HH.out
        exact ⟨by first | rfl | (congr 1; omega), by first | rfl | (congr 1; omega), by first | rfl | (congr 1; omega), by first | rfl | (simp; omega), rfl⟩
      · have HH := hide h1
        have fb1 : ((m : Int) != (ns : Int)) = true := by simp; omega
        have fb1e : ((m : Int) == (ns : Int)) = false := beq_eq_false_iff_ne.2 (by omega)
        clear h1
        go_wp2_with fail
        go_meet
        have hh := HH.out
        exact ⟨by first | rfl | (congr 1; omega), by first | rfl | (congr 1; omega), by first | rfl | (congr 1; omega), by first | rfl | (simp; omega), rfl⟩
    case rest =>
    obtain ⟨rfl, rfl, rfl, rfl, rfl⟩ := hcut
    go_upto_region 28 with fail
    go_cut [1, 12, 13, 110] from 96 to 110 (fun s1 s12 s13 c wx => s1 = .int .i64 i ∧ s12 = .int .i64 r ∧ s13 = .int .i64 m ∧ c = .bool false ∧ WD = wx)
    case first =>
      have hdis : (m = ns) ∨ (m + 1 = ns ∧ r = i) ∨ (m + 1 = ns ∧ r + 1 = i) := by have := HCT.out; omega
      rcases hdis with h1 | h1 | h1
      · have HH := hide h1
        have fb2 : ((m : Int) != ((ns : Int) - 1)) = true := by simp; omega
        have fb2e : ((m : Int) == ((ns : Int) - 1)) = false := beq_eq_false_iff_ne.2 (by omega)
        clear h1
        go_wp2_with fail
        go_meet
        have hh := HH.out
        exact ⟨by first | rfl | (congr 1; omega), by first | rfl | (congr 1; omega), by first | rfl | (congr 1; omega), by first | rfl | (simp; omega), rfl⟩
      · have HH := hide h1
        have fb2 : ((m : Int) != ((ns : Int) - 1)) = false := by simp; omega
        have fb2e : ((m : Int) == ((ns : Int) - 1)) = true := beq_iff_eq.2 (by omega)
        have fb3 : ((r : Int) != (i : Int)) = false := by simp; omega
        have fb3e : ((r : Int) == (i : Int)) = true := beq_iff_eq.2 (by omega)
        have fb4 : ((r : Int) != ((i : Int) - 1)) = true := by simp; omega
        have fb4e : ((r : Int) == ((i : Int) - 1)) = false := beq_eq_false_iff_ne.2 (by omega)
        clear h1
        go_wp2_with fail
        go_meet
        have hh := HH.out
        exact ⟨by first | rfl | (congr 1; omega), by first | rfl | (congr 1; omega), by first | rfl | (congr 1; omega), by first | rfl | (simp; omega), rfl⟩
      · have HH := hide h1
        have fb2 : ((m : Int) != ((ns : Int) - 1)) = false := by simp; omega
        have fb2e : ((m : Int) == ((ns : Int) - 1)) = true := beq_iff_eq.2 (by omega)
        have fb3 : ((r : Int) != (i : Int)) = true := by simp; omega
        have fb3e : ((r : Int) == (i : Int)) = false := beq_eq_false_iff_ne.2 (by omega)
        have fb4 : ((r : Int) != ((i : Int) - 1)) = false := by simp; omega
        have fb4e : ((r : Int) == ((i : Int) - 1)) = true := beq_iff_eq.2 (by omega)
        clear h1
        go_wp2_with fail
        go_meet
        have hh := HH.out
        exact ⟨by first | rfl | (congr 1; omega), by first | rfl | (congr 1; omega), by first | rfl | (congr 1; omega), by first | rfl | (simp; omega), rfl⟩
    case rest =>
    obtain ⟨rfl, rfl, rfl, rfl, rfl⟩ := hcut
    go_upto_region 30 with fail
    go_cut [1, 12, 13, 120] from 111 to 120 (fun s1 s12 s13 c wx => s1 = .int .i64 i ∧ s12 = .int .i64 r ∧ s13 = .int .i64 m ∧ c = .bool false ∧ WD = wx)
    case first =>
      have hdis : (r = i) ∨ (r + 1 = i ∧ i + 1 = ns) := by have := HCT.out; omega
      rcases hdis with h1 | h1
      · have HH := hide h1
        have fb4 : ((r : Int) != ((i : Int) - 1)) = true := by simp; omega
        have fb4e : ((r : Int) == ((i : Int) - 1)) = false := beq_eq_false_iff_ne.2 (by omega)
        clear h1
        go_wp2_with fail
        go_meet
        have hh := HH.out
        exact ⟨by first | rfl | (congr 1; omega), by first | rfl | (congr 1; omega), by first | rfl | (congr 1; omega), by first | rfl | (simp; omega), rfl⟩
      · have HH := hide h1
        have fb4 : ((r : Int) != ((i : Int) - 1)) = false := by simp; omega
        have fb4e : ((r : Int) == ((i : Int) - 1)) = true := beq_iff_eq.2 (by omega)
        have fb5 : ((i : Int) != ((ns : Int) - 1)) = false := by simp; omega
        have fb5e : ((i : Int) == ((ns : Int) - 1)) = true := beq_iff_eq.2 (by omega)
        clear h1
        go_wp2_with fail
        go_meet
        have hh := HH.out
        exact ⟨by first | rfl | (congr 1; omega), by first | rfl | (congr 1; omega), by first | rfl | (congr 1; omega), by first | rfl | (simp; omega), rfl⟩
    case rest =>
    obtain ⟨rfl, rfl, rfl, rfl, rfl⟩ := hcut
    go_upto_region 32 with fail
    go_cut [127] from 121 to 127 (fun c wx => c = .bool false ∧ WD = wx)
    case first =>
      have fr0 : (0 : Int) ≤ (r : Int) := Int.natCast_nonneg _
      have fr1 : (r : Int) < (m : Int) := by omega
      go_wp2_with fail
      go_meet
      exact ⟨by first | rfl | (simp; omega), rfl⟩
    case rest =>
    obtain ⟨rfl, rfl⟩ := hcut
    go_wp2_with fail
    go_loopg [14] m (fun g s wr => WD = wr ∧ ∃ k : Nat, k ≤ m ∧ g = m - k ∧ s = .int .i64 k)
    case atStart => exact ⟨rfl, 0, Nat.zero_le _, rfl, rfl⟩
    case round =>
      obtain ⟨rfl, k, hkm, rfl, rfl⟩ := hrel
      by_cases hlt : k < m
      · have hkl : k < M.length := by have := HM.out; omega
        have hkz : (k : Int) < (m : Int) := by omega
        obtain ⟨kd, hkd⟩ : ∃ kd, M[k] = kd := ⟨_, rfl⟩
        have hmem : kd ∈ M := by rw [← hkd]; exact List.getElem_mem _
        have hat := HKD.out kd hmem
        have h20 := f20_any HPD.out k (by simpa using hkl)
        rw [List.getElem_map, hkd] at h20
        have H20 := hide h20
        have H30 := hide (f30_any hat)
        have H17 := hide (f17_any hat)
        have hok := HD.out.fil.ok kd hmem
        have z1 : (15 : Int) ≤ (kd.es.length : Int) := by have := hok.1; omega
        have z2 : (kd.es.length : Int) ≤ 31 := by have := hok.2; omega
        clear h20 hat hok hmem hkd
        go_wp2_with fail
        refine H20.out.mono ?_
        rintro e w' ⟨rfl, hw⟩
        rw [hw]; clear hw w' H20
        go_wp2_with fail
        refine H30.out.mono ?_
        rintro e w' ⟨rfl, hw⟩
        rw [hw]; clear hw w' H30
        go_wp2_with fail
        refine H17.out.mono ?_
        rintro e w' ⟨rfl, hw⟩
        rw [hw]; clear hw w'
        go_wp2_with fail
        refine H17.out.mono ?_
        rintro e w' ⟨rfl, hw⟩
        rw [hw]; clear hw w' H17
        go_wp2_with fail
        go_roundg (m - (k + 1))
        case measure => omega
        case rel => exact ⟨rfl, k + 1, by omega, rfl, by go_num⟩
      · have hkz : ¬ (k : Int) < (m : Int) := by omega
        obtain ⟨kr, ki, hkr, hki, h15, hsub, hroom, -⟩ := HD.out.fil.ans
        have hiL : i < L.length := by have := HLN.out; omega
        have hki' : L[i].k = ki := by
          rw [List.getElem?_map, List.getElem?_eq_getElem hiL] at hki
          simpa using hki
        have hrl : r < M.length := by have := HM.out; omega
        have hkr' : M[r] = kr := by
          rw [List.getElem?_eq_getElem hrl] at hkr
          simpa using hkr
        have hmem : kr ∈ M := by rw [← hkr']; exact List.getElem_mem _
        have hat := HKD.out kr hmem
        have h20 := f20_any HPD.out r (by simpa using hrl)
        rw [List.getElem_map, hkr'] at h20
        have hcmp := HRD.out.cmp i hiL
        have hck := HRD.out.ck i hiL
        rw [hki'] at hcmp hck
        have hki2 := HD.out.fil
        have hok : ki.ok := by rw [← hki']; exact HCASE.out.ok HS.out.byte i hiL
        unfold Kid.ok at hok
        obtain ⟨ln, hln⟩ : ∃ ln, ki.es.length = ln + 1 := ⟨ki.es.length - 1, by omega⟩
        obtain ⟨kb, hkb⟩ : ∃ kb, L[i].kb = kb := ⟨_, rfl⟩
        rw [hkb] at hcmp hck
        rw [hln] at hck
        obtain ⟨s0, hs0⟩ : ∃ s0, (ki.es[0]'(by omega)).1 = s0 := ⟨_, rfl⟩
        obtain ⟨s1, hs1⟩ : ∃ s1, (ki.es[ln]'(by omega)).1 = s1 := ⟨_, rfl⟩
        have k0 : WD.cell? ⟨kb, 0, none⟩ = some (.string s0) := by
          obtain ⟨bb, hbb, hcc⟩ := hcmp.k 0 (by omega)
          cases hbb
          rw [hs0] at hcc
          exact hcc
        have k1 : WD.cell? ⟨kb, ln, none⟩ = some (.string s1) := by
          obtain ⟨bb, hbb, hcc⟩ := hcmp.k ln (by omega)
          cases hbb
          rw [hs1] at hcc
          exact hcc
        have hkrl : kr.es.length ≤ 31 := (HD.out.fil.ok kr hmem).2
        have H31a := hide (f31_any hat s0 ⟨_, hsub _ (List.getElem_mem _), hs0⟩ (by omega))
        have H31b := hide (f31_any hat s1 ⟨_, hsub _ (List.getElem_mem _), hs1⟩ (by omega))
        have H20 := hide h20
        have H17 := hide (f17_any hat)
        have z1 : (15 : Int) < (kr.es.length : Int) := by omega
        have hlnb : ln ≤ 31 := by omega
        have HROOM := hide (fun h : 15 < ln + 1 => hroom (by omega))
        have hln0 : (0 : Int) ≤ (ln : Int) := Int.natCast_nonneg _
        have hln1 : (ln : Int) < (ln : Int) + 1 := by omega
        clear h20 hat hcmp hki2 hroom hsub hkr hki hki' hkr' hmem h15 hs0 hs1 hln hkb hok hkrl
        go_wp2_with fail
        refine H20.out.mono ?_
        rintro e w' ⟨rfl, hw⟩
        rw [hw]; clear hw w' H20
        go_wp2_with fail
        refine H17.out.mono ?_
        rintro e w' ⟨rfl, hw⟩
        rw [hw]; clear hw w' H17
        go_wp2_with fail
        refine H31a.out.mono ?_
        rintro e w' ⟨rfl, hw⟩
        rw [hw]; clear hw w' H31a
        go_wp2_with fail
        refine H31b.out.mono ?_
        rintro e w' ⟨rfl, hw⟩
        rw [hw]; clear hw w' H31b
        by_cases hbig : 15 < ln + 1
        · obtain ⟨hML, hri⟩ := HROOM.out hbig
          have hbz : (15 : Int) < (ln : Int) + 1 := by omega
          have hmn : m = ns := by
            have h1 := HM.out
            have h2 := HLN.out
            rw [hML, List.length_map] at h1
            omega
          have HML := hide hML
          have HRI := hide hri
          have hmnb : ((m : Int) != (ns : Int)) = false := by simp; omega
          have HMN := hide hmn
          clear hML hri hmn HCT
          go_wp2_with fail
          clear k0 k1 hck
          go_loopg [18] m (fun g s wr => ∃ k : Nat, k ≤ m ∧ g = m - k ∧ s = .int .i64 k ∧ Drew WD wr)
          case atStart => exact ⟨0, Nat.zero_le _, rfl, rfl, Drew.refl _⟩
          case round =>
            obtain ⟨k2, hk2m, rfl, rfl, hq2⟩ := hrel
            by_cases hlt2 : k2 < m
            · have hk2L : k2 < L.length := by have := HLN.out; have := HMN.out; omega
              have hk2M : k2 < M.length := by have := HM.out; omega
              have hk2z : (k2 : Int) < (m : Int) := by omega
              have hk2n : (k2 : Int) < (ns : Int) := by have := HMN.out; omega
              have hk20 : (0 : Int) ≤ (k2 : Int) := Int.natCast_nonneg _
              have hMk : M[k2].b = L[k2].k.b := by
                have hx : M[k2]? = (L.map Kd.k)[k2]? := by rw [HML.out]
                rw [List.getElem?_eq_getElem hk2M, List.getElem?_map, List.getElem?_eq_getElem hk2L] at hx
                simp at hx
                rw [hx]
              obtain ⟨cb, hcb⟩ : ∃ cb, L[k2].k.b = cb := ⟨_, rfl⟩
              have hkc := HRD.out.kids k2 hk2L
              rw [hcb, ← hq2.cell] at hkc
              have h20 : ∀ W2, W2.heap = wr.heap → Calls Try.prog 20 #[pv p, .int .i64 k2] W2 fun e w' => e = .returned (pv cb) ∧ w' = W2 := fun W2 hW2 => by
                have := f20_any (HPD.out.same (hW2.trans hq2.heap)) k2 (by simpa using hk2M)
                rw [List.getElem_map, hMk, hcb] at this
                exact this
              have H20 := hide h20
              have p0 : wr.cell? ⟨tb, 0, none⟩ = some (pv p) := by rw [hq2.cell]; exact q0
              have p1 : wr.cell? ⟨tb, 1, none⟩ = some (.slice (some ⟨g1, 0, none⟩) ns c1) := by rw [hq2.cell]; exact q1
              have hne := fun W => neq_node_same (w := W) cb
              clear h20 hMk hcb
              go_wp2_with fail
              go_quiet ((go_at_call 20; refine Calls.quiet_of_same (H20.out _ ?_); rfl))
              go_wp2_with fail
              go_roundg (m - (k2 + 1))
              case measure => omega
              case rel => exact ⟨k2 + 1, by omega, rfl, by go_num, hq2.more _⟩
            · have hk2z : ¬ (k2 : Int) < (m : Int) := by omega
              go_wp2_with fail
              go_ret
              exact ⟨rfl, Below.drewOf HBW.out hq2⟩
        · have hbz : ¬ (15 : Int) < (ln : Int) + 1 := by omega
          go_wp2_with fail
          go_ret
          exact ⟨rfl, HBW.out⟩

end Go.Proofs.Qxb6600085a
