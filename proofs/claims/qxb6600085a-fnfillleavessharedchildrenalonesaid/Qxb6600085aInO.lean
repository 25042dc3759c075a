/-
  nodeHolds; inOrderMatches.
-/
import Derived.Test.Qxb6600085aDuo
import Derived.Test.Qxb6600085aOrd
namespace Go.Proofs.Qxb6600085a
open Go.RowKit

set_option maxHeartbeats 400000 in
theorem f31_any {w : World} {b o : Nat} {ev : Value} {es : List Ent} {kv : Value} {inner : Bool} {ks : List Nat} (hN : NodeAt w b o ev es kv inner ks) (s : ByteArray) (hs : ∃ e ∈ es, e.1 = s) (hl : es.length ≤ 1048576) :
    Calls Try.prog 31 #[pv b, .string s] w fun e w' => e = .returned (.bool true) ∧ w' = w := by
  have HS := hide hs
  clear hs
  go_enter Try.func31, Try.ntmps31
  go_wp2
  go_loop [5] (fun i => ∃ k : Nat, k ≤ es.length ∧ i = .int .i64 k ∧ Hid (∀ j (h : j < es.length), j < k → (es[j].1.toList == s.toList) = false)) (fun i => es.length - (intOf i).toNat)
  case atStart => exact ⟨0, Nat.zero_le _, rfl, fun j _ hj => absurd hj (Nat.not_lt_zero _)⟩
  case round =>
    obtain ⟨k, hk, rfl, hno⟩ := hrel
    have h17 := hide (f17_any hN)
    by_cases hlt : k < es.length
    · have h36 := hide (f36_any hN k hlt)
      obtain ⟨q, hq⟩ : ∃ q, es[k].1 = q := ⟨_, rfl⟩
      have h36' : Hid (Calls Try.prog 36 #[pv b, .int .i64 k] w fun e w' => e = .returned (.string q) ∧ w' = w) := by rw [← hq]; exact h36
      have HQ := hide hq
      clear h36 hq hN
      go_wp2_with fail
      refine h17.out.mono ?_
      rintro e w' ⟨rfl, hw⟩
      rw [hw]; clear hw w'
      go_wp2_with fail
      refine h36'.out.mono ?_
      rintro e w' ⟨rfl, hw⟩
      rw [hw]; clear hw w'
      cases hb : (q.toList == s.toList)
      case true =>
        go_wp2_with fail
        go_ret
        exact ⟨rfl, rfl⟩
      case false =>
        have HB := hide hb
        go_wp2_with fail
        go_round
        case rel =>
          refine ⟨k + 1, by omega, by go_num, fun j hj hjk => ?_⟩
          rcases Nat.lt_succ_iff_lt_or_eq.1 hjk with h | h
          · exact hno.out j hj h
          · subst h; rw [HQ.out]; exact HB.out
        case measure => simp [intOf]; omega
    · exfalso
      obtain ⟨e, he, hes⟩ := HS.out
      obtain ⟨j, hj, rfl⟩ := List.getElem_of_mem he
      have := hno.out j hj (by omega)
      rw [hes] at this
      simp at this

theorem ord_step {all : List Ent} {cs : List (List Ent)} {ps : List Ent} {q j : Nat} (hj : j < cs.length) (hl : cs.length = ps.length + 1) (hq : q ≤ all.length) (h : all.drop q = inord (cs.drop j) (ps.drop j)) :
    (∀ e (he : e < cs[j].length), all[q + e]? = some cs[j][e]) ∧
    (∀ hp : j < ps.length, all[q + cs[j].length]? = some ps[j] ∧ q + cs[j].length + 1 ≤ all.length ∧ all.drop (q + cs[j].length + 1) = inord (cs.drop (j + 1)) (ps.drop (j + 1))) ∧
    (¬ j < ps.length → q + cs[j].length ≤ all.length ∧ all.drop (q + cs[j].length) = inord (cs.drop (j + 1)) (ps.drop (j + 1))) := by
  rw [List.drop_eq_getElem_cons hj] at h
  have hlen : all.length = q + (all.drop q).length := by simp; omega
  by_cases hp : j < ps.length
  · rw [List.drop_eq_getElem_cons hp] at h
    have h' : all.drop q = cs[j] ++ ps[j] :: inord (cs.drop (j + 1)) (ps.drop (j + 1)) := h
    rw [h'] at hlen
    simp at hlen
    refine ⟨fun e he => ?_, fun _ => ⟨?_, by omega, ?_⟩, fun h => absurd hp h⟩
    · rw [← List.getElem?_drop, h', List.getElem?_append_left he, List.getElem?_eq_getElem he]
    · rw [← List.getElem?_drop, h', List.getElem?_append_right (Nat.le_refl _)]; simp
    · rw [Nat.add_assoc, ← List.drop_drop, h', ← List.drop_drop, List.drop_left]; rfl
  · have e : ps.drop j = [] := List.drop_eq_nil_of_le (by omega)
    have e2 : cs.drop (j + 1) = [] := List.drop_eq_nil_of_le (by omega)
    rw [e] at h
    have h' : all.drop q = cs[j] := h
    rw [h'] at hlen
    refine ⟨fun e he => ?_, fun h => absurd h hp, fun _ => ⟨by omega, ?_⟩⟩
    · rw [← List.getElem?_drop, h', List.getElem?_eq_getElem he]
    · rw [← List.drop_drop, h', e2]; simp [inord]

/-- What inOrderMatches compares with. -/
structure AllAt (w : World) (ga gv : Nat) (all : List Ent) : Prop where
  k : ∀ i e, all[i]? = some e → w.cell? ⟨ga, i, none⟩ = some (.string e.1)
  v : ∀ i e, all[i]? = some e → w.cell? ⟨gv, i, none⟩ = some (sv e.2)
  isB : ∀ e ∈ all, IsB 0 w (sv e.2)

set_option maxRecDepth 100000 in
set_option maxHeartbeats 1600000 in
theorem f29_any (w : World) (p op : Nat) (evp : Value) (ps : List Ent) (kvp : Value) (ks : List Nat) (cs : List (List Ent)) (ga gv N ca cv : Nat) (all : List Ent) (hP : NodeAt w p op evp ps kvp true ks) (hlen : ks.length = ps.length + 1) (hcs : cs.length = ks.length)
    (hk : ∀ k (h : k < ks.length) (h2 : k < cs.length), ∃ o ev, LeafAt w ks[k] o ev cs[k]) (hord : inord cs ps = all) (hN : all.length = N) (hN1 : N ≤ 1048576) (hks : ks.length ≤ 1048576) (hA : AllAt w ga gv all) :
    Calls Try.prog 29 #[pv p, .slice (some ⟨ga, 0, none⟩) N ca, .slice (some ⟨gv, 0, none⟩) N cv] w fun e w' => e = .returned (.bool true) ∧ Drew w w' := by
  have h18 := hide (f18_any hP)
  have h17 := hide (f17_any hP)
  have HK := hide hk
  have HA := hide hA
  have HP := hide hP
  have HL := hide (And.intro hlen hcs)
  have HO := hide (And.intro hord hN)
  have hlz : (ks.length : Int) = (ps.length : Int) + 1 := by omega
  clear hk hA hP hlen hcs hord hN
  go_enter Try.func29, Try.ntmps29
  go_wp2_with fail
  refine h18.out.mono ?_
  rintro e w' ⟨rfl, hw⟩
  rw [hw]; clear hw w'
  go_wp2_with fail
  refine h17.out.mono ?_
  rintro e w' ⟨rfl, hw⟩
  rw [hw]; clear hw w'
  go_wp2_with fail
  clear h17 h18
  go_loopw [8, 9] (fun s8 s9 wr => ∃ q j : Nat, j ≤ ps.length + 1 ∧ s8 = .int .i64 q ∧ s9 = .int .i64 j ∧ Drew w wr ∧ Hid (q ≤ all.length ∧ all.drop q = inord (cs.drop j) (ps.drop j))) (fun _ s9 _ => ps.length + 1 - (intOf s9).toNat)
  case atStart => exact ⟨0, 0, Nat.zero_le _, rfl, rfl, Drew.refl _, Nat.zero_le _, HO.out.1.symm⟩
  case round =>
    obtain ⟨q, j, hj, rfl, rfl, hq, hrest⟩ := hrel
    by_cases hlt : j < ps.length + 1
    · have hjc : j < cs.length := by have := HL.out; omega
      have hjk : j < ks.length := by have := HL.out; omega
      obtain ⟨st1, st2, st3⟩ := ord_step hjc (by have := HL.out; omega) hrest.out.1 hrest.out.2
      obtain ⟨oc, evc, hC⟩ := HK.out j hjk hjc
      obtain ⟨c, hc⟩ : ∃ c, cs[j] = c := ⟨_, rfl⟩
      rw [hc] at st1 st2 st3 hC
      have hall : q + c.length ≤ all.length := by
        by_cases hp : j < ps.length
        · have := st2 hp; omega
        · exact (st3 hp).1
      have ST1 := hide st1
      have ST2 := hide st2
      have ST3 := hide st3
      have HALL := hide hall
      have hcl : c.length ≤ 1048576 := by have := HO.out.2; omega
      have hC0 := hide hC
      generalize hb : ks[j] = cb at hC hC0
      have h20 : Hid (Calls Try.prog 20 #[pv p, .int .i64 j] wr fun e w' => e = .returned (pv cb) ∧ w' = wr) := by
        have := f20_any (HP.out.same hq.heap) j hjk
        rw [hb] at this
        exact this
      have hjz : (j : Int) < (ps.length : Int) + 1 := by omega
      clear st1 st2 st3 hall hC hc hb hrest
      go_wp2_with fail
      refine h20.out.mono ?_
      rintro e w' ⟨rfl, hw⟩
      rw [hw]; clear hw w'
      generalize wr = wq at *
      clear wr h20
      go_wp2_with fail
      go_loopw [8, 11] (fun s8 s11 wr => ∃ z e : Nat, e ≤ c.length ∧ s8 = .int .i64 z ∧ s11 = .int .i64 e ∧ Drew w wr ∧ Hid (z = q + e)) (fun _ s11 _ => c.length - (intOf s11).toNat)
      case atStart => exact ⟨q, 0, Nat.zero_le _, rfl, rfl, hq, rfl⟩
      case round =>
        clear hq
        obtain ⟨z, e, he, rfl, rfl, hq, hz⟩ := hrel
        have hCr := hC0.out.same hq.heap
        have h17 := hide (f17_any hCr)
        by_cases hle : e < c.length
        · have hae : all[z]? = some c[e] := by rw [hz.out]; exact ST1.out e hle
          have hck := HA.out.k z _ hae
          have hcv := HA.out.v z _ hae
          have hBk := (HA.out.isB _ (List.mem_of_getElem? hae)).same hq.heap
          rw [← hq.cell] at hck hcv
          have hz1 : z < N := by have := HO.out.2; have := HALL.out; have := hz.out; omega
          have hz2 : (z : Int) < (N : Int) := by omega
          have hz0 : (0 : Int) ≤ (z : Int) := Int.natCast_nonneg _
          have hzd : decide ((N : Int) ≤ (z : Int)) = false := decide_eq_false (by omega)
          have hez : (e : Int) < (c.length : Int) := by omega
          clear hae
          go_wp2_with fail
          refine h17.out.mono ?_
          rintro e' w' ⟨rfl, hw⟩
          rw [hw]; clear hw w' h17
          go_wp2_with fail
          go_quiet (first | (go_at_call 36; refine Calls.quiet_of_same (f36_any (hCr.same ?_) e hle); rfl) | (go_at_call 38; refine Calls.quiet_of_same (f38_any (hCr.same ?_) e hle); rfl) | (go_at_call 37; refine Calls.quiet_of (f37_any _ (hBk.same ?_)); rfl))
          go_wp2_with fail
          go_roundw
          case rel => exact ⟨z + 1, e + 1, by omega, by go_num, by go_num, hq.more _, show z + 1 = q + (e + 1) by have := hz.out; omega⟩
          case measure => simp [intOf]; omega
        · have hee : e = c.length := by omega
          have hez : ¬ (e : Int) < (c.length : Int) := by omega
          go_wp2_with fail
          refine h17.out.mono ?_
          rintro e' w' ⟨rfl, hw⟩
          rw [hw]; clear hw w' h17 hCr
          by_cases hp : j < ps.length
          · obtain ⟨hae, hz3, hdr⟩ := ST2.out hp
            have hzz : z = q + c.length := by have := hz.out; omega
            rw [← hzz] at hae hz3 hdr
            have HDR := hide hdr
            have hck := HA.out.k z _ hae
            have hcv := HA.out.v z _ hae
            have hBk := (HA.out.isB _ (List.mem_of_getElem? hae)).same hq.heap
            rw [← hq.cell] at hck hcv
            have hPr := HP.out.same hq.heap
            have hz1 : z < N := by have := HO.out.2; omega
            have hz2 : (z : Int) < (N : Int) := by omega
            have hz0 : (0 : Int) ≤ (z : Int) := Int.natCast_nonneg _
            have hzd : decide ((N : Int) ≤ (z : Int)) = false := decide_eq_false (by omega)
            have hpz : (j : Int) + 1 < (ps.length : Int) + 1 := by omega
            clear hae hdr hzz
            go_wp2_with fail
            go_quiet (first | (go_at_call 36; refine Calls.quiet_of_same (f36_any (hPr.same ?_) j hp); rfl) | (go_at_call 38; refine Calls.quiet_of_same (f38_any (hPr.same ?_) j hp); rfl) | (go_at_call 37; refine Calls.quiet_of (f37_any _ (hBk.same ?_)); rfl))
            go_wp2_with fail
            go_roundw
            case rel => exact ⟨z + 1, j + 1, by omega, by go_num, by go_num, hq.more _, hz3, HDR.out⟩
            case measure => simp [intOf]; omega
          · obtain ⟨hz3, hdr⟩ := ST3.out hp
            have hzz : z = q + c.length := by have := hz.out; omega
            rw [← hzz] at hz3 hdr
            have HDR := hide hdr
            have hpz : ¬ (j : Int) + 1 < (ps.length : Int) + 1 := by omega
            clear hdr hzz
            go_wp2_with fail
            go_roundw
            case rel => exact ⟨z, j + 1, by omega, rfl, by go_num, hq, hz3, HDR.out⟩
            case measure => simp [intOf]; omega
    · have hzN : q = N := by
        have h1 := hrest.out
        have e2 : cs.drop j = [] := List.drop_eq_nil_of_le (by have := HL.out; omega)
        rw [e2] at h1
        have h3 : all.length ≤ q := List.drop_eq_nil_iff.1 (by rw [h1.2]; cases ps.drop j <;> rfl)
        have := HO.out.2
        omega
      subst hzN
      have hjz : ¬ (j : Int) < (ps.length : Int) + 1 := by omega
      go_wp2_with fail
      go_ret
      exact ⟨rfl, hq⟩

end Go.Proofs.Qxb6600085a
