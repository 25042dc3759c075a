/-
  copy at a step of a drawn region; removeAt, at entries and at children.
-/
import Derived.Test.Qxb6600085aSplit
namespace Go.Proofs.Qxb6600085a
open Go.RowKit

theorem step_copy_at {P : Program} (w : World) {ops : Array Oper} {o : Oper} {a : Act} {K : Act → World → Prop} {Q : Exit → Act → World → Prop} {E : Prop} (hgd : o.guard = none) (d s : Operand) (dT sT : TypeId)
    (ho : o.op = .call { callee := .builtin .copy, args := #[d, s], argTypes := #[dT, sT] }) (elem : TypeId) (size : Nat) (hu : P.underlying dT = some (.slice elem)) (hsz : (P.info? elem).map (·.size) = some size)
    (g off dLen dCap : Nat) (ad : Addr) (sLen sCap : Nat) (hd : a.eval d = .slice (some ⟨g, off, none⟩) dLen dCap) (hs : a.eval s = .slice (some ad) sLen sCap)
    (cur : List Value) (t : TypeId) (hg : At w g cur t) (cs : List Value) (hn : cs.length = Nat.min sLen dLen * size)
    (hsrc : ∀ j v, cs[j]? = some v → w.cell? (ad.add j) = some v) (hfit : off + cs.length ≤ cur.length) (h1 : ∀ v ∈ cs, v.oneCell' = true)
    (h : ∀ w', At w' g (splice cur off cs) t → Upd (fun k => k = g) w w' → K (a.put o.dst (goInt (Nat.min sLen dLen))) w') :
    if Region.wanted o (yielded ops a.tmps) = true then Oper.wp P o a w K Q else E := by
  have hw : Region.wanted o (yielded ops a.tmps) = true := by simp [Region.wanted, hgd]
  rw [if_pos hw]
  have hrun := run_copy_at (P := P) w dT sT o.type elem size g off dLen dCap ad sLen sCap cur t cs hu hsz hg hn hsrc hfit h1
  unfold Oper.wp
  simp [execOp, ho, resolve, invoke, builtin, hd, hs, hrun, Result.andThen]
  exact h _ (hg.setRow _) (Upd.setRow w g _)

/-- A list without its element i. -/
def del {α : Type} (i : Nat) (l : List α) : List α := l.take i ++ l.drop (i + 1)

theorem del_length {α : Type} (i : Nat) (l : List α) (h : i < l.length) : (del i l).length = l.length - 1 := by simp [del]; omega

/-- The row behind the copy of removeAt: the element is gone, the last stands twice. -/
theorem rem_row {α : Type} (L rest : List α) (size i n : Nat) (hl : L.length = n * size) (hi : i < n) :
    splice (L ++ rest) (i * size) (L.drop ((i + 1) * size)) = L.take (i * size) ++ L.drop ((i + 1) * size) ++ (L.drop ((n - 1) * size) ++ rest) := by
  have h1 : (i + 1) * size ≤ L.length := by rw [hl]; exact Nat.mul_le_mul_right _ hi
  have h0 : i * size ≤ (i + 1) * size := Nat.mul_le_mul_right _ (by omega)
  unfold splice
  rw [List.take_append_of_le_length (by omega), List.length_drop, hl]
  have e : i * size + (n * size - (i + 1) * size) = (n - 1) * size := by
    have e1 : (i + 1) * size = i * size + size := by rw [Nat.add_mul, Nat.one_mul]
    have e2 : n * size = (n - 1) * size + size := by
      obtain ⟨m, rfl⟩ : ∃ m, n = m + 1 := ⟨n - 1, by omega⟩
      rw [Nat.add_mul, Nat.one_mul, Nat.add_sub_cancel]
    omega
  rw [e, List.drop_append_of_le_length (by rw [hl]; exact Nat.mul_le_mul_right _ (by omega)), List.append_assoc]

/-- The row behind the copy, owned. -/
theorem rem_owns47 {w1 : World} {base g m cap i : Nat} {es : List Ent} {rest : List Value} (hl : (flat es).length = m * 2) (hl2 : (flat es).length + rest.length = cap * 2) (hm : es.length = m) (hi : i < m) (hmc : m ≤ cap) (hcm : cap ≤ maxLen) (hb : base ≤ g)
    (h : At w1 g (splice (flat es ++ rest) (i * 2) ((flat es).drop ((i + 1) * 2))) 64) : w1.ownsRow base 64 2 (.slice (some ⟨g, 0, none⟩) m cap) m (flat (es.take i ++ es.drop (i + 1) ++ es.drop (m - 1))) := by
  rw [rem_row _ _ _ _ _ hl hi, ← List.append_assoc] at h
  have e1 : (flat es).take (i * 2) ++ (flat es).drop ((i + 1) * 2) ++ (flat es).drop ((m - 1) * 2) = flat (es.take i ++ es.drop (i + 1) ++ es.drop (m - 1)) := by
    rw [flat_take, flat_drop, flat_drop, flat_append, flat_append]
  rw [e1] at h
  have e2 : (flat (es.take i ++ es.drop (i + 1) ++ es.drop (m - 1))).length = m * 2 := by
    rw [flat_length]; simp; omega
  exact owns_mk h hmc hcm e2 (by omega) hb

set_option maxRecDepth 100000 in
set_option maxHeartbeats 1600000 in
theorem f47_any (w : World) (base g m cap i : Nat) (es : List Ent) (hown : w.ownsRow base 64 2 (.slice (some ⟨g, 0, none⟩) m cap) m (flat es)) (hm : es.length = m) (hi : i < m) (hm1 : m ≤ 1048577) :
    Calls Try.prog 47 #[.slice (some ⟨g, 0, none⟩) m cap, .int .i64 i] w fun e w' => e = .returned (.slice (some ⟨g, 0, none⟩) (m - 1) cap) ∧ w'.ownsRow base 64 2 (.slice (some ⟨g, 0, none⟩) (m - 1) cap) (m - 1) (flat (del i es)) ∧ Upd (fun k => k = g) w w' := by
  obtain ⟨rest, -, hat, hmc, hcm, hl, hl2, hb⟩ := owns_at hown
  have hrem := fun w1 => rem_owns47 (w1 := w1) (base := base) (g := g) hl hl2 hm hi hmc hcm hb
  have HREM := hide hrem
  unfold maxLen at hcm
  have hsrc := cells_from_owns (k := (i + 1) * 2) hown
  have hone : ∀ v ∈ (flat es).drop ((i + 1) * 2), v.oneCell' = true := fun v hv => flat_one_cell es v (List.mem_of_mem_drop hv)
  have hdl : ((flat es).drop ((i + 1) * 2)).length = m * 2 - (i + 1) * 2 := by rw [List.length_drop, hl]
  have htk : (es.take i ++ es.drop (i + 1) ++ es.drop (m - 1)).take (m - 1) = del i es := by
    have : (del i es).length = m - 1 := by rw [del_length i es (by omega), hm]
    rw [← this]; exact List.take_left
  have HTK := hide htk
  have HME := hide (show ((m : Int) - 1) = ((m - 1 : Nat) : Int) by omega)
  have hi0' : (0 : Int) ≤ (i : Int) := Int.natCast_nonneg _
  have hi1 : (i : Int) ≤ (cap : Int) := by omega
  have hi2 : (i : Int) ≤ (m : Int) := by omega
  have hi3 : (i : Int) + 1 ≤ (cap : Int) := by omega
  have hi4 : (i : Int) + 1 ≤ (m : Int) := by omega
  have hi5 : (0 : Int) ≤ (i : Int) + 1 := by omega
  have hic : ¬ i = cap := by omega
  have hic' : ¬ cap = i := by omega
  have hwr : IntKind.i64.wrap ((i : Int) + 1) = (i : Int) + 1 := by rw [IntKind.wrap_i64]; omega
  have htn : ((i : Int) + 1).toNat = i + 1 := by omega
  have hfit : i * 2 + ((flat es).drop ((i + 1) * 2)).length ≤ (flat es ++ rest).length := by rw [hdl, List.length_append]; omega
  clear hrem htk hown
  by_cases hcase : i + 1 = cap
  · have hnil : ((flat es).drop ((i + 1) * 2)) = [] := List.eq_nil_of_length_eq_zero (by rw [hdl]; omega)
    rw [hnil] at hfit
    have HNIL := hide hnil
    clear hsrc hone hdl hnil
    go_enter Try.func47, Try.ntmps47
    go_wp2
    go_region_law ((refine step_copy_at _ (by rfl) _ _ 67 67 (by rfl) 64 2 Try.underlying67 (by kernel_rfl) g (i * 2) (m - i) (cap - i) ⟨g, 0, none⟩ 0 0 (by rfl) (by rfl) (flat es ++ rest) 64 (by exact hat) [] (by simp) (by intro j v hj; cases hj) (by exact hfit) (by intro v hv; cases hv) ?_; intro w1 hat1 hu1))
    all_goals
      have hown1 := HREM.out w1 (by rw [HNIL.out]; exact hat1)
      clear HREM hfit hat hat1 hwr htn
      go_wp2_with fail
      rw [HME.out]
      refine (f42_any _ base g m cap (m - 1) _ hown1 (by omega)).mono ?_
      rintro e w2 ⟨rfl, hown2, hu2⟩
      rw [HTK.out] at hown2
      have hu : Upd (fun k => k = g) w w2 := ⟨hu2.os.trans hu1.os, hu2.tape.trans hu1.tape, hu2.output.trans hu1.output, Nat.le_trans hu1.size hu2.size, fun k hk hn => (hu2.block k (Nat.lt_of_lt_of_le hk hu1.size) hn).trans (hu1.block k hk hn)⟩
      have HF := hide (And.intro hown2 hu)
      clear hown1 hown2 hu1 hu2 hu
      go_wp2
      go_ret
      exact ⟨rfl, HF.out⟩
  · have hcase' : ¬ cap = i + 1 := by omega
    have hn : ((flat es).drop ((i + 1) * 2)).length = Nat.min (m - (i + 1)) (m - i) * 2 := by
      have hmin : Nat.min (m - (i + 1)) (m - i) = m - (i + 1) := Nat.min_eq_left (by omega)
      rw [hdl, hmin]; omega
    have hsrc' : ∀ j v, ((flat es).drop ((i + 1) * 2))[j]? = some v → w.cell? ((⟨g, (i + 1) * 2, none⟩ : Addr).add j) = some v := hsrc _ rfl
    clear hsrc
    go_enter Try.func47, Try.ntmps47
    go_wp2
    go_region_law ((refine step_copy_at _ (by rfl) _ _ 67 67 (by rfl) 64 2 Try.underlying67 (by kernel_rfl) g (i * 2) (m - i) (cap - i) ⟨g, (i + 1) * 2, none⟩ (m - (i + 1)) (cap - (i + 1)) (by rfl) (by rfl) (flat es ++ rest) 64 (by exact hat) ((flat es).drop ((i + 1) * 2)) (by exact hn) (by exact hsrc') (by exact hfit) (by exact hone) ?_; intro w1 hat1 hu1))
    all_goals
      have hown1 := HREM.out w1 (by exact hat1)
      clear HREM hfit hat hat1 hwr htn hn hsrc' hone hdl
      go_wp2_with fail
      rw [HME.out]
      refine (f42_any _ base g m cap (m - 1) _ hown1 (by omega)).mono ?_
      rintro e w2 ⟨rfl, hown2, hu2⟩
      rw [HTK.out] at hown2
      have hu : Upd (fun k => k = g) w w2 := ⟨hu2.os.trans hu1.os, hu2.tape.trans hu1.tape, hu2.output.trans hu1.output, Nat.le_trans hu1.size hu2.size, fun k hk hn => (hu2.block k (Nat.lt_of_lt_of_le hk hu1.size) hn).trans (hu1.block k hk hn)⟩
      have HF := hide (And.intro hown2 hu)
      clear hown1 hown2 hu1 hu2 hu
      go_wp2
      go_ret
      exact ⟨rfl, HF.out⟩

/-- The row behind the copy, owned. -/
theorem rem_owns48 {w1 : World} {base g m cap i : Nat} {es : List Nat} {rest : List Value} (hl : (es.map pv).length = m * 1) (hl2 : (es.map pv).length + rest.length = cap * 1) (hm : es.length = m) (hi : i < m) (hmc : m ≤ cap) (hcm : cap ≤ maxLen) (hb : base ≤ g)
    (h : At w1 g (splice (es.map pv ++ rest) (i * 1) ((es.map pv).drop ((i + 1) * 1))) 32) : w1.ownsRow base 32 1 (.slice (some ⟨g, 0, none⟩) m cap) m ((es.take i ++ es.drop (i + 1) ++ es.drop (m - 1)).map pv) := by
  rw [rem_row _ _ _ _ _ hl hi, ← List.append_assoc] at h
  have e1 : (es.map pv).take (i * 1) ++ (es.map pv).drop ((i + 1) * 1) ++ (es.map pv).drop ((m - 1) * 1) = (es.take i ++ es.drop (i + 1) ++ es.drop (m - 1)).map pv := by
    simp [List.map_take, List.map_drop]
  rw [e1] at h
  have e2 : ((es.take i ++ es.drop (i + 1) ++ es.drop (m - 1)).map pv).length = m * 1 := by
    simp; omega
  exact owns_mk h hmc hcm e2 (by omega) hb

set_option maxRecDepth 100000 in
set_option maxHeartbeats 1600000 in
theorem f48_any (w : World) (base g m cap i : Nat) (es : List Nat) (hown : w.ownsRow base 32 1 (.slice (some ⟨g, 0, none⟩) m cap) m (es.map pv)) (hm : es.length = m) (hi : i < m) (hm1 : m ≤ 1048577) :
    Calls Try.prog 48 #[.slice (some ⟨g, 0, none⟩) m cap, .int .i64 i] w fun e w' => e = .returned (.slice (some ⟨g, 0, none⟩) (m - 1) cap) ∧ w'.ownsRow base 32 1 (.slice (some ⟨g, 0, none⟩) (m - 1) cap) (m - 1) ((del i es).map pv) ∧ Upd (fun k => k = g) w w' := by
  obtain ⟨rest, -, hat, hmc, hcm, hl, hl2, hb⟩ := owns_at hown
  have hrem := fun w1 => rem_owns48 (w1 := w1) (base := base) (g := g) hl hl2 hm hi hmc hcm hb
  have HREM := hide hrem
  unfold maxLen at hcm
  have hsrc := cells_from_owns (k := (i + 1) * 1) hown
  have hone : ∀ v ∈ (es.map pv).drop ((i + 1) * 1), v.oneCell' = true := fun v hv => pv_one es v (List.mem_of_mem_drop hv)
  have hdl : ((es.map pv).drop ((i + 1) * 1)).length = m * 1 - (i + 1) * 1 := by rw [List.length_drop, hl]
  have htk : (es.take i ++ es.drop (i + 1) ++ es.drop (m - 1)).take (m - 1) = del i es := by
    have : (del i es).length = m - 1 := by rw [del_length i es (by omega), hm]
    rw [← this]; exact List.take_left
  have HTK := hide htk
  have HME := hide (show ((m : Int) - 1) = ((m - 1 : Nat) : Int) by omega)
  have hi0' : (0 : Int) ≤ (i : Int) := Int.natCast_nonneg _
  have hi1 : (i : Int) ≤ (cap : Int) := by omega
  have hi2 : (i : Int) ≤ (m : Int) := by omega
  have hi3 : (i : Int) + 1 ≤ (cap : Int) := by omega
  have hi4 : (i : Int) + 1 ≤ (m : Int) := by omega
  have hi5 : (0 : Int) ≤ (i : Int) + 1 := by omega
  have hic : ¬ i = cap := by omega
  have hic' : ¬ cap = i := by omega
  have hwr : IntKind.i64.wrap ((i : Int) + 1) = (i : Int) + 1 := by rw [IntKind.wrap_i64]; omega
  have htn : ((i : Int) + 1).toNat = i + 1 := by omega
  have hfit : i * 1 + ((es.map pv).drop ((i + 1) * 1)).length ≤ (es.map pv ++ rest).length := by rw [hdl, List.length_append]; omega
  clear hrem htk hown
  simp only [Nat.mul_one] at hsrc hone hdl hfit hl hl2
  by_cases hcase : i + 1 = cap
  · have hnil : ((es.map pv).drop (i + 1)) = [] := List.eq_nil_of_length_eq_zero (by rw [hdl]; omega)
    rw [hnil] at hfit
    have HNIL := hide hnil
    clear hsrc hone hdl hnil
    go_enter Try.func48, Try.ntmps48
    go_wp2
    go_region_law ((refine step_copy_at _ (by rfl) _ _ 31 31 (by rfl) 32 1 Try.underlying31 (by kernel_rfl) g (i) (m - i) (cap - i) ⟨g, 0, none⟩ 0 0 (by rfl) (by rfl) (es.map pv ++ rest) 32 (by exact hat) [] (by simp) (by intro j v hj; cases hj) (by exact hfit) (by intro v hv; cases hv) ?_; intro w1 hat1 hu1))
    all_goals
      have hown1 := HREM.out w1 (by rw [Nat.mul_one, Nat.mul_one, HNIL.out]; exact hat1)
      clear HREM hfit hat hat1 hwr htn
      go_wp2_with fail
      rw [HME.out]
      refine (f43_any _ base g m cap (m - 1) _ hown1 (by omega)).mono ?_
      rintro e w2 ⟨rfl, hown2, hu2⟩
      rw [HTK.out] at hown2
      have hu : Upd (fun k => k = g) w w2 := ⟨hu2.os.trans hu1.os, hu2.tape.trans hu1.tape, hu2.output.trans hu1.output, Nat.le_trans hu1.size hu2.size, fun k hk hn => (hu2.block k (Nat.lt_of_lt_of_le hk hu1.size) hn).trans (hu1.block k hk hn)⟩
      have HF := hide (And.intro hown2 hu)
      clear hown1 hown2 hu1 hu2 hu
      go_wp2
      go_ret
      exact ⟨rfl, HF.out⟩
  · have hcase' : ¬ cap = i + 1 := by omega
    have hn : ((es.map pv).drop (i + 1)).length = Nat.min (m - (i + 1)) (m - i) * 1 := by
      have hmin : Nat.min (m - (i + 1)) (m - i) = m - (i + 1) := Nat.min_eq_left (by omega)
      rw [hdl, hmin]; omega
    have hsrc' : ∀ j v, ((es.map pv).drop (i + 1))[j]? = some v → w.cell? ((⟨g, i + 1, none⟩ : Addr).add j) = some v := hsrc _ rfl
    clear hsrc
    go_enter Try.func48, Try.ntmps48
    go_wp2
    go_region_law ((refine step_copy_at _ (by rfl) _ _ 31 31 (by rfl) 32 1 Try.underlying31 (by kernel_rfl) g (i) (m - i) (cap - i) ⟨g, i + 1, none⟩ (m - (i + 1)) (cap - (i + 1)) (by rfl) (by rfl) (es.map pv ++ rest) 32 (by exact hat) ((es.map pv).drop (i + 1)) (by exact hn) (by exact hsrc') (by exact hfit) (by exact hone) ?_; intro w1 hat1 hu1))
    all_goals
      have hown1 := HREM.out w1 (by rw [Nat.mul_one, Nat.mul_one]; exact hat1)
      clear HREM hfit hat hat1 hwr htn hn hsrc' hone hdl
      go_wp2_with fail
      rw [HME.out]
      refine (f43_any _ base g m cap (m - 1) _ hown1 (by omega)).mono ?_
      rintro e w2 ⟨rfl, hown2, hu2⟩
      rw [HTK.out] at hown2
      have hu : Upd (fun k => k = g) w w2 := ⟨hu2.os.trans hu1.os, hu2.tape.trans hu1.tape, hu2.output.trans hu1.output, Nat.le_trans hu1.size hu2.size, fun k hk hn => (hu2.block k (Nat.lt_of_lt_of_le hk hu1.size) hn).trans (hu1.block k hk hn)⟩
      have HF := hide (And.intro hown2 hu)
      clear hown1 hown2 hu1 hu2 hu
      go_wp2
      go_ret
      exact ⟨rfl, HF.out⟩

end Go.Proofs.Qxb6600085a
