/-
  clear; truncate, at entries and at children.
-/
import Derived.Test.Qxb6600085aLawA
namespace Go.Proofs.Qxb6600085a
open Go.RowKit

theorem zeroCells_one (z : Array Value) (n : Nat) (hz : ∀ u ∈ z.toList, u.oneCell' = true) (hs : 0 < z.size) : ∀ u ∈ (Builtin.zeroCells z n).toList, u.oneCell' = true := by
  intro u hu
  simp only [Builtin.zeroCells, Array.toList_map, List.mem_map] at hu
  obtain ⟨i, -, rfl⟩ := hu
  have hm : i % z.size < z.size := Nat.mod_lt _ hs
  rw [getElem!_pos z _ hm]
  exact hz _ (Array.mem_toList_iff.2 (Array.getElem_mem hm))

theorem run_clear_at {P : Program} (w : World) (t e ty : TypeId) (i : TypeInfo) (z : Value) (ht : P.underlying t = some (.slice e)) (hi : P.info? e = some i) (hz : i.zero = some z)
    (hz1 : ∀ u ∈ z.cells.toList, u.oneCell' = true) (hzs : 0 < z.cells.size) (g o n c : Nat) (hn : 0 < n) (cur : List Value) (tt : TypeId) (hg : At w g cur tt) (hfit : o + n * z.cells.size ≤ cur.length) :
    (Builtin.clear_ #[t] ty #[.slice (some ⟨g, o, none⟩) n c]).run P w = .ok (.tuple #[]) (w.setRow g (splice cur o (Builtin.zeroCells z.cells n).toList).toArray) := by
  have hl : (Builtin.zeroCells z.cells n).toList.length = n * z.cells.size := by simp [size_zeroCells]
  have hst := run_storeCells_at P g o tt (Builtin.zeroCells z.cells n).toList 0 cur.toArray w hg (by rw [hl]; simpa using hfit) (zeroCells_one _ _ hz1 hzs)
  simp only [Nat.add_zero] at hst
  obtain ⟨m, rfl⟩ : ∃ m, n = m + 1 := ⟨n - 1, by omega⟩
  simp [Builtin.clear_, run_underlying ht, zeroValue, typeInfo, hi, hz, hst, splice]

theorem wpList_clear_at {P : Program} {w : World} {ops : Array Oper} {rest : List Oper} {o : Oper} {a : Act} {Q : Exit → Act → World → Prop} (hgd : o.guard = none) (d : Operand) (t : TypeId)
    (ho : o.op = .call { callee := .builtin .clear, args := #[d], argTypes := #[t] }) (e : TypeId) (i : TypeInfo) (z : Value) (ht : P.underlying t = some (.slice e)) (hi : P.info? e = some i) (hz : i.zero = some z)
    (hz1 : ∀ u ∈ z.cells.toList, u.oneCell' = true) (hzs : 0 < z.cells.size) (g off n c : Nat) (hn : 0 < n) (hd : a.eval d = .slice (some ⟨g, off, none⟩) n c) (cur : List Value) (tt : TypeId) (hg : At w g cur tt) (hfit : off + n * z.cells.size ≤ cur.length)
    (h : ∀ w' zs, zs.length = n * z.cells.size → At w' g (splice cur off zs) tt → Upd (fun k => k = g) w w' → wpList P ops Q rest (a.put o.dst (.tuple #[])) w') : wpList P ops Q (o :: rest) a w := by
  refine wpList_plain hgd fun K hK => ?_
  have hrun := run_clear_at (P := P) w t e o.type i z ht hi hz hz1 hzs g off n c hn cur tt hg hfit
  unfold Oper.wp
  simp [execOp, ho, resolve, invoke, builtin, hd, hrun, Result.andThen]
  exact hK _ _ (h _ _ (by simp [size_zeroCells]) (hg.setRow _) (Upd.setRow w g _))

theorem flat_take (es : List Ent) : ∀ n, (flat es).take (n * 2) = flat (es.take n) := by
  induction es with
  | nil => intro n; simp [flat]
  | cons p es ih =>
    intro n
    cases n with
    | zero => simp [flat]
    | succ n =>
      have e : flat (p :: es) = .string p.1 :: sv p.2 :: flat es := rfl
      have e2 : (n + 1) * 2 = n * 2 + 1 + 1 := by omega
      have e3 : flat ((p :: es).take (n + 1)) = .string p.1 :: sv p.2 :: flat (es.take n) := rfl
      rw [e, e2, e3, List.take_succ_cons, List.take_succ_cons, ih n]

theorem trunc_owns {w' : World} {base g n cap m e size : Nat} {L rest zs : List Value} (hl : L.length = m * size) (hl2 : L.length + rest.length = cap * size) (hmc : m ≤ cap) (hcm : cap ≤ maxLen) (hb : base ≤ g) (hn : n < m)
    (hzl : zs.length = (m - n) * size) (hat : At w' g (splice (L ++ rest) (n * size) zs) e) : w'.ownsRow base e size (.slice (some ⟨g, 0, none⟩) n cap) n (L.take (n * size)) := by
  have h1 : n * size ≤ L.length := by rw [hl]; exact Nat.mul_le_mul_right _ (by omega)
  have e1 : (L ++ rest).take (n * size) = L.take (n * size) := List.take_append_of_le_length h1
  have e2 : n * size + zs.length = m * size := by rw [hzl, ← Nat.add_mul]; congr 1; omega
  unfold splice at hat
  rw [e1] at hat
  refine owns_mk hat (by omega) hcm (by rw [List.length_take]; omega) ?_ hb
  rw [List.length_append, List.length_drop, List.length_append, List.length_take, hl2, e2]
  have h3 : m * size ≤ cap * size := Nat.mul_le_mul_right _ hmc
  omega

theorem cells64 : ∀ u ∈ (Value.agg #[.string ⟨#[]⟩, .slice none 0 0]).cells.toList, u.oneCell' = true := by
  intro u hu
  simp [Value.cells] at hu
  rcases hu with rfl | rfl <;> rfl
theorem cells32 : ∀ u ∈ (Value.pointer none).cells.toList, u.oneCell' = true := by
  intro u hu
  simp [Value.cells] at hu
  subst hu; rfl

set_option maxRecDepth 100000 in
set_option maxHeartbeats 400000 in
theorem f42_any (w : World) (base g m cap n : Nat) (es : List Ent) (hown : w.ownsRow base 64 2 (.slice (some ⟨g, 0, none⟩) m cap) m (flat es)) (hn : n < m) :
    Calls Try.prog 42 #[.slice (some ⟨g, 0, none⟩) m cap, .int .i64 n] w fun e w' => e = .returned (.slice (some ⟨g, 0, none⟩) n cap) ∧ w'.ownsRow base 64 2 (.slice (some ⟨g, 0, none⟩) n cap) n (flat (es.take n)) ∧ Upd (fun k => k = g) w w' := by
  obtain ⟨i0, hi0, hz0, hz1, hz2⟩ := info_parts info64
  obtain ⟨rest, -, hat, hmc, hcm, hl, hl2, hb⟩ := owns_at hown
  have hcm' := hcm
  unfold maxLen at hcm
  have hfin := fun w' zs => trunc_owns (w' := w') (zs := zs) (size := 2) (base := base) (g := g) (n := n) (cap := cap) (m := m) (e := 64) (L := flat es) (rest := rest) hl hl2 (by omega) hcm' hb hn
  have HFIN := hide hfin
  clear hfin hcm' hown
  go_enter Try.func42, Try.ntmps42
  go_wp2_with (refine wpList_clear_at rfl _ 67 rfl 64 i0 _ Try.underlying67 hi0 hz0 cells64 (by decide) g (n * 2) (m - n) _ (by omega) rfl _ 64 hat ?_ ?_)
  · rw [List.length_append, hl2]
    simp [Value.cells]; omega
  intro w' zs hzl hat' hu
  have HO := hide (HFIN.out w' zs hzl hat')
  clear hzl hat' hat
  go_wp2
  go_ret
  refine ⟨rfl, ?_, hu⟩
  have := HO.out
  rw [flat_take] at this
  exact this

set_option maxRecDepth 100000 in
set_option maxHeartbeats 400000 in
theorem f43_any (w : World) (base g m cap n : Nat) (es : List Nat) (hown : w.ownsRow base 32 1 (.slice (some ⟨g, 0, none⟩) m cap) m (es.map pv)) (hn : n < m) :
    Calls Try.prog 43 #[.slice (some ⟨g, 0, none⟩) m cap, .int .i64 n] w fun e w' => e = .returned (.slice (some ⟨g, 0, none⟩) n cap) ∧ w'.ownsRow base 32 1 (.slice (some ⟨g, 0, none⟩) n cap) n ((es.take n).map pv) ∧ Upd (fun k => k = g) w w' := by
  obtain ⟨i0, hi0, hz0, hz1, hz2⟩ := info_parts info32
  obtain ⟨rest, -, hat, hmc, hcm, hl, hl2, hb⟩ := owns_at hown
  have hcm' := hcm
  unfold maxLen at hcm
  have hfin := fun w' zs => trunc_owns (w' := w') (zs := zs) (size := 1) (base := base) (g := g) (n := n) (cap := cap) (m := m) (e := 32) (L := es.map pv) (rest := rest) hl hl2 (by omega) hcm' hb hn
  have HFIN := hide hfin
  clear hfin hcm' hown
  go_enter Try.func43, Try.ntmps43
  go_wp2_with (refine wpList_clear_at rfl _ 31 rfl 32 i0 _ Try.underlying31 hi0 hz0 cells32 (by decide) g (n) (m - n) _ (by omega) rfl _ 32 hat ?_ ?_)
  · rw [List.length_append, hl2]
    simp [Value.cells]; omega
  intro w' zs hzl hat' hu
  have HO := hide (HFIN.out w' zs (by simpa using hzl) (by simpa using hat'))
  clear hzl hat' hat
  go_wp2
  go_ret
  refine ⟨rfl, ?_, hu⟩
  have := HO.out
  rw [Nat.mul_one, ← List.map_take] at this
  exact this

end Go.Proofs.Qxb6600085a
