/-
  append(line, s...), s a string, the line the call's own. No program's text but the byte's type.
-/
import Derived.Test.Qxb6600387aKindB
import Derived.Deep.AppendSrc
namespace Go.Proofs.Qxb6600387a
open Go.RowKit

theorem run_append_str {P : Program} (w : World) (t tx ty : TypeId) (base : Nat) (e : TypeId) (i : TypeInfo) (z : Value) (ht : P.underlying t = some (.slice e)) (hk : P.underlying tx = some .string) (hi : P.info? e = some i) (hz : i.zero = some z)
    (hsize : i.size = 1) (hby : i.bytes = 1) (hzs : z.cells.size = 1)
    (g0 n c0 : Nat) (xs : List Value) (hown : w.ownsRow base e 1 (.slice (some ⟨g0, 0, none⟩) n c0) n xs) (s : ByteArray) (h63 : n + s.size ≤ 140737488355328) (hbase : base ≤ w.heap.size) :
    ∃ g cap w', (Builtin.append_ #[t, tx] ty #[.slice (some ⟨g0, 0, none⟩) n c0, .string s]).run P w = .ok (.slice (some ⟨g, 0, none⟩) (n + s.size) cap) w' ∧
      w'.ownsRow base e 1 (.slice (some ⟨g, 0, none⟩) (n + s.size) cap) (n + s.size) (xs ++ byteCells s) ∧ w.grownBy w' (some g0) ∧ (g = g0 ∨ g = w.heap.size) := by
  obtain ⟨rest, -, hat, hnc, hcm, hl1, hl2, hbg⟩ := owns_at hown
  have hs := Go.Src.ofString (P := P) w hk s
  have hbl := byteCells_length s
  rw [Nat.mul_one] at hl1 hl2
  have hlen : (xs ++ byteCells s).length = (n + s.size) * 1 := by rw [List.length_append, hl1, hbl, Nat.mul_one]
  by_cases hroom : n + s.size ≤ c0
  · have hst := run_storeCells_at P g0 n e (byteCells s) 0 (xs ++ rest).toArray w hat (by simp; omega) hs.one
    simp only [Nat.add_zero] at hst
    refine ⟨g0, c0, w.setRow g0 (splice (xs ++ rest) n (byteCells s)).toArray, ?_, ?_, ⟨rfl, rfl, rfl, by simp [World.setRow], fun k _ hn => setRow_other w g0 k _ (fun h => hn (by rw [h]))⟩, .inl rfl⟩
    · simp [Builtin.append_, run_underlying ht, run_underlying hk, sizeOf, typeInfo, hi, hsize, hs.len, hroom, hs.cells, Addr.add_lit, hst, splice]
    · refine owns_mk (rest := rest.drop s.size) ?_ hroom hcm hlen ?_ hbg
      · have h1 := hat.setRow (splice (xs ++ rest) n (byteCells s))
        have h2 : splice (xs ++ rest) n (byteCells s) = xs ++ byteCells s ++ rest.drop s.size := by
          unfold splice
          rw [List.take_append_of_le_length (by omega), List.take_of_length_le (by omega), List.drop_append, hbl, ← hl1]
          simp
        rw [← h2]
        exact h1
      · rw [Nat.mul_one] at hlen ⊢
        rw [hlen, List.length_drop]; omega
  · have holds : ∀ j u, xs[j]? = some u → w.cell? ((⟨g0, 0, none⟩ : Addr).add j) = some u := hown.cells (g := g0) rfl
    have hold : (Builtin.firstCells i.size n (.slice (some ⟨g0, 0, none⟩) n c0)).run P w.drew = .ok xs.toArray w.drew := by
      rw [hsize]
      exact run_firstCells_some w.drew 1 n ⟨g0, 0, none⟩ n c0 xs (by omega) (by simpa using holds)
    have hr := run_append_grow_src (P := P) w t tx ty e i z ht hi hz (some ⟨g0, 0, none⟩) n c0 xs hold (.string s) s.size (byteCells s) (by rw [hsize]; exact hs) (by omega) (by omega) (growslice_fits (by omega) (by rw [hby]; omega))
    have hge := grownCap_ge w (n + s.size) c0 e
    have hcm2 : grownCap w (n + s.size) c0 e ≤ maxLen := grownCap_le_maxLen w (n + s.size) c0 e (by unfold maxLen; omega)
    refine ⟨w.heap.size, _, _, hr, ⟨hlen, .inr ⟨w.heap.size, _, _, rfl, hbase, heap_alloc_new w.drew _, hge, hcm2, ?_, ?_⟩⟩, ⟨rfl, rfl, rfl, by simp, fun k hk _ => heap_alloc_old w.drew _ hk⟩, .inr rfl⟩
    · simp only [Array.size_append, List.size_toArray, size_zeroCells, hzs, hlen]
      omega
    · simp only [Array.toList_append, ← hlen]
      exact List.take_left

theorem wpList_append_str {P : Program} (w : World) {ops : Array Oper} {rest : List Oper} {o : Oper} {a : Act} {Q : Exit → Act → World → Prop} (hgd : o.guard = none) (sl x : Operand) (t tx : TypeId)
    (ho : o.op = .call { callee := .builtin .append, args := #[sl, x], argTypes := #[t, tx] })
    (base : Nat) (e : TypeId) (i : TypeInfo) (z : Value) (ht : P.underlying t = some (.slice e)) (hk : P.underlying tx = some .string) (hi : P.info? e = some i) (hz : i.zero = some z)
    (hsize : i.size = 1) (hby : i.bytes = 1) (hzs : z.cells.size = 1)
    (g0 n c0 : Nat) (xs : List Value) (hs : a.eval sl = .slice (some ⟨g0, 0, none⟩) n c0) (hown : w.ownsRow base e 1 (.slice (some ⟨g0, 0, none⟩) n c0) n xs) (s : ByteArray) (hx : a.eval x = .string s) (h63 : n + s.size ≤ 140737488355328) (hbase : base ≤ w.heap.size)
    (h : ∀ g cap w', w'.ownsRow base e 1 (.slice (some ⟨g, 0, none⟩) (n + s.size) cap) (n + s.size) (xs ++ byteCells s) → w.grownBy w' (some g0) → (g = g0 ∨ g = w.heap.size) → wpList P ops Q rest (a.put o.dst (.slice (some ⟨g, 0, none⟩) (n + s.size) cap)) w') : wpList P ops Q (o :: rest) a w := by
  refine wpList_plain hgd fun K hK => ?_
  obtain ⟨g, cap, w', hr, h2, h3, h4⟩ := run_append_str (P := P) w t tx o.type base e i z ht hk hi hz hsize hby hzs g0 n c0 xs hown s h63 hbase
  unfold Oper.wp execOp
  simp only [ho, resolve, invoke, builtin, Sem.run_bind, Sem.run_pure, Result.andThen_ok, List.map_toArray, List.map_cons, List.map_nil, hs, hx, hr]
  exact hK _ _ (h g cap w' h2 h3 h4)

end Go.Proofs.Qxb6600387a
