/-
  newNode, mutable.
-/
import Derived.Test.Qxb6600085aHolds
import Derived.Test.Qxb6600085aApp
namespace Go.Proofs.Qxb6600085a
open Go.RowKit

/-- The zero cells of make([]entry, 0, 31), of make([]*node, 0, 32). -/
def zE : Array Value := madeCells #[.string ⟨#[]⟩, .slice none 0 0] 62
def zK : Array Value := madeCells #[.pointer none] 32

theorem make67 (w : World) : (Instr.makeSlice 67 (.int .i64 0) (.int .i64 31)).run Try.prog w = .ok (.slice (some ⟨w.heap.size, 0, none⟩) 0 31) (w.alloc (.cells zE 64)) := by
  kernel_rfl
theorem make31 (w : World) : (Instr.makeSlice 31 (.int .i64 0) (.int .i64 32)).run Try.prog w = .ok (.slice (some ⟨w.heap.size, 0, none⟩) 0 32) (w.alloc (.cells zK 32)) := by
  kernel_rfl

theorem zE_size : zE.size = 62 := size_madeCells _ _
theorem zK_size : zK.size = 32 := size_madeCells _ _

theorem new_inner (w : World) (o : Nat) : NewNode w (((w.alloc (.cells zE 64)).alloc (.cells #[pv o, .slice (some ⟨w.heap.size, 0, none⟩) 0 31, .slice (some ⟨w.heap.size + 1 + 1, 0, none⟩) 0 32] 69)).alloc (.cells zK 32)).drew (.returned (pv (w.heap.size + 1))) o [] true [] := by
  have a0 : At (((w.alloc (.cells zE 64)).alloc (.cells #[pv o, .slice (some ⟨w.heap.size, 0, none⟩) 0 31, .slice (some ⟨w.heap.size + 1 + 1, 0, none⟩) 0 32] 69)).alloc (.cells zK 32)).drew w.heap.size zE.toList 64 :=
    ((At.new w zE.toList 64).alloc _).alloc _
  have a1 : At (((w.alloc (.cells zE 64)).alloc (.cells #[pv o, .slice (some ⟨w.heap.size, 0, none⟩) 0 31, .slice (some ⟨w.heap.size + 1 + 1, 0, none⟩) 0 32] 69)).alloc (.cells zK 32)).drew (w.heap.size + 1) [pv o, .slice (some ⟨w.heap.size, 0, none⟩) 0 31, .slice (some ⟨w.heap.size + 1 + 1, 0, none⟩) 0 32] 69 := by
    have := (At.new (w.alloc (.cells zE 64)) [pv o, .slice (some ⟨w.heap.size, 0, none⟩) 0 31, .slice (some ⟨w.heap.size + 1 + 1, 0, none⟩) 0 32] 69).alloc (.cells zK 32)
    simpa using this.drew
  have a2 : At (((w.alloc (.cells zE 64)).alloc (.cells #[pv o, .slice (some ⟨w.heap.size, 0, none⟩) 0 31, .slice (some ⟨w.heap.size + 1 + 1, 0, none⟩) 0 32] 69)).alloc (.cells zK 32)).drew (w.heap.size + 1 + 1) zK.toList 32 := by
    have := At.new ((w.alloc (.cells zE 64)).alloc (.cells #[pv o, .slice (some ⟨w.heap.size, 0, none⟩) 0 31, .slice (some ⟨w.heap.size + 1 + 1, 0, none⟩) 0 32] 69)) zK.toList 32
    simpa using this.drew
  refine ⟨_, _, _, rfl, ⟨a1, owns_mk (xs := []) (rest := zE.toList) a0 (by simp) (by unfold maxLen; omega) rfl (by simp [zE_size]) (Nat.zero_le _), owns_mk (xs := []) (rest := zK.toList) a2 (by simp) (by unfold maxLen; omega) rfl (by simp [zK_size]) (Nat.zero_le _), ⟨_, _, rfl⟩, ⟨_, _, rfl⟩, ?_, ?_, ?_⟩, ⟨by omega, ?_, ?_⟩, ?_⟩
  · simp [Value.ownBlock]
  · simp [Value.ownBlock]
  · simp [Value.ownBlock]; omega
  · intro g hg; simp [Value.ownBlock] at hg; omega
  · intro g hg; simp [Value.ownBlock] at hg; omega
  · exact ((((Below.refl _ _).alloc (Nat.le_refl _) _).alloc (by simp) _).alloc (by simp; omega) _).drew

theorem new_leaf (w : World) (o : Nat) : NewNode w ((w.alloc (.cells zE 64)).alloc (.cells #[pv o, .slice (some ⟨w.heap.size, 0, none⟩) 0 31, .slice none 0 0] 69)).drew (.returned (pv (w.heap.size + 1))) o [] false [] := by
  have a0 : At ((w.alloc (.cells zE 64)).alloc (.cells #[pv o, .slice (some ⟨w.heap.size, 0, none⟩) 0 31, .slice none 0 0] 69)).drew w.heap.size zE.toList 64 := (At.new w zE.toList 64).alloc _
  have a1 : At ((w.alloc (.cells zE 64)).alloc (.cells #[pv o, .slice (some ⟨w.heap.size, 0, none⟩) 0 31, .slice none 0 0] 69)).drew (w.heap.size + 1) [pv o, .slice (some ⟨w.heap.size, 0, none⟩) 0 31, .slice none 0 0] 69 := by
    have := At.new (w.alloc (.cells zE 64)) [pv o, .slice (some ⟨w.heap.size, 0, none⟩) 0 31, .slice none 0 0] 69
    simpa using this.drew
  refine ⟨_, _, _, rfl, ⟨a1, owns_mk (xs := []) (rest := zE.toList) a0 (by simp) (by unfold maxLen; omega) rfl (by simp [zE_size]) (Nat.zero_le _), World.ownsRow_nil _ _ _ _, ⟨_, _, rfl⟩, ⟨rfl, rfl⟩, ?_, ?_, ?_⟩, ⟨by omega, ?_, ?_⟩, ?_⟩
  · simp [Value.ownBlock]
  · simp [Value.ownBlock]
  · simp [Value.ownBlock]
  · intro g hg; simp [Value.ownBlock] at hg; omega
  · intro g hg; cases hg
  · exact (((Below.refl _ _).alloc (Nat.le_refl _) _).alloc (by simp) _).drew

attribute [local go_sem ↓] Go.wp_at_zero Go.wp_at_succ

set_option maxRecDepth 100000 in
set_option maxHeartbeats 1600000 in
theorem f41_any (w : World) (t o : Nat) (inner : Bool) (ht : w.cell? ⟨t, 2, none⟩ = some (pv o)) :
    Calls Try.prog 41 #[pv t, .bool inner] w fun e w' => NewNode w w' e o [] inner [] := by
  have h67 := make67
  have h31 := make31
  have lt := World.block_lt_of_cell? w _ ht
  have hne := World.new_ne w _ ht
  cases inner with
  | true =>
    go_enter Try.func41, Try.ntmps41
    go_wp2
    go_region
    all_goals go_wp2
    go_ret
    exact new_inner w o
  | false =>
    go_enter Try.func41, Try.ntmps41
    go_wp2
    go_region
    all_goals go_wp2
    go_ret
    exact new_leaf w o

/-- The node's entries' field, replaced. -/
theorem node_ents {w0 w2 : World} {c a n1 c1 g1 gg m cap : Nat} {es1 es : List Ent} {kv : Value} {inner : Bool} {ks : List Nat} (hN : NodeAt w0 c a (.slice (some ⟨g1, 0, none⟩) n1 c1) es1 kv inner ks)
    (hown : w2.ownsRow 0 64 2 (.slice (some ⟨gg, 0, none⟩) m cap) m (flat es)) (hm : es.length = m) (u : Upd (fun k => k = g1) w0 w2) (hgg : gg = g1 ∨ w0.heap.size ≤ gg) :
    NodeAt (w2.setCell ⟨c, 1, none⟩ (.slice (some ⟨gg, 0, none⟩) m cap)) c a (.slice (some ⟨gg, 0, none⟩) m cap) es kv inner ks := by
  subst hm
  have d1 : g1 ≠ c := by simpa [Value.ownBlock] using hN.d1
  have d3 : kv.ownBlock ≠ some g1 := by have := hN.d3; simp only [Value.ownBlock] at this; exact fun h => this h.symm
  have lc := hN.cells.lt
  have lk := hN.kids.lt
  have gc : gg ≠ c := by rcases hgg with h | h <;> omega
  have gk : kv.ownBlock ≠ some gg := by
    intro h
    have := (lk gg h).2
    rcases hgg with h' | h'
    · subst h'; exact d3 h
    · omega
  have u' : Upd (fun k => k = c) w2 (w2.setCell ⟨c, 1, none⟩ (.slice (some ⟨gg, 0, none⟩) es.length cap)) := (Upd.refl _ _).setCell _ _ (fun _ => rfl)
  refine ⟨?_, ?_, ?_, ⟨_, _, rfl⟩, hN.knn, ?_, hN.d2, ?_⟩
  · exact (hN.cells.upd u (fun h => d1 h.symm)).set 1 _
  · exact owns_upd hown u' (fun g hg h => by simp [Value.ownBlock] at hg; omega)
  · exact owns_upd (owns_upd hN.kids u (fun g hg h => d3 (by rw [hg, h]))) u' (fun g hg h => hN.d2 (by rw [hg, h]))
  · simpa [Value.ownBlock] using gc
  · simp only [Value.ownBlock]; exact fun h => gk h.symm

/-- The node's children's field, replaced. -/
theorem node_kids {w0 w2 : World} {c a n2 c2 g2 gg m cap : Nat} {es : List Ent} {ev : Value} {ks1 ks : List Nat} (hN : NodeAt w0 c a ev es (.slice (some ⟨g2, 0, none⟩) n2 c2) true ks1)
    (hown : w2.ownsRow 0 32 1 (.slice (some ⟨gg, 0, none⟩) m cap) m (ks.map pv)) (hm : ks.length = m) (u : Upd (fun k => k = g2) w0 w2) (hgg : gg = g2 ∨ w0.heap.size ≤ gg) :
    NodeAt (w2.setCell ⟨c, 2, none⟩ (.slice (some ⟨gg, 0, none⟩) m cap)) c a ev es (.slice (some ⟨gg, 0, none⟩) m cap) true ks := by
  subst hm
  have d2 : g2 ≠ c := by simpa [Value.ownBlock] using hN.d2
  have d3 : ev.ownBlock ≠ some g2 := by have := hN.d3; simp only [Value.ownBlock] at this; exact this
  have lc := hN.cells.lt
  have lk := hN.ents.lt
  have gc : gg ≠ c := by rcases hgg with h | h <;> omega
  have gk : ev.ownBlock ≠ some gg := by
    intro h
    have := (lk gg h).2
    rcases hgg with h' | h'
    · subst h'; exact d3 h
    · omega
  have u' : Upd (fun k => k = c) w2 (w2.setCell ⟨c, 2, none⟩ (.slice (some ⟨gg, 0, none⟩) ks.length cap)) := (Upd.refl _ _).setCell _ _ (fun _ => rfl)
  refine ⟨?_, ?_, ?_, hN.enn, ⟨_, _, rfl⟩, hN.d1, ?_, ?_⟩
  · exact (hN.cells.upd u (fun h => d2 h.symm)).set 2 _
  · exact owns_upd (owns_upd hN.ents u (fun g hg h => d3 (by rw [hg, h]))) u' (fun g hg h => hN.d1 (by rw [hg, h]))
  · exact owns_upd hown u' (fun g hg h => by simp [Value.ownBlock] at hg; omega)
  · simpa [Value.ownBlock] using gc
  · simp only [Value.ownBlock]; exact gk

set_option maxRecDepth 100000 in
set_option maxHeartbeats 1600000 in
theorem f39_own (w : World) (t b a : Nat) (ev kv : Value) (es : List Ent) (inner : Bool) (ks : List Nat) (ht : w.cell? ⟨t, 2, none⟩ = some (pv a)) (hN : NodeAt w b a ev es kv inner ks) (la : Lies w a) :
    Calls Try.prog 39 #[pv t, pv b] w fun e w' => e = .returned (pv b) ∧ Drew w w' := by
  have c0 := hN.cell0
  have he : ∀ nq, (binOp .eql 26 (pv a) (pv a)).run Try.prog (w.drewN nq) = .ok (.bool true) (w.drewN nq) := fun nq => by
    have := eql_owner (w := w.drewN nq) (a := a) (b := a) la la
    simpa using this
  clear hN la
  go_enter Try.func39, Try.ntmps39
  go_wp2
  go_quiet (fail)
  go_wp2
  go_ret
  exact ⟨rfl, _, rfl⟩

end Go.Proofs.Qxb6600085a
