/-
  keyOfB1: it returns some string; the owner; the tree.
-/
import Derived.Test.Qxb6600085aClone
namespace Go.Proofs.Qxb6600085a
open Go.RowKit

/-- The key's array behind some rounds: seven bytes. -/
def KeyInv (w wr : World) : Prop := ∃ zs : List Int, zs.length = 7 ∧ At wr w.heap.size (zs.map (Value.int .u8)) 74 ∧ Below w.heap.size w wr

theorem key_step {w wr : World} (h : KeyInv w wr) (k : Nat) (z : Int) : KeyInv w (wr.setCell ⟨w.heap.size, k, none⟩ (.int .u8 z)) := by
  obtain ⟨zs, h1, h2, h3⟩ := h
  refine ⟨zs.set k z, by simp [h1], ?_, h3.setCell (by simp) _⟩
  have := h2.set k (.int .u8 z)
  rwa [← List.map_set] at this

theorem key_cell {w wr : World} (h : KeyInv w wr) (k : Nat) (hk : k < 7) : (∃ z, wr.cell? ⟨w.heap.size, k, none⟩ = some (.int .u8 z)) ∧ wr.frozen? ⟨w.heap.size, k, none⟩ = false := by
  obtain ⟨zs, h1, h2, -⟩ := h
  exact ⟨⟨zs[k]'(by omega), h2.cell (by simp)⟩, h2.frozen _⟩

theorem key_str {w wr : World} (h : KeyInv w wr) : ∃ s, (convert 35 9 (.slice (some ⟨w.heap.size, 0, none⟩) 7 7)).run Try.prog wr = .ok (.string s) wr := by
  obtain ⟨zs, h1, h2, -⟩ := h
  refine ⟨_, run_convert_bytes_arg wr 35 5 Try.underlying35 Try.underlying5 w.heap.size 0 7 7 zs h1 (fun i hi => h2.cell ?_) 9 Try.underlying9⟩
  have hz : i < zs.length := by omega
  simp [List.getD, hz]

set_option maxHeartbeats 400000 in
theorem f22_any (w : World) (g : Int) :
    Calls Try.prog 22 #[.int .i64 g] w fun e w' => (∃ s, e = .returned (.string s)) ∧ Below w.heap.size w w' := by
  go_enter Try.func22, Try.ntmps22
  go_wp2
  go_loopw [0, 4] (fun q i wr => ∃ (k : Nat) (m : Int), k ≤ 6 ∧ i = .int .i64 k ∧ q = .int .i64 m ∧ KeyInv w wr) (fun _ i _ => (intOf i).toNat)
  case atStart => exact ⟨6, g, Nat.le_refl _, rfl, rfl, [107, 0, 0, 0, 0, 0, 0], rfl, heap_alloc_new w _, (Below.refl _ _).alloc (Nat.le_refl _) _⟩
  case round =>
    obtain ⟨k, m, hk, rfl, rfl, hinv⟩ := hrel
    by_cases h1 : 1 ≤ k
    · obtain ⟨⟨z, hc⟩, hf⟩ := key_cell hinv k (by omega)
      have hst := key_step hinv k
      clear hinv
      go_wp2
      go_roundw
      case rel => exact ⟨k - 1, _, by omega, by go_num, rfl, hst _⟩
      case measure => simp [intOf]; omega
    · obtain ⟨s, hs⟩ := key_str hinv
      have hbel := hinv.choose_spec.2.2
      clear hinv
      go_wp2
      go_ret
      exact ⟨⟨s, rfl⟩, hbel⟩

set_option maxHeartbeats 400000 in
theorem f11_any (w : World) : Calls Try.prog 11 #[] w fun e w' => e = .returned (.pointer (some ⟨w.heap.size, 0, none⟩)) ∧ w' = w.alloc (.cells #[.int .u8 0] 59) := by
  go_enter Try.func11, Try.ntmps11
  go_wp2
  go_ret
  exact ⟨rfl, rfl⟩

set_option maxHeartbeats 400000 in
theorem f12_any (w : World) (o : Option Addr) : Calls Try.prog 12 #[.pointer o] w fun e w' => e = .returned (.pointer (some ⟨w.heap.size, 0, none⟩)) ∧ w' = w.alloc (.cells #[.pointer none, .int .i64 0, .pointer o] 61) := by
  go_enter Try.func12, Try.ntmps12
  go_wp2
  go_ret
  exact ⟨rfl, rfl⟩

end Go.Proofs.Qxb6600085a
