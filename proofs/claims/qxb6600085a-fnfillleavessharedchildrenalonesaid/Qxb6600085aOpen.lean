/-
  From the reading of a [][]byte that came in to what the walk is told of it.
-/
import Derived.Test.Qxb6600085aLawA
import Derived.ProofKit
import Derived.Deep.Matrix
namespace Go.Proofs.Qxb6600085a
open Go.ChangeShapes Go.WideShapes Go.ChangeAt Go.RowKit

theorem Try.own : ownKnob Try.prog.godebug = none := by kernel_rfl
theorem Try.laidOut : laidOutB Try.prog = true := by kernel_rfl
theorem Try.cells35 : Try.prog.cellsOf 35 = 1 := by kernel_rfl
theorem Try.cells5 : Try.prog.cellsOf 5 = 1 := by kernel_rfl

theorem addr_form {w : World} {a : Addr} {v : Value} (h : w.cell? (a.add 0) = some v) : ∃ b off, a = ⟨b, off, none⟩ := by
  obtain ⟨b, off, sp⟩ := a
  cases sp with
  | none => exact ⟨b, off, rfl⟩
  | some x =>
    exfalso
    have e : (⟨b, off, some x⟩ : Addr).add 0 = ⟨b, off, some x⟩ := by simp [Addr.add]
    rw [e] at h
    simp only [World.cell?] at h
    split at h <;> simp at h

theorem srcB_mk {w : World} {ao : Option Addr} {L C : Nat} {Z : List Int} (h1 : L ≤ C) (h2 : Z.length = C) (h3 : ao = none → C = 0) (h4 : ∀ a', ao = some a' → ∀ c, c < C → w.cell? (a'.add c) = some (.int .u8 (Z.getD c 0))) : SrcB w ao L := by
  refine ⟨Z.take L, by simp; omega, fun h => by have := h3 h; omega, fun ad ha j u hj => ?_⟩
  have hjL : j < L := by
    rcases Nat.lt_or_ge j L with h | h
    · exact h
    · rw [List.getElem?_eq_none (by simp; omega)] at hj; cases hj
  have := h4 ad ha j (by omega)
  rw [this]
  have hz : j < Z.length := by omega
  simp [hjL, hz] at hj
  simp [List.getD, hz, hj]

section
variable {H : Type} {enc : TypeId × Value → H} {w : World} {base : Nat} {held : Bool}

theorem valIn_of {fuel : Nat} {ao : Option Addr} {len cap : Nat} {x : DataW H × List MemPlace} (h : DataW.trod enc Try.prog w base (fun _ => true) held fuel 22 [.slice ao len cap] = some x) : ∃ A L C, ValIn w ao len A L C := by
  rcases Deep.open_int_rows Try.underlying22 Try.underlying35 Try.underlying5 Try.cells35 Try.cells5 h with ⟨hcs, -⟩ | ⟨a, len', cap', A, L, C, Z, hcs, -, hl, hm, -, hc⟩
  · simp at hcs
    obtain ⟨rfl, rfl, rfl⟩ := hcs
    exact ⟨fun _ => none, fun _ => 0, fun _ => 0, ⟨Nat.zero_le _, fun _ => rfl, fun i hi => absurd hi (Nat.not_lt_zero _), fun i hi => absurd hi (Nat.not_lt_zero _)⟩⟩
  · simp at hcs
    obtain ⟨rfl, rfl, rfl⟩ := hcs
    refine ⟨A, L, C, ⟨by omega, fun h => (by cases h), fun i hi => ?_, fun i hi => ?_⟩⟩
    · obtain ⟨h0, -⟩ := hc 0 (by omega)
      obtain ⟨h1, -⟩ := hc i (by omega)
      obtain ⟨b, off, rfl⟩ := addr_form h0
      rw [Addr.add_lit] at h1
      exact ⟨b, off, rfl, h1⟩
    · obtain ⟨-, h2, -, h4, -, h6, h7⟩ := hc i (by omega)
      exact srcB_mk h2 h4 h6 (fun a' ha => (h7 a' ha).2)

end
end Go.Proofs.Qxb6600085a
