/-
  From the reading of a []byte that came in to what the walk is told of it.
-/
import Derived.Test.Qxb6600085aSetup
import Derived.Test.Qxb6600085aOpen
namespace Go.Proofs.Qxb6600085a
open Go.ChangeShapes Go.WideShapes Go.ChangeAt Go.RowKit

section
variable {H : Type} {enc : TypeId × Value → H} {w : World} {base : Nat} {held : Bool}

theorem sizIn_of {fuel : Nat} {ao : Option Addr} {len cap : Nat} {x : DataW H × List MemPlace} (h : DataW.trod enc Try.prog w base (fun _ => true) held fuel 35 [.slice ao len cap] = some x) : ∃ zs, SizIn w ao len zs := by
  rcases open_ints Try.underlying35 Try.underlying5 (by kernel_rfl) h with ⟨hcs, _⟩ | ⟨a, l, c, zs, hcs, _, hl, hm, hz, _, hcell, hwz⟩
  · simp at hcs
    obtain ⟨rfl, rfl, rfl⟩ := hcs
    exact ⟨[], ⟨Nat.zero_le _, rfl, fun _ => rfl, (fun ad h => by cases h), by simp⟩⟩
  · simp at hcs
    obtain ⟨rfl, rfl, rfl⟩ := hcs
    have hzc : zs.length = cap := by simpa using hz
    refine ⟨zs.take len, ⟨by omega, by simp; omega, (fun h => by cases h), fun ad ha j u hj => ?_, fun z hzz => ?_⟩⟩
    · cases ha
      have hjl : j < len := by
        rcases Nat.lt_or_ge j len with h | h
        · exact h
        · rw [List.getElem?_eq_none (by simp; omega)] at hj; cases hj
      have hjz : j < zs.length := by omega
      rw [hcell j hjz]
      simp [hjl, hjz] at hj
      simp [List.getD, hjz, hj]
    · have := hwz z (List.mem_of_mem_take hzz)
      simp only [Lit.wf, Bool.and_eq_true, decide_eq_true_eq] at this
      have e1 : IntKind.u8.min = 0 := by rfl
      have e2 : IntKind.u8.max = 255 := by rfl
      omega

end
end Go.Proofs.Qxb6600085a
