/-
  FnLogTailWriteKeepsSuffix: the row.
-/
import Derived.Test.Qxb6601110aMain
import Derived.ProofKit
import Derived.Deep.Matrix
import Derived.OpenShut
import Derived.ShutString
import Derived.ChangeOld
namespace Go.Proofs.Qxb6601110a
open Go.ChangeShapes Go.WideShapes Go.ChangeAt Go.RowKit

theorem Try.own : ownKnob Try.prog.godebug = none := by kernel_rfl
theorem Try.laidOut : laidOutB Try.prog = true := by kernel_rfl
theorem Try.cells24 : Try.prog.cellsOf 24 = 1 := by kernel_rfl
theorem Try.cells5 : Try.prog.cellsOf 5 = 1 := by kernel_rfl

theorem addr_form {w : World} {a : Addr} {v : Value} (h : w.cell? (a.add 0) = some v) : ∃ b off, a = ⟨b, off, none⟩ := by
  obtain ⟨b, off, sp⟩ := a
  cases sp with
  | none => exact ⟨b, off, rfl⟩
  | some x =>
    exfalso
    have e : (⟨b, off, some x⟩ : Addr).add 0 = ⟨b, off, some x⟩ := by simp [Addr.add]
    rw [e] at h
    simp only [World.cell?] at h
    split at h <;> simp at h

theorem src_mk {w : World} {ao : Option Addr} {L C : Nat} {Z : List Int} (h1 : L ≤ C) (h2 : Z.length = C) (h3 : ao = none → C = 0) (h4 : ∀ a', ao = some a' → ∀ c, c < C → w.cell? (a'.add c) = some (.int .u8 (Z.getD c 0))) : Src w ao L (Z.take L) := by
  refine ⟨by simp; omega, fun h => by have := h3 h; omega, fun i hi => ?_⟩
  cases ao with
  | none => have := h3 rfl; omega
  | some a =>
    obtain ⟨b, off, rfl⟩ := addr_form (h4 a rfl 0 (by omega))
    have hc := h4 _ rfl i (by omega)
    rw [Addr.add_lit] at hc
    refine ⟨b, off, rfl, ?_⟩
    rw [hc]
    have hz : i < Z.length := by omega
    simp [List.getD, hi]

section
variable {H : Type} {enc : TypeId × Value → H} {w : World} {base : Nat} {held : Bool}

theorem row_of {fuel : Nat} {ao : Option Addr} {len cap : Nat} {x : DataW H × List MemPlace} (h : DataW.trod enc Try.prog w base (fun _ => true) held fuel 22 [.slice ao len cap] = some x) : ∃ L Z, Row w ao len L Z ∧ len ≤ maxLen ∧ (ao = none → len = 0) := by
  rcases Deep.open_int_rows Try.underlying22 Try.underlying24 Try.underlying5 Try.cells24 Try.cells5 h with ⟨hcs, -⟩ | ⟨a, len', cap', A, L, C, Z, hcs, -, hl, hm, -, hc⟩
  · simp at hcs
    obtain ⟨rfl, rfl, rfl⟩ := hcs
    exact ⟨fun _ => 0, fun _ => [], fun i hi => absurd hi (Nat.not_lt_zero _), Nat.zero_le _, fun _ => rfl⟩
  · simp at hcs
    obtain ⟨rfl, rfl, rfl⟩ := hcs
    refine ⟨L, fun i => (Z i).take (L i), fun i hi => ?_, by omega, fun h => (by cases h)⟩
    obtain ⟨h0, -⟩ := hc 0 (by omega)
    obtain ⟨h1, h2, -, h4, -, h6, h7⟩ := hc i (by omega)
    obtain ⟨b, off, rfl⟩ := addr_form h0
    rw [Addr.add_lit] at h1
    exact ⟨b, off, A i, C i, rfl, h1, src_mk h2 h4 h6 (fun a' ha => (h7 a' ha).2)⟩

end

theorem f3_any (w : World) (ao : Option Addr) (n cap : Nat) (L : Nat → Nat) (Z : Nat → List Int) (hr : Row w ao n L Z) (hm : n ≤ maxLen) (hn : ao = none → n = 0) :
    Calls Try.prog 3 #[.slice ao n cap] w fun e w' => e = .returned (.bool true) ∧ Below w.heap.size w w' := by
  cases ao with
  | none =>
    obtain rfl := hn rfl
    exact f3_nil w cap
  | some a0 => exact f3_some w a0 n cap L Z hm hr

set_option maxRecDepth 100000 in
theorem logTail_lifted (os : Os) (started : os.Started) (H : Type) (enc : TypeId × Value → H) :
    ReturnsInHanded {} Try.checked os 3 .any (Rows.fnLogTailWriteKeepsSuffixSpec.pre6 enc Try.prog Try.f3 Rows.fnLogTailWriteKeepsSuffixRow.domain false) (Rows.fnLogTailWriteKeepsSuffixSpec.post enc Try.prog Try.f3 false true false false) := by
  refine returnsInHanded_of_change (C := Try.checked) Try.own started (by kernel_rfl) Try.func3
    (ChangeSpec.witness6 (enc := enc) (C := Try.checked) false ⟨#[], #[.slice none 0 0], []⟩ 8 (by kernel_rfl) (by kernel_rfl) (by kernel_rfl) (by kernel_rfl)) ?_
  intro W base args ds gs before hval0 hW hcnd _
  have hval : ∀ (j : Nat) t v, Try.f3.params[j]? = some t → args[j]? = some v → Value.okWide Try.prog W .any base t v := hval0
  have hW' := hW
  obtain ⟨p, q, hA0, hV, rfl, hfz, hnd⟩ := hW
  have hA : DataW.TrodAll enc Try.prog W 0 (fun _ => true) true Try.f3.params.toList args.toList ds p := hA0
  rw [Try.params3] at hA hval
  obtain ⟨v0, vs0, d0, ds0, p0, q0, hargs, rfl, rfl, h0, r0⟩ := trodAll_cons hA
  obtain ⟨rfl, rfl, rfl⟩ := trodAll_nil r0
  obtain rfl : args = #[v0] := by cases args; simp_all
  obtain ⟨rfl, rfl⟩ := trodVars_none hV
  obtain ⟨a0, len0, cap0, rfl⟩ := okWide_slice Try.underlying22 (hval 0 22 v0 rfl rfl)
  have k0 := h0
  have lt0 : ∀ x ∈ p0, x.block < W.heap.size := by obtain ⟨m, hm⟩ := k0; exact DataW.trod_lt m _ _ _ hm
  obtain ⟨L, Z, hrow, hmx, hnl⟩ : ∃ L Z, Row W a0 len0 L Z ∧ len0 ≤ maxLen ∧ (a0 = none → len0 = 0) := by
    obtain ⟨fuel, hf⟩ := h0
    exact row_of (by simpa [Value.cells] using hf)
  clear hA0 hval0
  refine (f3_any W a0 len0 cap0 L Z hrow hmx hnl).mono fun e W' ⟨he, bel⟩ => ?_
  subst he
  exact ⟨_, rfl, _, _, _, [], _, [], hW', trodAll_mk1 (shut_bool Try.underlying4 _), (trodAll_cons_mk (Below.trod Try.laidOut (by kernel_rfl) (of_decide_eq_true (by kernel_rfl)) k0 bel lt0) trodAll_mk0), rfl, bel.frame _, fun h => by cases h⟩

theorem logTail_over : Rows.fnLogTailWriteKeepsSuffixRow.holds Try.pinned (OpenSpec.ofChange Rows.fnLogTailWriteKeepsSuffixSpec) :=
  OpenClaim.holds_of_wide 3 Try.f3 rfl rfl rfl rfl rfl rfl rfl ⟨rfl, rfl, rfl, rfl, rfl⟩ rfl rfl rfl rfl rfl (by kernel_rfl) Try.func3 (by kernel_rfl)
    (of_decide_eq_true (by kernel_rfl)) (by unfold Func.isWrapper; first | (rw [if_pos (by decide +kernel)]; kernel_rfl) | (rw [if_neg (by decide +kernel)]; exact ⟨rfl, rfl⟩))
    (fun os started H enc _ => logTail_lifted os started H enc)

/-- THE STATEMENT. -/
theorem logTail_proved : Rows.FnLogTailWriteKeepsSuffixSaid := logTail_over

end Go.Proofs.Qxb6601110a
