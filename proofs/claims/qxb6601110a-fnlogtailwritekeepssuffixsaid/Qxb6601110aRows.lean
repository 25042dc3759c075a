/-
  No cell of these rows narrows 'for every input' (looked for: loops, veiled, ifaces, maps, wideKeys, modest, calm, conditions, laid).
  DERIVED. THE GIVEN ROWS OF THIS SEAT. 1 by the template 'for every input the law returns true; each argument reads behind the call as it read before'; 0 by the template 'total and deterministic' (their statements: Qxb6601110aTotals.lean).
  GIVEN WITH THE SEED: the statements are not yours to turn. If you find one false, say at which input.
  Laid BY PROGRAM, IN A SANDBOX (cutbox-rows.mjs): the forced cells as the released guide's own fill.sh prints them over the translation f8b1b833b6c9aa3b… (all of the seat's roots in one cut). By AI agents, Wed Nov 11 2026. No macro, syntax, notation, axiom, sorry.
-/
import Derived.Test.Qxb6601110aChecked
import GoSem.Claim
import GoSem.ClaimJoined
import GoSem.ClaimMapViews
import Derived.JoinedTies
import Derived.KernelRfl
namespace Go.Proofs.Qxb6601110a
/- THE CELL 'sum', in the pinned program and in every row, IS THE sha256 OF THE DUMP (.gsa) THAT Qxb6601110aProg.lean LOADS. Nothing in Lean hashes anything: it is a label: what it is worth is what the hold of that sum in a sandbox is worth. -/
noncomputable def Try.pinned : Pinned := { name := "qxb6601110a", sum := "f8b1b833b6c9aa3ba7f86fb9ff97ae989682d4ce02f09ea7743b2b766d85b82a", checked := Try.checked }
namespace Rows
def none {H : Type} : Left H := { results := [], args := [] }

/-- 'zzlaws_internal_benchserve_e1.FnLogTailWriteKeepsSuffix': WHATEVER THE INPUT: true; the input reads as it did. -/
def fnLogTailWriteKeepsSuffixSpec : ChangeSpec := { name := "fnLogTailWriteKeepsSuffix", fn := fun _ => fun
  | [d] => { results := [.lit (.bool true)], args := [d] }
  | _ => none }
def fnLogTailWriteKeepsSuffixRow : OpenClaim := { program := "qxb6601110a", sum := "f8b1b833b6c9aa3ba7f86fb9ff97ae989682d4ce02f09ea7743b2b766d85b82a", func := "example.com/tysons/tysons/zzlaws_internal_benchserve_e1.FnLogTailWriteKeepsSuffix", spec := "fnLogTailWriteKeepsSuffix", apart := false }
def FnLogTailWriteKeepsSuffixSaid : Prop := fnLogTailWriteKeepsSuffixRow.holds Try.pinned (OpenSpec.ofChange fnLogTailWriteKeepsSuffixSpec)

/-- ITS FALSE NEIGHBOUR: 'it returns false'. Refute it at one input. -/
def fnLogTailWriteKeepsSuffixWrong : ChangeSpec := { name := "fnLogTailWriteKeepsSuffix", fn := fun _ => fun
  | [d] => { results := [.lit (.bool false)], args := [d] }
  | _ => none }
def FnLogTailWriteKeepsSuffixWrongFalsely : Prop := fnLogTailWriteKeepsSuffixRow.holds Try.pinned (OpenSpec.ofChange fnLogTailWriteKeepsSuffixWrong)

end Rows
end Go.Proofs.Qxb6601110a
