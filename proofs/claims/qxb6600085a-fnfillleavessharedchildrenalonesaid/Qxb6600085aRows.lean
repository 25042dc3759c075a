/-
  No cell of these rows narrows 'for every input' (looked for: loops, veiled, ifaces, maps, wideKeys, modest, calm, conditions, laid).
  DERIVED. THE GIVEN ROWS OF THIS SEAT. 5 by the template 'for every input the law returns true; each argument reads behind the call as it read before'; 0 by the template 'total and deterministic' (their statements: Qxb6600085aTotals.lean).
  GIVEN WITH THE SEED: the statements are not yours to turn. If you find one false, say at which input.
  Laid BY PROGRAM, IN A SANDBOX (cutbox-rows.mjs): the forced cells as the released guide's own fill.sh prints them over the translation 9662ee1691e031f3… (all of the seat's roots in one cut). By AI agents, Wed Nov 11 2026. No macro, syntax, notation, axiom, sorry.
-/
import Derived.Test.Qxb6600085aChecked
import GoSem.Claim
import GoSem.ClaimJoined
import GoSem.ClaimMapViews
import Derived.JoinedTies
import Derived.KernelRfl
namespace Go.Proofs.Qxb6600085a
/- THE CELL 'sum', in the pinned program and in every row, IS THE sha256 OF THE DUMP (.gsa) THAT Qxb6600085aProg.lean LOADS. Nothing in Lean hashes anything: it is a label: what it is worth is what the hold of that sum in a sandbox is worth. -/
noncomputable def Try.pinned : Pinned := { name := "qxb6600085a", sum := "9662ee1691e031f3da7edc3bf923048f58fd3b1e71177910573beb241a81ca87", checked := Try.checked }
namespace Rows
def none {H : Type} : Left H := { results := [], args := [] }

/-- 'zzlaws_kv_b1.FnFillUndoesSplit': WHATEVER THE INPUT: true; the input reads as it did. -/
def fnFillUndoesSplitSpec : ChangeSpec := { name := "fnFillUndoesSplit", fn := fun _ => fun
  | [d1, d2, d3] => { results := [.lit (.bool true)], args := [d1, d2, d3] }
  | _ => none }
def fnFillUndoesSplitRow : OpenClaim := { program := "qxb6600085a", sum := "9662ee1691e031f3da7edc3bf923048f58fd3b1e71177910573beb241a81ca87", func := "example.com/quorumkit/quorumkit/zzlaws_kv_b1.FnFillUndoesSplit", spec := "fnFillUndoesSplit", apart := false }
def FnFillUndoesSplitSaid : Prop := fnFillUndoesSplitRow.holds Try.pinned (OpenSpec.ofChange fnFillUndoesSplitSpec)

/-- ITS FALSE NEIGHBOUR: 'it returns false'. Refute it at one input. -/
def fnFillUndoesSplitWrong : ChangeSpec := { name := "fnFillUndoesSplit", fn := fun _ => fun
  | [d1, d2, d3] => { results := [.lit (.bool false)], args := [d1, d2, d3] }
  | _ => none }
def FnFillUndoesSplitWrongFalsely : Prop := fnFillUndoesSplitRow.holds Try.pinned (OpenSpec.ofChange fnFillUndoesSplitWrong)

/-- 'zzlaws_kv_b1.FnMutableCopiesOnlyForeignNodes': WHATEVER THE INPUT: true; the input reads as it did. -/
def fnMutableCopiesOnlyForeignNodesSpec : ChangeSpec := { name := "fnMutableCopiesOnlyForeignNodes", fn := fun _ => fun
  | [d1, d2, d3] => { results := [.lit (.bool true)], args := [d1, d2, d3] }
  | _ => none }
def fnMutableCopiesOnlyForeignNodesRow : OpenClaim := { program := "qxb6600085a", sum := "9662ee1691e031f3da7edc3bf923048f58fd3b1e71177910573beb241a81ca87", func := "example.com/quorumkit/quorumkit/zzlaws_kv_b1.FnMutableCopiesOnlyForeignNodes", spec := "fnMutableCopiesOnlyForeignNodes", apart := false }
def FnMutableCopiesOnlyForeignNodesSaid : Prop := fnMutableCopiesOnlyForeignNodesRow.holds Try.pinned (OpenSpec.ofChange fnMutableCopiesOnlyForeignNodesSpec)

/-- ITS FALSE NEIGHBOUR: 'it returns false'. Refute it at one input. -/
def fnMutableCopiesOnlyForeignNodesWrong : ChangeSpec := { name := "fnMutableCopiesOnlyForeignNodes", fn := fun _ => fun
  | [d1, d2, d3] => { results := [.lit (.bool false)], args := [d1, d2, d3] }
  | _ => none }
def FnMutableCopiesOnlyForeignNodesWrongFalsely : Prop := fnMutableCopiesOnlyForeignNodesRow.holds Try.pinned (OpenSpec.ofChange fnMutableCopiesOnlyForeignNodesWrong)

/-- 'zzlaws_kv_b1.FnMutableShieldsCloneFromSplit': WHATEVER THE INPUT: true; the input reads as it did. -/
def fnMutableShieldsCloneFromSplitSpec : ChangeSpec := { name := "fnMutableShieldsCloneFromSplit", fn := fun _ => fun
  | [d1, d2] => { results := [.lit (.bool true)], args := [d1, d2] }
  | _ => none }
def fnMutableShieldsCloneFromSplitRow : OpenClaim := { program := "qxb6600085a", sum := "9662ee1691e031f3da7edc3bf923048f58fd3b1e71177910573beb241a81ca87", func := "example.com/quorumkit/quorumkit/zzlaws_kv_b1.FnMutableShieldsCloneFromSplit", spec := "fnMutableShieldsCloneFromSplit", apart := false }
def FnMutableShieldsCloneFromSplitSaid : Prop := fnMutableShieldsCloneFromSplitRow.holds Try.pinned (OpenSpec.ofChange fnMutableShieldsCloneFromSplitSpec)

/-- ITS FALSE NEIGHBOUR: 'it returns false'. Refute it at one input. -/
def fnMutableShieldsCloneFromSplitWrong : ChangeSpec := { name := "fnMutableShieldsCloneFromSplit", fn := fun _ => fun
  | [d1, d2] => { results := [.lit (.bool false)], args := [d1, d2] }
  | _ => none }
def FnMutableShieldsCloneFromSplitWrongFalsely : Prop := fnMutableShieldsCloneFromSplitRow.holds Try.pinned (OpenSpec.ofChange fnMutableShieldsCloneFromSplitWrong)

/-- 'zzlaws_kv_b1.FnFillKeepsOrderAndBounds': WHATEVER THE INPUT: true; the input reads as it did. -/
def fnFillKeepsOrderAndBoundsSpec : ChangeSpec := { name := "fnFillKeepsOrderAndBounds", fn := fun _ => fun
  | [d1, d2, d3] => { results := [.lit (.bool true)], args := [d1, d2, d3] }
  | _ => none }
def fnFillKeepsOrderAndBoundsRow : OpenClaim := { program := "qxb6600085a", sum := "9662ee1691e031f3da7edc3bf923048f58fd3b1e71177910573beb241a81ca87", func := "example.com/quorumkit/quorumkit/zzlaws_kv_b1.FnFillKeepsOrderAndBounds", spec := "fnFillKeepsOrderAndBounds", apart := false }
def FnFillKeepsOrderAndBoundsSaid : Prop := fnFillKeepsOrderAndBoundsRow.holds Try.pinned (OpenSpec.ofChange fnFillKeepsOrderAndBoundsSpec)

/-- ITS FALSE NEIGHBOUR: 'it returns false'. Refute it at one input. -/
def fnFillKeepsOrderAndBoundsWrong : ChangeSpec := { name := "fnFillKeepsOrderAndBounds", fn := fun _ => fun
  | [d1, d2, d3] => { results := [.lit (.bool false)], args := [d1, d2, d3] }
  | _ => none }
def FnFillKeepsOrderAndBoundsWrongFalsely : Prop := fnFillKeepsOrderAndBoundsRow.holds Try.pinned (OpenSpec.ofChange fnFillKeepsOrderAndBoundsWrong)

/-- 'zzlaws_kv_b1.FnFillLeavesSharedChildrenAlone': WHATEVER THE INPUT: true; the input reads as it did. -/
def fnFillLeavesSharedChildrenAloneSpec : ChangeSpec := { name := "fnFillLeavesSharedChildrenAlone", fn := fun _ => fun
  | [d1, d2, d3] => { results := [.lit (.bool true)], args := [d1, d2, d3] }
  | _ => none }
def fnFillLeavesSharedChildrenAloneRow : OpenClaim := { program := "qxb6600085a", sum := "9662ee1691e031f3da7edc3bf923048f58fd3b1e71177910573beb241a81ca87", func := "example.com/quorumkit/quorumkit/zzlaws_kv_b1.FnFillLeavesSharedChildrenAlone", spec := "fnFillLeavesSharedChildrenAlone", apart := false }
def FnFillLeavesSharedChildrenAloneSaid : Prop := fnFillLeavesSharedChildrenAloneRow.holds Try.pinned (OpenSpec.ofChange fnFillLeavesSharedChildrenAloneSpec)

/-- ITS FALSE NEIGHBOUR: 'it returns false'. Refute it at one input. -/
def fnFillLeavesSharedChildrenAloneWrong : ChangeSpec := { name := "fnFillLeavesSharedChildrenAlone", fn := fun _ => fun
  | [d1, d2, d3] => { results := [.lit (.bool false)], args := [d1, d2, d3] }
  | _ => none }
def FnFillLeavesSharedChildrenAloneWrongFalsely : Prop := fnFillLeavesSharedChildrenAloneRow.holds Try.pinned (OpenSpec.ofChange fnFillLeavesSharedChildrenAloneWrong)

end Rows
end Go.Proofs.Qxb6600085a
