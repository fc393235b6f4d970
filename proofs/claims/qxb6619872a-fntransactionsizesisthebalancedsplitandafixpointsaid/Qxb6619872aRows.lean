/-
  No cell of these rows narrows 'for every input' (looked for: loops, veiled, ifaces, maps, wideKeys, modest, calm, conditions, laid).
  DERIVED. THE GIVEN ROWS OF THIS SEAT. 2 by the template 'for every input the law returns true; each argument reads behind the call as it read before'; 0 by the template 'total and deterministic' (their statements: Qxb6619872aTotals.lean).
  GIVEN WITH THE SEED: the statements are not yours to turn. If you find one false, say at which input.
  Laid BY PROGRAM, IN A SANDBOX (cutbox-rows.mjs): the forced cells as the released guide's own fill.sh prints them over the translation 97332de895a4feeb… (all of the seat's roots in one cut). By AI agents, Wed Nov 11 2026. No macro, syntax, notation, axiom, sorry.
-/
import Derived.Test.Qxb6619872aChecked
import GoSem.Claim
import GoSem.ClaimJoined
import GoSem.ClaimMapViews
import Derived.JoinedTies
import Derived.KernelRfl
namespace Go.Proofs.Qxb6619872a
/- THE CELL 'sum', in the pinned program and in every row, IS THE sha256 OF THE DUMP (.gsa) THAT Qxb6619872aProg.lean LOADS. Nothing in Lean hashes anything: it is a label: what it is worth is what the hold of that sum in a sandbox is worth. -/
noncomputable def Try.pinned : Pinned := { name := "qxb6619872a", sum := "97332de895a4feebb01052b2319d16d746ef6c348cac508e2cd6b6973e1ed163", checked := Try.checked }
namespace Rows
def none {H : Type} : Left H := { results := [], args := [] }

/-- 'zzlaws_internal_bench_b1.FnTransactionSizesIsTheBalancedSplitAndAFixpoint': WHATEVER THE INPUT: true; the input reads as it did. -/
def fnTransactionSizesIsTheBalancedSplitAndAFixpointSpec : ChangeSpec := { name := "fnTransactionSizesIsTheBalancedSplitAndAFixpoint", fn := fun _ => fun
  | [d1, d2] => { results := [.lit (.bool true)], args := [d1, d2] }
  | _ => none }
def fnTransactionSizesIsTheBalancedSplitAndAFixpointRow : OpenClaim := { program := "qxb6619872a", sum := "97332de895a4feebb01052b2319d16d746ef6c348cac508e2cd6b6973e1ed163", func := "example.com/viewkeeper/viewkeeper/zzlaws_internal_bench_b1.FnTransactionSizesIsTheBalancedSplitAndAFixpoint", spec := "fnTransactionSizesIsTheBalancedSplitAndAFixpoint", apart := false }
def FnTransactionSizesIsTheBalancedSplitAndAFixpointSaid : Prop := fnTransactionSizesIsTheBalancedSplitAndAFixpointRow.holds Try.pinned (OpenSpec.ofChange fnTransactionSizesIsTheBalancedSplitAndAFixpointSpec)

/-- ITS FALSE NEIGHBOUR: 'it returns false'. Refute it at one input. -/
def fnTransactionSizesIsTheBalancedSplitAndAFixpointWrong : ChangeSpec := { name := "fnTransactionSizesIsTheBalancedSplitAndAFixpoint", fn := fun _ => fun
  | [d1, d2] => { results := [.lit (.bool false)], args := [d1, d2] }
  | _ => none }
def FnTransactionSizesIsTheBalancedSplitAndAFixpointWrongFalsely : Prop := fnTransactionSizesIsTheBalancedSplitAndAFixpointRow.holds Try.pinned (OpenSpec.ofChange fnTransactionSizesIsTheBalancedSplitAndAFixpointWrong)

/-- 'zzlaws_internal_bench_b1.FnTransactionSizesDependsOnLimitOnlyThroughCount': WHATEVER THE INPUT: true; the input reads as it did. -/
def fnTransactionSizesDependsOnLimitOnlyThroughCountSpec : ChangeSpec := { name := "fnTransactionSizesDependsOnLimitOnlyThroughCount", fn := fun _ => fun
  | [d1, d2, d3] => { results := [.lit (.bool true)], args := [d1, d2, d3] }
  | _ => none }
def fnTransactionSizesDependsOnLimitOnlyThroughCountRow : OpenClaim := { program := "qxb6619872a", sum := "97332de895a4feebb01052b2319d16d746ef6c348cac508e2cd6b6973e1ed163", func := "example.com/viewkeeper/viewkeeper/zzlaws_internal_bench_b1.FnTransactionSizesDependsOnLimitOnlyThroughCount", spec := "fnTransactionSizesDependsOnLimitOnlyThroughCount", apart := false }
def FnTransactionSizesDependsOnLimitOnlyThroughCountSaid : Prop := fnTransactionSizesDependsOnLimitOnlyThroughCountRow.holds Try.pinned (OpenSpec.ofChange fnTransactionSizesDependsOnLimitOnlyThroughCountSpec)

/-- ITS FALSE NEIGHBOUR: 'it returns false'. Refute it at one input. -/
def fnTransactionSizesDependsOnLimitOnlyThroughCountWrong : ChangeSpec := { name := "fnTransactionSizesDependsOnLimitOnlyThroughCount", fn := fun _ => fun
  | [d1, d2, d3] => { results := [.lit (.bool false)], args := [d1, d2, d3] }
  | _ => none }
def FnTransactionSizesDependsOnLimitOnlyThroughCountWrongFalsely : Prop := fnTransactionSizesDependsOnLimitOnlyThroughCountRow.holds Try.pinned (OpenSpec.ofChange fnTransactionSizesDependsOnLimitOnlyThroughCountWrong)

end Rows
end Go.Proofs.Qxb6619872a
