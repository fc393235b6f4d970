/-
  No cell of these rows narrows 'for every input' (looked for: loops, veiled, ifaces, maps, wideKeys, modest, calm, conditions, laid).
  DERIVED. THE GIVEN ROWS OF THIS SEAT. 3 by the template 'for every input the law returns true; each argument reads behind the call as it read before'; 0 by the template 'total and deterministic' (their statements: Qxb6621703aTotals.lean).
  GIVEN WITH THE SEED: the statements are not yours to turn. If you find one false, say at which input.
  Laid BY PROGRAM, IN A SANDBOX (cutbox-rows.mjs): the forced cells as the released guide's own fill.sh prints them over the translation e063eaa5fea6d915… (all of the seat's roots in one cut). By AI agents, Wed Nov 11 2026. No macro, syntax, notation, axiom, sorry.
-/
import Derived.Test.Qxb6621703aChecked
import GoSem.Claim
import GoSem.ClaimJoined
import GoSem.ClaimMapViews
import Derived.JoinedTies
import Derived.KernelRfl
namespace Go.Proofs.Qxb6621703a
/- THE CELL 'sum', in the pinned program and in every row, IS THE sha256 OF THE DUMP (.gsa) THAT Qxb6621703aProg.lean LOADS. Nothing in Lean hashes anything: it is a label: what it is worth is what the hold of that sum in a sandbox is worth. -/
noncomputable def Try.pinned : Pinned := { name := "qxb6621703a", sum := "e063eaa5fea6d91546617abc5aff88ec72193dfcabee0d7ee76cdb99139d6bc0", checked := Try.checked }
namespace Rows
def none {H : Type} : Left H := { results := [], args := [] }

/-- 'zzlaws_root_b1.FnDigitsValueReadsDecimalSpelling': WHATEVER THE INPUT: true; the input reads as it did. -/
def fnDigitsValueReadsDecimalSpellingSpec : ChangeSpec := { name := "fnDigitsValueReadsDecimalSpelling", fn := fun _ => fun
  | [d1, d2, d3] => { results := [.lit (.bool true)], args := [d1, d2, d3] }
  | _ => none }
def fnDigitsValueReadsDecimalSpellingRow : OpenClaim := { program := "qxb6621703a", sum := "e063eaa5fea6d91546617abc5aff88ec72193dfcabee0d7ee76cdb99139d6bc0", func := "example.com/convertrail/convertrail/zzlaws_root_b1.FnDigitsValueReadsDecimalSpelling", spec := "fnDigitsValueReadsDecimalSpelling", apart := false }
def FnDigitsValueReadsDecimalSpellingSaid : Prop := fnDigitsValueReadsDecimalSpellingRow.holds Try.pinned (OpenSpec.ofChange fnDigitsValueReadsDecimalSpellingSpec)

/-- ITS FALSE NEIGHBOUR: 'it returns false'. Refute it at one input. -/
def fnDigitsValueReadsDecimalSpellingWrong : ChangeSpec := { name := "fnDigitsValueReadsDecimalSpelling", fn := fun _ => fun
  | [d1, d2, d3] => { results := [.lit (.bool false)], args := [d1, d2, d3] }
  | _ => none }
def FnDigitsValueReadsDecimalSpellingWrongFalsely : Prop := fnDigitsValueReadsDecimalSpellingRow.holds Try.pinned (OpenSpec.ofChange fnDigitsValueReadsDecimalSpellingWrong)

/-- 'zzlaws_root_b1.FnDigitsValueReadsAnyInsertedByte': WHATEVER THE INPUT: true; the input reads as it did. -/
def fnDigitsValueReadsAnyInsertedByteSpec : ChangeSpec := { name := "fnDigitsValueReadsAnyInsertedByte", fn := fun _ => fun
  | [d1, d2, d3] => { results := [.lit (.bool true)], args := [d1, d2, d3] }
  | _ => none }
def fnDigitsValueReadsAnyInsertedByteRow : OpenClaim := { program := "qxb6621703a", sum := "e063eaa5fea6d91546617abc5aff88ec72193dfcabee0d7ee76cdb99139d6bc0", func := "example.com/convertrail/convertrail/zzlaws_root_b1.FnDigitsValueReadsAnyInsertedByte", spec := "fnDigitsValueReadsAnyInsertedByte", apart := false }
def FnDigitsValueReadsAnyInsertedByteSaid : Prop := fnDigitsValueReadsAnyInsertedByteRow.holds Try.pinned (OpenSpec.ofChange fnDigitsValueReadsAnyInsertedByteSpec)

/-- ITS FALSE NEIGHBOUR: 'it returns false'. Refute it at one input. -/
def fnDigitsValueReadsAnyInsertedByteWrong : ChangeSpec := { name := "fnDigitsValueReadsAnyInsertedByte", fn := fun _ => fun
  | [d1, d2, d3] => { results := [.lit (.bool false)], args := [d1, d2, d3] }
  | _ => none }
def FnDigitsValueReadsAnyInsertedByteWrongFalsely : Prop := fnDigitsValueReadsAnyInsertedByteRow.holds Try.pinned (OpenSpec.ofChange fnDigitsValueReadsAnyInsertedByteWrong)

/-- 'zzlaws_root_b1.FnLowerASCIIFoldsExactlyTheCasePairs': WHATEVER THE INPUT: true; the input reads as it did. -/
def fnLowerASCIIFoldsExactlyTheCasePairsSpec : ChangeSpec := { name := "fnLowerASCIIFoldsExactlyTheCasePairs", fn := fun _ => fun
  | [d1, d2] => { results := [.lit (.bool true)], args := [d1, d2] }
  | _ => none }
def fnLowerASCIIFoldsExactlyTheCasePairsRow : OpenClaim := { program := "qxb6621703a", sum := "e063eaa5fea6d91546617abc5aff88ec72193dfcabee0d7ee76cdb99139d6bc0", func := "example.com/convertrail/convertrail/zzlaws_root_b1.FnLowerASCIIFoldsExactlyTheCasePairs", spec := "fnLowerASCIIFoldsExactlyTheCasePairs", apart := false }
def FnLowerASCIIFoldsExactlyTheCasePairsSaid : Prop := fnLowerASCIIFoldsExactlyTheCasePairsRow.holds Try.pinned (OpenSpec.ofChange fnLowerASCIIFoldsExactlyTheCasePairsSpec)

/-- ITS FALSE NEIGHBOUR: 'it returns false'. Refute it at one input. -/
def fnLowerASCIIFoldsExactlyTheCasePairsWrong : ChangeSpec := { name := "fnLowerASCIIFoldsExactlyTheCasePairs", fn := fun _ => fun
  | [d1, d2] => { results := [.lit (.bool false)], args := [d1, d2] }
  | _ => none }
def FnLowerASCIIFoldsExactlyTheCasePairsWrongFalsely : Prop := fnLowerASCIIFoldsExactlyTheCasePairsRow.holds Try.pinned (OpenSpec.ofChange fnLowerASCIIFoldsExactlyTheCasePairsWrong)

end Rows
end Go.Proofs.Qxb6621703a
