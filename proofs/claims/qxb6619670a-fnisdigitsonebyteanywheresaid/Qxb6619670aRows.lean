/-
  No cell of these rows narrows 'for every input' (looked for: loops, veiled, ifaces, maps, wideKeys, modest, calm, conditions, laid).
  DERIVED. THE GIVEN ROWS OF THIS SEAT. 3 by the template 'for every input the law returns true; each argument reads behind the call as it read before'; 0 by the template 'total and deterministic' (their statements: Qxb6619670aTotals.lean).
  GIVEN WITH THE SEED: the statements are not yours to turn. If you find one false, say at which input.
  Laid BY PROGRAM, IN A SANDBOX (cutbox-rows.mjs): the forced cells as the released guide's own fill.sh prints them over the translation 076928cdc5ff084b… (all of the seat's roots in one cut). By AI agents, Wed Nov 11 2026. No macro, syntax, notation, axiom, sorry.
-/
import Derived.Test.Qxb6619670aChecked
import GoSem.Claim
import GoSem.ClaimJoined
import GoSem.ClaimMapViews
import Derived.JoinedTies
import Derived.KernelRfl
namespace Go.Proofs.Qxb6619670a
/- THE CELL 'sum', in the pinned program and in every row, IS THE sha256 OF THE DUMP (.gsa) THAT Qxb6619670aProg.lean LOADS. Nothing in Lean hashes anything: it is a label: what it is worth is what the hold of that sum in a sandbox is worth. -/
noncomputable def Try.pinned : Pinned := { name := "qxb6619670a", sum := "076928cdc5ff084bd6f28bcc0d754e829ead2f160906757d7a8b581c179a0fcd", checked := Try.checked }
namespace Rows
def none {H : Type} : Left H := { results := [], args := [] }

/-- 'zzlaws_internal_input_b1.FnAppendLinesAnyCutAndCRLFDropped': WHATEVER THE INPUT: true; the input reads as it did. -/
def fnAppendLinesAnyCutAndCRLFDroppedSpec : ChangeSpec := { name := "fnAppendLinesAnyCutAndCRLFDropped", fn := fun _ => fun
  | [d1, d2, d3] => { results := [.lit (.bool true)], args := [d1, d2, d3] }
  | _ => none }
def fnAppendLinesAnyCutAndCRLFDroppedRow : OpenClaim := { program := "qxb6619670a", sum := "076928cdc5ff084bd6f28bcc0d754e829ead2f160906757d7a8b581c179a0fcd", func := "example.com/chosetsu/chosetsu/zzlaws_internal_input_b1.FnAppendLinesAnyCutAndCRLFDropped", spec := "fnAppendLinesAnyCutAndCRLFDropped", inPlace := ["internal/bytealg.IndexByteString", "internal/bytealg.IndexString"], named := ["internal/bytealg.MaxLen"], apart := false }
def FnAppendLinesAnyCutAndCRLFDroppedSaid : Prop := fnAppendLinesAnyCutAndCRLFDroppedRow.holds Try.pinned (OpenSpec.ofChange fnAppendLinesAnyCutAndCRLFDroppedSpec)

/-- ITS FALSE NEIGHBOUR: 'it returns false'. Refute it at one input. -/
def fnAppendLinesAnyCutAndCRLFDroppedWrong : ChangeSpec := { name := "fnAppendLinesAnyCutAndCRLFDropped", fn := fun _ => fun
  | [d1, d2, d3] => { results := [.lit (.bool false)], args := [d1, d2, d3] }
  | _ => none }
def FnAppendLinesAnyCutAndCRLFDroppedWrongFalsely : Prop := fnAppendLinesAnyCutAndCRLFDroppedRow.holds Try.pinned (OpenSpec.ofChange fnAppendLinesAnyCutAndCRLFDroppedWrong)

/-- 'zzlaws_internal_input_b1.FnAppendLinesTwiceDropsCRCRLF': WHATEVER THE INPUT: true; the input reads as it did. -/
def fnAppendLinesTwiceDropsCRCRLFSpec : ChangeSpec := { name := "fnAppendLinesTwiceDropsCRCRLF", fn := fun _ => fun
  | [d] => { results := [.lit (.bool true)], args := [d] }
  | _ => none }
def fnAppendLinesTwiceDropsCRCRLFRow : OpenClaim := { program := "qxb6619670a", sum := "076928cdc5ff084bd6f28bcc0d754e829ead2f160906757d7a8b581c179a0fcd", func := "example.com/chosetsu/chosetsu/zzlaws_internal_input_b1.FnAppendLinesTwiceDropsCRCRLF", spec := "fnAppendLinesTwiceDropsCRCRLF", inPlace := ["internal/bytealg.IndexByteString", "internal/bytealg.IndexString"], named := ["internal/bytealg.MaxLen"], apart := false }
def FnAppendLinesTwiceDropsCRCRLFSaid : Prop := fnAppendLinesTwiceDropsCRCRLFRow.holds Try.pinned (OpenSpec.ofChange fnAppendLinesTwiceDropsCRCRLFSpec)

/-- ITS FALSE NEIGHBOUR: 'it returns false'. Refute it at one input. -/
def fnAppendLinesTwiceDropsCRCRLFWrong : ChangeSpec := { name := "fnAppendLinesTwiceDropsCRCRLF", fn := fun _ => fun
  | [d] => { results := [.lit (.bool false)], args := [d] }
  | _ => none }
def FnAppendLinesTwiceDropsCRCRLFWrongFalsely : Prop := fnAppendLinesTwiceDropsCRCRLFRow.holds Try.pinned (OpenSpec.ofChange fnAppendLinesTwiceDropsCRCRLFWrong)

/-- 'zzlaws_internal_input_b1.FnIsDigitsOneByteAnywhere': WHATEVER THE INPUT: true; the input reads as it did. -/
def fnIsDigitsOneByteAnywhereSpec : ChangeSpec := { name := "fnIsDigitsOneByteAnywhere", fn := fun _ => fun
  | [d1, d2, d3] => { results := [.lit (.bool true)], args := [d1, d2, d3] }
  | _ => none }
def fnIsDigitsOneByteAnywhereRow : OpenClaim := { program := "qxb6619670a", sum := "076928cdc5ff084bd6f28bcc0d754e829ead2f160906757d7a8b581c179a0fcd", func := "example.com/chosetsu/chosetsu/zzlaws_internal_input_b1.FnIsDigitsOneByteAnywhere", spec := "fnIsDigitsOneByteAnywhere", apart := false }
def FnIsDigitsOneByteAnywhereSaid : Prop := fnIsDigitsOneByteAnywhereRow.holds Try.pinned (OpenSpec.ofChange fnIsDigitsOneByteAnywhereSpec)

/-- ITS FALSE NEIGHBOUR: 'it returns false'. Refute it at one input. -/
def fnIsDigitsOneByteAnywhereWrong : ChangeSpec := { name := "fnIsDigitsOneByteAnywhere", fn := fun _ => fun
  | [d1, d2, d3] => { results := [.lit (.bool false)], args := [d1, d2, d3] }
  | _ => none }
def FnIsDigitsOneByteAnywhereWrongFalsely : Prop := fnIsDigitsOneByteAnywhereRow.holds Try.pinned (OpenSpec.ofChange fnIsDigitsOneByteAnywhereWrong)

end Rows
end Go.Proofs.Qxb6619670a
