/-
  NARROWER THAN 'FOR EVERY INPUT', by the rows' own cells (each row's printed sentence says how): FnRefFoldsNamespaceIntoKind: maps · FnRefTellsObjectsApart: maps.
  DERIVED. THE GIVEN ROWS OF THIS SEAT. 2 by the template 'for every input the law returns true; each argument reads behind the call as it read before'; 0 by the template 'total and deterministic' (their statements: Qxb6621642aTotals.lean).
  GIVEN WITH THE SEED: the statements are not yours to turn. If you find one false, say at which input.
  Laid BY PROGRAM, IN A SANDBOX (cutbox-rows.mjs): the forced cells as the released guide's own fill.sh prints them over the translation 74d1f724091191ee… (all of the seat's roots in one cut). By AI agents, Wed Nov 11 2026. No macro, syntax, notation, axiom, sorry.
-/
import Derived.Test.Qxb6621642aChecked
import GoSem.Claim
import GoSem.ClaimJoined
import GoSem.ClaimMapViews
import Derived.JoinedTies
import Derived.KernelRfl
namespace Go.Proofs.Qxb6621642a
/- THE CELL 'sum', in the pinned program and in every row, IS THE sha256 OF THE DUMP (.gsa) THAT Qxb6621642aProg.lean LOADS. Nothing in Lean hashes anything: it is a label: what it is worth is what the hold of that sum in a sandbox is worth. -/
noncomputable def Try.pinned : Pinned := { name := "qxb6621642a", sum := "74d1f724091191ee2c071d9e4494e3387e17750310118574d9379e08b96f503b", checked := Try.checked }
namespace Rows
def none {H : Type} : Left H := { results := [], args := [] }

/-- 'zzlaws_rbac_b1.FnRefFoldsNamespaceIntoKind': WHATEVER THE INPUT: true; the input reads as it did. -/
def fnRefFoldsNamespaceIntoKindSpec : ChangeSpec := { name := "fnRefFoldsNamespaceIntoKind", fn := fun _ => fun
  | [d1, d2, d3, d4, d5, d6] => { results := [.lit (.bool true)], args := [d1, d2, d3, d4, d5, d6] }
  | _ => none }
def fnRefFoldsNamespaceIntoKindRow : OpenClaim := { program := "qxb6621642a", sum := "74d1f724091191ee2c071d9e4494e3387e17750310118574d9379e08b96f503b", func := "example.com/turtle-ant/turtle-ant/zzlaws_rbac_b1.FnRefFoldsNamespaceIntoKind", spec := "fnRefFoldsNamespaceIntoKind", maps := true, apart := false }
def FnRefFoldsNamespaceIntoKindSaid : Prop := fnRefFoldsNamespaceIntoKindRow.holds Try.pinned (OpenSpec.ofChange fnRefFoldsNamespaceIntoKindSpec)

/-- ITS FALSE NEIGHBOUR: 'it returns false'. Refute it at one input. -/
def fnRefFoldsNamespaceIntoKindWrong : ChangeSpec := { name := "fnRefFoldsNamespaceIntoKind", fn := fun _ => fun
  | [d1, d2, d3, d4, d5, d6] => { results := [.lit (.bool false)], args := [d1, d2, d3, d4, d5, d6] }
  | _ => none }
def FnRefFoldsNamespaceIntoKindWrongFalsely : Prop := fnRefFoldsNamespaceIntoKindRow.holds Try.pinned (OpenSpec.ofChange fnRefFoldsNamespaceIntoKindWrong)

/-- 'zzlaws_rbac_b1.FnRefTellsObjectsApart': WHATEVER THE INPUT: true; the input reads as it did. -/
def fnRefTellsObjectsApartSpec : ChangeSpec := { name := "fnRefTellsObjectsApart", fn := fun _ => fun
  | [d1, d2, d3, d4, d5, d6, d7, d8, d9, d10] => { results := [.lit (.bool true)], args := [d1, d2, d3, d4, d5, d6, d7, d8, d9, d10] }
  | _ => none }
def fnRefTellsObjectsApartRow : OpenClaim := { program := "qxb6621642a", sum := "74d1f724091191ee2c071d9e4494e3387e17750310118574d9379e08b96f503b", func := "example.com/turtle-ant/turtle-ant/zzlaws_rbac_b1.FnRefTellsObjectsApart", spec := "fnRefTellsObjectsApart", maps := true, apart := false }
def FnRefTellsObjectsApartSaid : Prop := fnRefTellsObjectsApartRow.holds Try.pinned (OpenSpec.ofChange fnRefTellsObjectsApartSpec)

/-- ITS FALSE NEIGHBOUR: 'it returns false'. Refute it at one input. -/
def fnRefTellsObjectsApartWrong : ChangeSpec := { name := "fnRefTellsObjectsApart", fn := fun _ => fun
  | [d1, d2, d3, d4, d5, d6, d7, d8, d9, d10] => { results := [.lit (.bool false)], args := [d1, d2, d3, d4, d5, d6, d7, d8, d9, d10] }
  | _ => none }
def FnRefTellsObjectsApartWrongFalsely : Prop := fnRefTellsObjectsApartRow.holds Try.pinned (OpenSpec.ofChange fnRefTellsObjectsApartWrong)

end Rows
end Go.Proofs.Qxb6621642a
