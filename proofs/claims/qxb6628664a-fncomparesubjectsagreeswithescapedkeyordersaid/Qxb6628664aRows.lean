/-
  No cell of these rows narrows 'for every input' (looked for: loops, veiled, ifaces, maps, wideKeys, modest, calm, conditions, laid).
  DERIVED. THE GIVEN ROWS OF THIS SEAT. 2 by the template 'for every input the law returns true; each argument reads behind the call as it read before'; 0 by the template 'total and deterministic' (their statements: Qxb6628664aTotals.lean).
  GIVEN WITH THE SEED: the statements are not yours to turn. If you find one false, say at which input.
  Laid BY PROGRAM, IN A SANDBOX (cutbox-rows.mjs): the forced cells as the released guide's own fill.sh prints them over the translation eb6a42601e3b412b… (all of the seat's roots in one cut). By AI agents, Wed Nov 11 2026. No macro, syntax, notation, axiom, sorry.
-/
import Derived.Test.Qxb6628664aChecked
import GoSem.Claim
import GoSem.ClaimJoined
import GoSem.ClaimMapViews
import Derived.JoinedTies
import Derived.KernelRfl
namespace Go.Proofs.Qxb6628664a
/- THE CELL 'sum', in the pinned program and in every row, IS THE sha256 OF THE DUMP (.gsa) THAT Qxb6628664aProg.lean LOADS. Nothing in Lean hashes anything: it is a label: what it is worth is what the hold of that sum in a sandbox is worth. -/
noncomputable def Try.pinned : Pinned := { name := "qxb6628664a", sum := "eb6a42601e3b412bd4961fb52705492952109777f3ba4f0bec60f72888aef3fe", checked := Try.checked }
namespace Rows
def none {H : Type} : Left H := { results := [], args := [] }

/-- 'zzlaws_pkg_tuple_b1.FnCompareSubjectsAgreesWithEscapedKeyOrder': WHATEVER THE INPUT: true; the input reads as it did. -/
def fnCompareSubjectsAgreesWithEscapedKeyOrderSpec : ChangeSpec := { name := "fnCompareSubjectsAgreesWithEscapedKeyOrder", fn := fun _ => fun
  | [d1, d2, d3, d4, d5, d6] => { results := [.lit (.bool true)], args := [d1, d2, d3, d4, d5, d6] }
  | _ => none }
def fnCompareSubjectsAgreesWithEscapedKeyOrderRow : OpenClaim := { program := "qxb6628664a", sum := "eb6a42601e3b412bd4961fb52705492952109777f3ba4f0bec60f72888aef3fe", func := "example.com/rights-by-relation/rights-by-relation/zzlaws_pkg_tuple_b1.FnCompareSubjectsAgreesWithEscapedKeyOrder", spec := "fnCompareSubjectsAgreesWithEscapedKeyOrder", inPlace := ["internal/bytealg.abigen_runtime_cmpstring"], apart := false }
def FnCompareSubjectsAgreesWithEscapedKeyOrderSaid : Prop := fnCompareSubjectsAgreesWithEscapedKeyOrderRow.holds Try.pinned (OpenSpec.ofChange fnCompareSubjectsAgreesWithEscapedKeyOrderSpec)

/-- ITS FALSE NEIGHBOUR: 'it returns false'. Refute it at one input. -/
def fnCompareSubjectsAgreesWithEscapedKeyOrderWrong : ChangeSpec := { name := "fnCompareSubjectsAgreesWithEscapedKeyOrder", fn := fun _ => fun
  | [d1, d2, d3, d4, d5, d6] => { results := [.lit (.bool false)], args := [d1, d2, d3, d4, d5, d6] }
  | _ => none }
def FnCompareSubjectsAgreesWithEscapedKeyOrderWrongFalsely : Prop := fnCompareSubjectsAgreesWithEscapedKeyOrderRow.holds Try.pinned (OpenSpec.ofChange fnCompareSubjectsAgreesWithEscapedKeyOrderWrong)

/-- 'zzlaws_pkg_tuple_b1.FnCompareSubjectsTypeExtensionDominatesCommonTypeCancels': WHATEVER THE INPUT: true; the input reads as it did. -/
def fnCompareSubjectsTypeExtensionDominatesCommonTypeCancelsSpec : ChangeSpec := { name := "fnCompareSubjectsTypeExtensionDominatesCommonTypeCancels", fn := fun _ => fun
  | [d1, d2, d3, d4, d5, d6] => { results := [.lit (.bool true)], args := [d1, d2, d3, d4, d5, d6] }
  | _ => none }
def fnCompareSubjectsTypeExtensionDominatesCommonTypeCancelsRow : OpenClaim := { program := "qxb6628664a", sum := "eb6a42601e3b412bd4961fb52705492952109777f3ba4f0bec60f72888aef3fe", func := "example.com/rights-by-relation/rights-by-relation/zzlaws_pkg_tuple_b1.FnCompareSubjectsTypeExtensionDominatesCommonTypeCancels", spec := "fnCompareSubjectsTypeExtensionDominatesCommonTypeCancels", inPlace := ["internal/bytealg.abigen_runtime_cmpstring"], apart := false }
def FnCompareSubjectsTypeExtensionDominatesCommonTypeCancelsSaid : Prop := fnCompareSubjectsTypeExtensionDominatesCommonTypeCancelsRow.holds Try.pinned (OpenSpec.ofChange fnCompareSubjectsTypeExtensionDominatesCommonTypeCancelsSpec)

/-- ITS FALSE NEIGHBOUR: 'it returns false'. Refute it at one input. -/
def fnCompareSubjectsTypeExtensionDominatesCommonTypeCancelsWrong : ChangeSpec := { name := "fnCompareSubjectsTypeExtensionDominatesCommonTypeCancels", fn := fun _ => fun
  | [d1, d2, d3, d4, d5, d6] => { results := [.lit (.bool false)], args := [d1, d2, d3, d4, d5, d6] }
  | _ => none }
def FnCompareSubjectsTypeExtensionDominatesCommonTypeCancelsWrongFalsely : Prop := fnCompareSubjectsTypeExtensionDominatesCommonTypeCancelsRow.holds Try.pinned (OpenSpec.ofChange fnCompareSubjectsTypeExtensionDominatesCommonTypeCancelsWrong)

end Rows
end Go.Proofs.Qxb6628664a
