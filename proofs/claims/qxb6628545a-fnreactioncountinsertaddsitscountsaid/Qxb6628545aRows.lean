/-
  No cell of these rows narrows 'for every input' (looked for: loops, veiled, ifaces, maps, wideKeys, modest, calm, conditions, laid).
  DERIVED. THE GIVEN ROWS OF THIS SEAT. 2 by the template 'for every input the law returns true; each argument reads behind the call as it read before'; 0 by the template 'total and deterministic' (their statements: Qxb6628545aTotals.lean).
  GIVEN WITH THE SEED: the statements are not yours to turn. If you find one false, say at which input.
  Laid BY PROGRAM, IN A SANDBOX (cutbox-rows.mjs): the forced cells as the released guide's own fill.sh prints them over the translation 47be2b497c84b7d8… (all of the seat's roots in one cut). By AI agents, Wed Nov 11 2026. No macro, syntax, notation, axiom, sorry.
-/
import Derived.Test.Qxb6628545aChecked
import GoSem.Claim
import GoSem.ClaimJoined
import GoSem.ClaimMapViews
import Derived.JoinedTies
import Derived.KernelRfl
namespace Go.Proofs.Qxb6628545a
/- THE CELL 'sum', in the pinned program and in every row, IS THE sha256 OF THE DUMP (.gsa) THAT Qxb6628545aProg.lean LOADS. Nothing in Lean hashes anything: it is a label: what it is worth is what the hold of that sum in a sandbox is worth. -/
noncomputable def Try.pinned : Pinned := { name := "qxb6628545a", sum := "47be2b497c84b7d830533d5222c062c7a2218c162a1ec5ec8b72021fc3d2eda4", checked := Try.checked }
namespace Rows
def none {H : Type} : Left H := { results := [], args := [] }

/-- 'zzlaws_root_b1.FnReactionCountInsertAddsItsCount': WHATEVER THE INPUT: true; the input reads as it did. -/
def fnReactionCountInsertAddsItsCountSpec : ChangeSpec := { name := "fnReactionCountInsertAddsItsCount", fn := fun _ => fun
  | [d1, d2, d3, d4, d5] => { results := [.lit (.bool true)], args := [d1, d2, d3, d4, d5] }
  | _ => none }
def fnReactionCountInsertAddsItsCountRow : OpenClaim := { program := "qxb6628545a", sum := "47be2b497c84b7d830533d5222c062c7a2218c162a1ec5ec8b72021fc3d2eda4", func := "example.com/likewise/likewise/zzlaws_root_b1.FnReactionCountInsertAddsItsCount", spec := "fnReactionCountInsertAddsItsCount", apart := false }
def FnReactionCountInsertAddsItsCountSaid : Prop := fnReactionCountInsertAddsItsCountRow.holds Try.pinned (OpenSpec.ofChange fnReactionCountInsertAddsItsCountSpec)

/-- ITS FALSE NEIGHBOUR: 'it returns false'. Refute it at one input. -/
def fnReactionCountInsertAddsItsCountWrong : ChangeSpec := { name := "fnReactionCountInsertAddsItsCount", fn := fun _ => fun
  | [d1, d2, d3, d4, d5] => { results := [.lit (.bool false)], args := [d1, d2, d3, d4, d5] }
  | _ => none }
def FnReactionCountInsertAddsItsCountWrongFalsely : Prop := fnReactionCountInsertAddsItsCountRow.holds Try.pinned (OpenSpec.ofChange fnReactionCountInsertAddsItsCountWrong)

/-- 'zzlaws_root_b1.FnReactionCountPrefixSteps': WHATEVER THE INPUT: true; the input reads as it did. -/
def fnReactionCountPrefixStepsSpec : ChangeSpec := { name := "fnReactionCountPrefixSteps", fn := fun _ => fun
  | [d1, d2, d3] => { results := [.lit (.bool true)], args := [d1, d2, d3] }
  | _ => none }
def fnReactionCountPrefixStepsRow : OpenClaim := { program := "qxb6628545a", sum := "47be2b497c84b7d830533d5222c062c7a2218c162a1ec5ec8b72021fc3d2eda4", func := "example.com/likewise/likewise/zzlaws_root_b1.FnReactionCountPrefixSteps", spec := "fnReactionCountPrefixSteps", apart := false }
def FnReactionCountPrefixStepsSaid : Prop := fnReactionCountPrefixStepsRow.holds Try.pinned (OpenSpec.ofChange fnReactionCountPrefixStepsSpec)

/-- ITS FALSE NEIGHBOUR: 'it returns false'. Refute it at one input. -/
def fnReactionCountPrefixStepsWrong : ChangeSpec := { name := "fnReactionCountPrefixSteps", fn := fun _ => fun
  | [d1, d2, d3] => { results := [.lit (.bool false)], args := [d1, d2, d3] }
  | _ => none }
def FnReactionCountPrefixStepsWrongFalsely : Prop := fnReactionCountPrefixStepsRow.holds Try.pinned (OpenSpec.ofChange fnReactionCountPrefixStepsWrong)

end Rows
end Go.Proofs.Qxb6628545a
