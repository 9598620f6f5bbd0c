/-
  No cell of these rows narrows 'for every input' (looked for: loops, veiled, ifaces, maps, wideKeys, modest, calm, conditions, laid).
  DERIVED. THE GIVEN ROWS OF THIS SEAT. 2 by the template 'for every input the law returns true; each argument reads behind the call as it read before'; 0 by the template 'total and deterministic' (their statements: Qxb6628640aTotals.lean).
  GIVEN WITH THE SEED: the statements are not yours to turn. If you find one false, say at which input.
  Laid BY PROGRAM, IN A SANDBOX (cutbox-rows.mjs): the forced cells as the released guide's own fill.sh prints them over the translation 4a2a119545800e12… (all of the seat's roots in one cut). By AI agents, Wed Nov 11 2026. No macro, syntax, notation, axiom, sorry.
-/
import Derived.Test.Qxb6628640aChecked
import GoSem.Claim
import GoSem.ClaimJoined
import GoSem.ClaimMapViews
import Derived.JoinedTies
import Derived.KernelRfl
namespace Go.Proofs.Qxb6628640a
/- THE CELL 'sum', in the pinned program and in every row, IS THE sha256 OF THE DUMP (.gsa) THAT Qxb6628640aProg.lean LOADS. Nothing in Lean hashes anything: it is a label: what it is worth is what the hold of that sum in a sandbox is worth. -/
noncomputable def Try.pinned : Pinned := { name := "qxb6628640a", sum := "4a2a119545800e1290952bba12282fb55c922a75111f87086d06ae86d30d99f7", checked := Try.checked }
namespace Rows
def none {H : Type} : Left H := { results := [], args := [] }

/-- 'zzlaws_root_b1.FnDefaultThresholdConsecutiveSum': WHATEVER THE INPUT: true; the input reads as it did. -/
def fnDefaultThresholdConsecutiveSumSpec : ChangeSpec := { name := "fnDefaultThresholdConsecutiveSum", fn := fun _ => fun
  | [d] => { results := [.lit (.bool true)], args := [d] }
  | _ => none }
def fnDefaultThresholdConsecutiveSumRow : OpenClaim := { program := "qxb6628640a", sum := "4a2a119545800e1290952bba12282fb55c922a75111f87086d06ae86d30d99f7", func := "example.com/shardkeep/shardkeep/zzlaws_root_b1.FnDefaultThresholdConsecutiveSum", spec := "fnDefaultThresholdConsecutiveSum", apart := false }
def FnDefaultThresholdConsecutiveSumSaid : Prop := fnDefaultThresholdConsecutiveSumRow.holds Try.pinned (OpenSpec.ofChange fnDefaultThresholdConsecutiveSumSpec)

/-- ITS FALSE NEIGHBOUR: 'it returns false'. Refute it at one input. -/
def fnDefaultThresholdConsecutiveSumWrong : ChangeSpec := { name := "fnDefaultThresholdConsecutiveSum", fn := fun _ => fun
  | [d] => { results := [.lit (.bool false)], args := [d] }
  | _ => none }
def FnDefaultThresholdConsecutiveSumWrongFalsely : Prop := fnDefaultThresholdConsecutiveSumRow.holds Try.pinned (OpenSpec.ofChange fnDefaultThresholdConsecutiveSumWrong)

/-- 'zzlaws_root_b1.FnDefaultThresholdSplitIntoTwoGroups': WHATEVER THE INPUT: true; the input reads as it did. -/
def fnDefaultThresholdSplitIntoTwoGroupsSpec : ChangeSpec := { name := "fnDefaultThresholdSplitIntoTwoGroups", fn := fun _ => fun
  | [d1, d2] => { results := [.lit (.bool true)], args := [d1, d2] }
  | _ => none }
def fnDefaultThresholdSplitIntoTwoGroupsRow : OpenClaim := { program := "qxb6628640a", sum := "4a2a119545800e1290952bba12282fb55c922a75111f87086d06ae86d30d99f7", func := "example.com/shardkeep/shardkeep/zzlaws_root_b1.FnDefaultThresholdSplitIntoTwoGroups", spec := "fnDefaultThresholdSplitIntoTwoGroups", apart := false }
def FnDefaultThresholdSplitIntoTwoGroupsSaid : Prop := fnDefaultThresholdSplitIntoTwoGroupsRow.holds Try.pinned (OpenSpec.ofChange fnDefaultThresholdSplitIntoTwoGroupsSpec)

/-- ITS FALSE NEIGHBOUR: 'it returns false'. Refute it at one input. -/
def fnDefaultThresholdSplitIntoTwoGroupsWrong : ChangeSpec := { name := "fnDefaultThresholdSplitIntoTwoGroups", fn := fun _ => fun
  | [d1, d2] => { results := [.lit (.bool false)], args := [d1, d2] }
  | _ => none }
def FnDefaultThresholdSplitIntoTwoGroupsWrongFalsely : Prop := fnDefaultThresholdSplitIntoTwoGroupsRow.holds Try.pinned (OpenSpec.ofChange fnDefaultThresholdSplitIntoTwoGroupsWrong)

end Rows
end Go.Proofs.Qxb6628640a
