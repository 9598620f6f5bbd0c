/-
  No cell of these rows narrows 'for every input' (looked for: loops, veiled, ifaces, maps, wideKeys, modest, calm, conditions, laid).
  DERIVED. THE GIVEN ROWS OF THIS SEAT. 2 by the template 'for every input the law returns true; each argument reads behind the call as it read before'; 0 by the template 'total and deterministic' (their statements: Qxb6628591aTotals.lean).
  GIVEN WITH THE SEED: the statements are not yours to turn. If you find one false, say at which input.
  Laid BY PROGRAM, IN A SANDBOX (cutbox-rows.mjs): the forced cells as the released guide's own fill.sh prints them over the translation 6f7117d267609fd5… (all of the seat's roots in one cut). By AI agents, Wed Nov 11 2026. No macro, syntax, notation, axiom, sorry.
-/
import Derived.Test.Qxb6628591aChecked
import GoSem.Claim
import GoSem.ClaimJoined
import GoSem.ClaimMapViews
import Derived.JoinedTies
import Derived.KernelRfl
namespace Go.Proofs.Qxb6628591a
/- THE CELL 'sum', in the pinned program and in every row, IS THE sha256 OF THE DUMP (.gsa) THAT Qxb6628591aProg.lean LOADS. Nothing in Lean hashes anything: it is a label: what it is worth is what the hold of that sum in a sandbox is worth. -/
noncomputable def Try.pinned : Pinned := { name := "qxb6628591a", sum := "6f7117d267609fd5db0229e874d7353841ee3feb7eb37cf34e828de72459842b", checked := Try.checked }
namespace Rows
def none {H : Type} : Left H := { results := [], args := [] }

/-- 'zzlaws_pkg_resp_b1.FnAppendErrorSplitsAtAnyCut': WHATEVER THE INPUT: true; the input reads as it did. -/
def fnAppendErrorSplitsAtAnyCutSpec : ChangeSpec := { name := "fnAppendErrorSplitsAtAnyCut", fn := fun _ => fun
  | [d1, d2, d3] => { results := [.lit (.bool true)], args := [d1, d2, d3] }
  | _ => none }
def fnAppendErrorSplitsAtAnyCutRow : OpenClaim := { program := "qxb6628591a", sum := "6f7117d267609fd5db0229e874d7353841ee3feb7eb37cf34e828de72459842b", func := "example.com/ledgerline/ledgerline/zzlaws_pkg_resp_b1.FnAppendErrorSplitsAtAnyCut", spec := "fnAppendErrorSplitsAtAnyCut", apart := false }
def FnAppendErrorSplitsAtAnyCutSaid : Prop := fnAppendErrorSplitsAtAnyCutRow.holds Try.pinned (OpenSpec.ofChange fnAppendErrorSplitsAtAnyCutSpec)

/-- ITS FALSE NEIGHBOUR: 'it returns false'. Refute it at one input. -/
def fnAppendErrorSplitsAtAnyCutWrong : ChangeSpec := { name := "fnAppendErrorSplitsAtAnyCut", fn := fun _ => fun
  | [d1, d2, d3] => { results := [.lit (.bool false)], args := [d1, d2, d3] }
  | _ => none }
def FnAppendErrorSplitsAtAnyCutWrongFalsely : Prop := fnAppendErrorSplitsAtAnyCutRow.holds Try.pinned (OpenSpec.ofChange fnAppendErrorSplitsAtAnyCutWrong)

/-- 'zzlaws_pkg_resp_b1.FnAppendErrorOneLineAndStable': WHATEVER THE INPUT: true; the input reads as it did. -/
def fnAppendErrorOneLineAndStableSpec : ChangeSpec := { name := "fnAppendErrorOneLineAndStable", fn := fun _ => fun
  | [d1, d2] => { results := [.lit (.bool true)], args := [d1, d2] }
  | _ => none }
def fnAppendErrorOneLineAndStableRow : OpenClaim := { program := "qxb6628591a", sum := "6f7117d267609fd5db0229e874d7353841ee3feb7eb37cf34e828de72459842b", func := "example.com/ledgerline/ledgerline/zzlaws_pkg_resp_b1.FnAppendErrorOneLineAndStable", spec := "fnAppendErrorOneLineAndStable", apart := false }
def FnAppendErrorOneLineAndStableSaid : Prop := fnAppendErrorOneLineAndStableRow.holds Try.pinned (OpenSpec.ofChange fnAppendErrorOneLineAndStableSpec)

/-- ITS FALSE NEIGHBOUR: 'it returns false'. Refute it at one input. -/
def fnAppendErrorOneLineAndStableWrong : ChangeSpec := { name := "fnAppendErrorOneLineAndStable", fn := fun _ => fun
  | [d1, d2] => { results := [.lit (.bool false)], args := [d1, d2] }
  | _ => none }
def FnAppendErrorOneLineAndStableWrongFalsely : Prop := fnAppendErrorOneLineAndStableRow.holds Try.pinned (OpenSpec.ofChange fnAppendErrorOneLineAndStableWrong)

end Rows
end Go.Proofs.Qxb6628591a
