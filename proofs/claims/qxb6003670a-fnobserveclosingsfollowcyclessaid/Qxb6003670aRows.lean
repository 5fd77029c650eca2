/-
  No cell of these rows narrows 'for every input' (looked for: loops, veiled, ifaces, maps, wideKeys, modest, calm, conditions, laid).
  DERIVED. THE GIVEN ROWS OF THIS SEAT. 4 by the template 'for every input the law returns true; each argument reads behind the call as it read before'; 0 by the template 'total and deterministic' (their statements: Qxb6003670aTotals.lean).
  GIVEN WITH THE SEED: the statements are not yours to turn. If you find one false, say at which input.
  Laid BY PROGRAM, IN A SANDBOX (cutbox-rows.mjs): the forced cells as the released guide's own fill.sh prints them over the translation 03aca4496f388cd8… (all of the seat's roots in one cut). By AI agents, Wed Nov 11 2026. No macro, syntax, notation, axiom, sorry.
-/
import Derived.Test.Qxb6003670aChecked
import GoSem.Claim
import GoSem.ClaimJoined
import GoSem.ClaimMapViews
import Derived.JoinedTies
import Derived.KernelRfl
namespace Go.Proofs.Qxb6003670a
/- THE CELL 'sum', in the pinned program and in every row, IS THE sha256 OF THE DUMP (.gsa) THAT Qxb6003670aProg.lean LOADS. Nothing in Lean hashes anything: it is a label: what it is worth is what the hold of that sum in a sandbox is worth. -/
noncomputable def Try.pinned : Pinned := { name := "qxb6003670a", sum := "03aca4496f388cd874cb0e5faea951af59158ddf860be0c2f6cea38ef8b38495", checked := Try.checked }
namespace Rows
def none {H : Type} : Left H := { results := [], args := [] }

/-- 'zzlaws_internal_sim_g1.FnReachesMatchesClosure': WHATEVER THE INPUT: true; the input reads as it did. -/
def fnReachesMatchesClosureSpec : ChangeSpec := { name := "fnReachesMatchesClosure", fn := fun _ => fun
  | [d1, d2, d3, d4] => { results := [.lit (.bool true)], args := [d1, d2, d3, d4] }
  | _ => none }
def fnReachesMatchesClosureRow : OpenClaim := { program := "qxb6003670a", sum := "03aca4496f388cd874cb0e5faea951af59158ddf860be0c2f6cea38ef8b38495", func := "example.com/knotwise/knotwise/zzlaws_internal_sim_g1.FnReachesMatchesClosure", spec := "fnReachesMatchesClosure", plainKeys := false, apart := false }
def FnReachesMatchesClosureSaid : Prop := fnReachesMatchesClosureRow.holds Try.pinned (OpenSpec.ofChange fnReachesMatchesClosureSpec)

/-- ITS FALSE NEIGHBOUR: 'it returns false'. Refute it at one input. -/
def fnReachesMatchesClosureWrong : ChangeSpec := { name := "fnReachesMatchesClosure", fn := fun _ => fun
  | [d1, d2, d3, d4] => { results := [.lit (.bool false)], args := [d1, d2, d3, d4] }
  | _ => none }
def FnReachesMatchesClosureWrongFalsely : Prop := fnReachesMatchesClosureRow.holds Try.pinned (OpenSpec.ofChange fnReachesMatchesClosureWrong)

/-- 'zzlaws_internal_sim_g1.FnCountScriptKeepsSums': WHATEVER THE INPUT: true; the input reads as it did. -/
def fnCountScriptKeepsSumsSpec : ChangeSpec := { name := "fnCountScriptKeepsSums", fn := fun _ => fun
  | [d1, d2] => { results := [.lit (.bool true)], args := [d1, d2] }
  | _ => none }
def fnCountScriptKeepsSumsRow : OpenClaim := { program := "qxb6003670a", sum := "03aca4496f388cd874cb0e5faea951af59158ddf860be0c2f6cea38ef8b38495", func := "example.com/knotwise/knotwise/zzlaws_internal_sim_g1.FnCountScriptKeepsSums", spec := "fnCountScriptKeepsSums", plainKeys := false, apart := false }
def FnCountScriptKeepsSumsSaid : Prop := fnCountScriptKeepsSumsRow.holds Try.pinned (OpenSpec.ofChange fnCountScriptKeepsSumsSpec)

/-- ITS FALSE NEIGHBOUR: 'it returns false'. Refute it at one input. -/
def fnCountScriptKeepsSumsWrong : ChangeSpec := { name := "fnCountScriptKeepsSums", fn := fun _ => fun
  | [d1, d2] => { results := [.lit (.bool false)], args := [d1, d2] }
  | _ => none }
def FnCountScriptKeepsSumsWrongFalsely : Prop := fnCountScriptKeepsSumsRow.holds Try.pinned (OpenSpec.ofChange fnCountScriptKeepsSumsWrong)

/-- 'zzlaws_internal_sim_g1.FnObserveStandingCountsSites': WHATEVER THE INPUT: true; the input reads as it did. -/
def fnObserveStandingCountsSitesSpec : ChangeSpec := { name := "fnObserveStandingCountsSites", fn := fun _ => fun
  | [d1, d2] => { results := [.lit (.bool true)], args := [d1, d2] }
  | _ => none }
def fnObserveStandingCountsSitesRow : OpenClaim := { program := "qxb6003670a", sum := "03aca4496f388cd874cb0e5faea951af59158ddf860be0c2f6cea38ef8b38495", func := "example.com/knotwise/knotwise/zzlaws_internal_sim_g1.FnObserveStandingCountsSites", spec := "fnObserveStandingCountsSites", plainKeys := false, apart := false }
def FnObserveStandingCountsSitesSaid : Prop := fnObserveStandingCountsSitesRow.holds Try.pinned (OpenSpec.ofChange fnObserveStandingCountsSitesSpec)

/-- ITS FALSE NEIGHBOUR: 'it returns false'. Refute it at one input. -/
def fnObserveStandingCountsSitesWrong : ChangeSpec := { name := "fnObserveStandingCountsSites", fn := fun _ => fun
  | [d1, d2] => { results := [.lit (.bool false)], args := [d1, d2] }
  | _ => none }
def FnObserveStandingCountsSitesWrongFalsely : Prop := fnObserveStandingCountsSitesRow.holds Try.pinned (OpenSpec.ofChange fnObserveStandingCountsSitesWrong)

/-- 'zzlaws_internal_sim_g1.FnObserveClosingsFollowCycles': WHATEVER THE INPUT: true; the input reads as it did. -/
def fnObserveClosingsFollowCyclesSpec : ChangeSpec := { name := "fnObserveClosingsFollowCycles", fn := fun _ => fun
  | [d1, d2] => { results := [.lit (.bool true)], args := [d1, d2] }
  | _ => none }
def fnObserveClosingsFollowCyclesRow : OpenClaim := { program := "qxb6003670a", sum := "03aca4496f388cd874cb0e5faea951af59158ddf860be0c2f6cea38ef8b38495", func := "example.com/knotwise/knotwise/zzlaws_internal_sim_g1.FnObserveClosingsFollowCycles", spec := "fnObserveClosingsFollowCycles", plainKeys := false, apart := false }
def FnObserveClosingsFollowCyclesSaid : Prop := fnObserveClosingsFollowCyclesRow.holds Try.pinned (OpenSpec.ofChange fnObserveClosingsFollowCyclesSpec)

/-- ITS FALSE NEIGHBOUR: 'it returns false'. Refute it at one input. -/
def fnObserveClosingsFollowCyclesWrong : ChangeSpec := { name := "fnObserveClosingsFollowCycles", fn := fun _ => fun
  | [d1, d2] => { results := [.lit (.bool false)], args := [d1, d2] }
  | _ => none }
def FnObserveClosingsFollowCyclesWrongFalsely : Prop := fnObserveClosingsFollowCyclesRow.holds Try.pinned (OpenSpec.ofChange fnObserveClosingsFollowCyclesWrong)

end Rows
end Go.Proofs.Qxb6003670a
