/-
  No cell of these rows narrows 'for every input' (looked for: loops, veiled, ifaces, maps, wideKeys, modest, calm, conditions, laid).
  DERIVED. THE GIVEN ROWS OF THIS SEAT. 4 by the template 'for every input the law returns true; each argument reads behind the call as it read before'; 0 by the template 'total and deterministic' (their statements: Qxb6003720aTotals.lean).
  GIVEN WITH THE SEED: the statements are not yours to turn. If you find one false, say at which input.
  Laid BY PROGRAM, IN A SANDBOX (cutbox-rows.mjs): the forced cells as the released guide's own fill.sh prints them over the translation df6e6a2a2e16eb59… (all of the seat's roots in one cut). By AI agents, Wed Nov 11 2026. No macro, syntax, notation, axiom, sorry.
-/
import Derived.Test.Qxb6003720aChecked
import GoSem.Claim
import GoSem.ClaimJoined
import GoSem.ClaimMapViews
import Derived.JoinedTies
import Derived.KernelRfl
namespace Go.Proofs.Qxb6003720a
/- THE CELL 'sum', in the pinned program and in every row, IS THE sha256 OF THE DUMP (.gsa) THAT Qxb6003720aProg.lean LOADS. Nothing in Lean hashes anything: it is a label: what it is worth is what the hold of that sum in a sandbox is worth. -/
noncomputable def Try.pinned : Pinned := { name := "qxb6003720a", sum := "df6e6a2a2e16eb59e978b83097463a8c0aaa3d203dc1ace9a9edc934b138d415", checked := Try.checked }
namespace Rows
def none {H : Type} : Left H := { results := [], args := [] }

/-- 'zzlaws_eventlog_g1.FnTimeAfterComposes': WHATEVER THE INPUT: true; the input reads as it did. -/
def fnTimeAfterComposesSpec : ChangeSpec := { name := "fnTimeAfterComposes", fn := fun _ => fun
  | [d1, d2, d3] => { results := [.lit (.bool true)], args := [d1, d2, d3] }
  | _ => none }
def fnTimeAfterComposesRow : OpenClaim := { program := "qxb6003720a", sum := "df6e6a2a2e16eb59e978b83097463a8c0aaa3d203dc1ace9a9edc934b138d415", func := "example.com/resolvent/resolvent/zzlaws_eventlog_g1.FnTimeAfterComposes", spec := "fnTimeAfterComposes", apart := false }
def FnTimeAfterComposesSaid : Prop := fnTimeAfterComposesRow.holds Try.pinned (OpenSpec.ofChange fnTimeAfterComposesSpec)

/-- ITS FALSE NEIGHBOUR: 'it returns false'. Refute it at one input. -/
def fnTimeAfterComposesWrong : ChangeSpec := { name := "fnTimeAfterComposes", fn := fun _ => fun
  | [d1, d2, d3] => { results := [.lit (.bool false)], args := [d1, d2, d3] }
  | _ => none }
def FnTimeAfterComposesWrongFalsely : Prop := fnTimeAfterComposesRow.holds Try.pinned (OpenSpec.ofChange fnTimeAfterComposesWrong)

/-- 'zzlaws_eventlog_g1.FnTimeAfterMonotoneNeverBefore': WHATEVER THE INPUT: true; the input reads as it did. -/
def fnTimeAfterMonotoneNeverBeforeSpec : ChangeSpec := { name := "fnTimeAfterMonotoneNeverBefore", fn := fun _ => fun
  | [d1, d2, d3, d4] => { results := [.lit (.bool true)], args := [d1, d2, d3, d4] }
  | _ => none }
def fnTimeAfterMonotoneNeverBeforeRow : OpenClaim := { program := "qxb6003720a", sum := "df6e6a2a2e16eb59e978b83097463a8c0aaa3d203dc1ace9a9edc934b138d415", func := "example.com/resolvent/resolvent/zzlaws_eventlog_g1.FnTimeAfterMonotoneNeverBefore", spec := "fnTimeAfterMonotoneNeverBefore", apart := false }
def FnTimeAfterMonotoneNeverBeforeSaid : Prop := fnTimeAfterMonotoneNeverBeforeRow.holds Try.pinned (OpenSpec.ofChange fnTimeAfterMonotoneNeverBeforeSpec)

/-- ITS FALSE NEIGHBOUR: 'it returns false'. Refute it at one input. -/
def fnTimeAfterMonotoneNeverBeforeWrong : ChangeSpec := { name := "fnTimeAfterMonotoneNeverBefore", fn := fun _ => fun
  | [d1, d2, d3, d4] => { results := [.lit (.bool false)], args := [d1, d2, d3, d4] }
  | _ => none }
def FnTimeAfterMonotoneNeverBeforeWrongFalsely : Prop := fnTimeAfterMonotoneNeverBeforeRow.holds Try.pinned (OpenSpec.ofChange fnTimeAfterMonotoneNeverBeforeWrong)

/-- 'zzlaws_feed_g1.FnAppendLineParsesBack': WHATEVER THE INPUT: true; the input reads as it did. -/
def fnAppendLineParsesBackSpec : ChangeSpec := { name := "fnAppendLineParsesBack", fn := fun _ => fun
  | [d1, d2, d3] => { results := [.lit (.bool true)], args := [d1, d2, d3] }
  | _ => none }
def fnAppendLineParsesBackRow : OpenClaim := { program := "qxb6003720a", sum := "df6e6a2a2e16eb59e978b83097463a8c0aaa3d203dc1ace9a9edc934b138d415", func := "example.com/resolvent/resolvent/zzlaws_feed_g1.FnAppendLineParsesBack", spec := "fnAppendLineParsesBack", apart := false }
def FnAppendLineParsesBackSaid : Prop := fnAppendLineParsesBackRow.holds Try.pinned (OpenSpec.ofChange fnAppendLineParsesBackSpec)

/-- ITS FALSE NEIGHBOUR: 'it returns false'. Refute it at one input. -/
def fnAppendLineParsesBackWrong : ChangeSpec := { name := "fnAppendLineParsesBack", fn := fun _ => fun
  | [d1, d2, d3] => { results := [.lit (.bool false)], args := [d1, d2, d3] }
  | _ => none }
def FnAppendLineParsesBackWrongFalsely : Prop := fnAppendLineParsesBackRow.holds Try.pinned (OpenSpec.ofChange fnAppendLineParsesBackWrong)

/-- 'zzlaws_internal_service_g1.FnLineCounterWriteSplitFree': WHATEVER THE INPUT: true; the input reads as it did. -/
def fnLineCounterWriteSplitFreeSpec : ChangeSpec := { name := "fnLineCounterWriteSplitFree", fn := fun _ => fun
  | [d1, d2, d3, d4] => { results := [.lit (.bool true)], args := [d1, d2, d3, d4] }
  | _ => none }
def fnLineCounterWriteSplitFreeRow : OpenClaim := { program := "qxb6003720a", sum := "df6e6a2a2e16eb59e978b83097463a8c0aaa3d203dc1ace9a9edc934b138d415", func := "example.com/resolvent/resolvent/zzlaws_internal_service_g1.FnLineCounterWriteSplitFree", spec := "fnLineCounterWriteSplitFree", inPlace := ["internal/bytealg.Count", "internal/bytealg.IndexByte", "internal/bytealg.Index"], named := ["internal/bytealg.MaxLen"], apart := false }
def FnLineCounterWriteSplitFreeSaid : Prop := fnLineCounterWriteSplitFreeRow.holds Try.pinned (OpenSpec.ofChange fnLineCounterWriteSplitFreeSpec)

/-- ITS FALSE NEIGHBOUR: 'it returns false'. Refute it at one input. -/
def fnLineCounterWriteSplitFreeWrong : ChangeSpec := { name := "fnLineCounterWriteSplitFree", fn := fun _ => fun
  | [d1, d2, d3, d4] => { results := [.lit (.bool false)], args := [d1, d2, d3, d4] }
  | _ => none }
def FnLineCounterWriteSplitFreeWrongFalsely : Prop := fnLineCounterWriteSplitFreeRow.holds Try.pinned (OpenSpec.ofChange fnLineCounterWriteSplitFreeWrong)

end Rows
end Go.Proofs.Qxb6003720a
