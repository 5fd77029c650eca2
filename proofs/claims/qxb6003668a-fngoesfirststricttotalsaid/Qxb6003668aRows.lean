/-
  No cell of these rows narrows 'for every input' (looked for: loops, veiled, ifaces, maps, wideKeys, modest, calm, conditions, laid).
  DERIVED. THE GIVEN ROWS OF THIS SEAT. 4 by the template 'for every input the law returns true; each argument reads behind the call as it read before'; 0 by the template 'total and deterministic' (their statements: Qxb6003668aTotals.lean).
  GIVEN WITH THE SEED: the statements are not yours to turn. If you find one false, say at which input.
  Laid BY PROGRAM, IN A SANDBOX (cutbox-rows.mjs): the forced cells as the released guide's own fill.sh prints them over the translation 035b3158036e7dc6… (all of the seat's roots in one cut). By AI agents, Wed Nov 11 2026. No macro, syntax, notation, axiom, sorry.
-/
import Derived.Test.Qxb6003668aChecked
import GoSem.Claim
import GoSem.ClaimJoined
import GoSem.ClaimMapViews
import Derived.JoinedTies
import Derived.KernelRfl
namespace Go.Proofs.Qxb6003668a
/- THE CELL 'sum', in the pinned program and in every row, IS THE sha256 OF THE DUMP (.gsa) THAT Qxb6003668aProg.lean LOADS. Nothing in Lean hashes anything: it is a label: what it is worth is what the hold of that sum in a sandbox is worth. -/
noncomputable def Try.pinned : Pinned := { name := "qxb6003668a", sum := "035b3158036e7dc696576292a40db0254a65f002fca981be60cbf931875e2b08", checked := Try.checked }
namespace Rows
def none {H : Type} : Left H := { results := [], args := [] }

/-- 'zzlaws_internal_cluster_g1.FnVictimIsBruteForceChoice': WHATEVER THE INPUT: true; the input reads as it did. -/
def fnVictimIsBruteForceChoiceSpec : ChangeSpec := { name := "fnVictimIsBruteForceChoice", fn := fun _ => fun
  | [d1, d2, d3, d4, d5, d6, d7] => { results := [.lit (.bool true)], args := [d1, d2, d3, d4, d5, d6, d7] }
  | _ => none }
def fnVictimIsBruteForceChoiceRow : OpenClaim := { program := "qxb6003668a", sum := "035b3158036e7dc696576292a40db0254a65f002fca981be60cbf931875e2b08", func := "example.com/knotwise/knotwise/zzlaws_internal_cluster_g1.FnVictimIsBruteForceChoice", spec := "fnVictimIsBruteForceChoice", inPlace := ["slices.overlaps[*example.com/knotwise/knotwise/internal/cluster.reported]", "slices.overlaps[string]"], unfollowed := true, recurses := true, plainKeys := false, apart := false }
def FnVictimIsBruteForceChoiceSaid : Prop := fnVictimIsBruteForceChoiceRow.holds Try.pinned (OpenSpec.ofChange fnVictimIsBruteForceChoiceSpec)

/-- ITS FALSE NEIGHBOUR: 'it returns false'. Refute it at one input. -/
def fnVictimIsBruteForceChoiceWrong : ChangeSpec := { name := "fnVictimIsBruteForceChoice", fn := fun _ => fun
  | [d1, d2, d3, d4, d5, d6, d7] => { results := [.lit (.bool false)], args := [d1, d2, d3, d4, d5, d6, d7] }
  | _ => none }
def FnVictimIsBruteForceChoiceWrongFalsely : Prop := fnVictimIsBruteForceChoiceRow.holds Try.pinned (OpenSpec.ofChange fnVictimIsBruteForceChoiceWrong)

/-- 'zzlaws_internal_cluster_g2.FnGoesFirstStrictTotal': WHATEVER THE INPUT: true; the input reads as it did. -/
def fnGoesFirstStrictTotalSpec : ChangeSpec := { name := "fnGoesFirstStrictTotal", fn := fun _ => fun
  | [d1, d2, d3, d4, d5, d6, d7, d8] => { results := [.lit (.bool true)], args := [d1, d2, d3, d4, d5, d6, d7, d8] }
  | _ => none }
def fnGoesFirstStrictTotalRow : OpenClaim := { program := "qxb6003668a", sum := "035b3158036e7dc696576292a40db0254a65f002fca981be60cbf931875e2b08", func := "example.com/knotwise/knotwise/zzlaws_internal_cluster_g2.FnGoesFirstStrictTotal", spec := "fnGoesFirstStrictTotal", plainKeys := false, apart := false }
def FnGoesFirstStrictTotalSaid : Prop := fnGoesFirstStrictTotalRow.holds Try.pinned (OpenSpec.ofChange fnGoesFirstStrictTotalSpec)

/-- ITS FALSE NEIGHBOUR: 'it returns false'. Refute it at one input. -/
def fnGoesFirstStrictTotalWrong : ChangeSpec := { name := "fnGoesFirstStrictTotal", fn := fun _ => fun
  | [d1, d2, d3, d4, d5, d6, d7, d8] => { results := [.lit (.bool false)], args := [d1, d2, d3, d4, d5, d6, d7, d8] }
  | _ => none }
def FnGoesFirstStrictTotalWrongFalsely : Prop := fnGoesFirstStrictTotalRow.holds Try.pinned (OpenSpec.ofChange fnGoesFirstStrictTotalWrong)

/-- 'zzlaws_internal_cluster_g2.FnGoesFirstTransitive': WHATEVER THE INPUT: true; the input reads as it did. -/
def fnGoesFirstTransitiveSpec : ChangeSpec := { name := "fnGoesFirstTransitive", fn := fun _ => fun
  | [d1, d2, d3, d4, d5, d6, d7, d8, d9, d10, d11, d12] => { results := [.lit (.bool true)], args := [d1, d2, d3, d4, d5, d6, d7, d8, d9, d10, d11, d12] }
  | _ => none }
def fnGoesFirstTransitiveRow : OpenClaim := { program := "qxb6003668a", sum := "035b3158036e7dc696576292a40db0254a65f002fca981be60cbf931875e2b08", func := "example.com/knotwise/knotwise/zzlaws_internal_cluster_g2.FnGoesFirstTransitive", spec := "fnGoesFirstTransitive", plainKeys := false, apart := false }
def FnGoesFirstTransitiveSaid : Prop := fnGoesFirstTransitiveRow.holds Try.pinned (OpenSpec.ofChange fnGoesFirstTransitiveSpec)

/-- ITS FALSE NEIGHBOUR: 'it returns false'. Refute it at one input. -/
def fnGoesFirstTransitiveWrong : ChangeSpec := { name := "fnGoesFirstTransitive", fn := fun _ => fun
  | [d1, d2, d3, d4, d5, d6, d7, d8, d9, d10, d11, d12] => { results := [.lit (.bool false)], args := [d1, d2, d3, d4, d5, d6, d7, d8, d9, d10, d11, d12] }
  | _ => none }
def FnGoesFirstTransitiveWrongFalsely : Prop := fnGoesFirstTransitiveRow.holds Try.pinned (OpenSpec.ofChange fnGoesFirstTransitiveWrong)

/-- 'zzlaws_internal_locktable_g1.FnLeadsAmongBlockers': WHATEVER THE INPUT: true; the input reads as it did. -/
def fnLeadsAmongBlockersSpec : ChangeSpec := { name := "fnLeadsAmongBlockers", fn := fun _ => fun
  | [d1, d2, d3, d4, d5] => { results := [.lit (.bool true)], args := [d1, d2, d3, d4, d5] }
  | _ => none }
def fnLeadsAmongBlockersRow : OpenClaim := { program := "qxb6003668a", sum := "035b3158036e7dc696576292a40db0254a65f002fca981be60cbf931875e2b08", func := "example.com/knotwise/knotwise/zzlaws_internal_locktable_g1.FnLeadsAmongBlockers", spec := "fnLeadsAmongBlockers", recurses := true, plainKeys := false, apart := false }
def FnLeadsAmongBlockersSaid : Prop := fnLeadsAmongBlockersRow.holds Try.pinned (OpenSpec.ofChange fnLeadsAmongBlockersSpec)

/-- ITS FALSE NEIGHBOUR: 'it returns false'. Refute it at one input. -/
def fnLeadsAmongBlockersWrong : ChangeSpec := { name := "fnLeadsAmongBlockers", fn := fun _ => fun
  | [d1, d2, d3, d4, d5] => { results := [.lit (.bool false)], args := [d1, d2, d3, d4, d5] }
  | _ => none }
def FnLeadsAmongBlockersWrongFalsely : Prop := fnLeadsAmongBlockersRow.holds Try.pinned (OpenSpec.ofChange fnLeadsAmongBlockersWrong)

end Rows
end Go.Proofs.Qxb6003668a
