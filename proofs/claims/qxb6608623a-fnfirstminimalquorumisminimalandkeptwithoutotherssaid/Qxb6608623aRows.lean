/-
  No cell of these rows narrows 'for every input' (looked for: loops, veiled, ifaces, maps, wideKeys, modest, calm, conditions, laid).
  DERIVED. THE GIVEN ROWS OF THIS SEAT. 4 by the template 'for every input the law returns true; each argument reads behind the call as it read before'; 0 by the template 'total and deterministic' (their statements: Qxb6608623aTotals.lean).
  GIVEN WITH THE SEED: the statements are not yours to turn. If you find one false, say at which input.
  Laid BY PROGRAM, IN A SANDBOX (cutbox-rows.mjs): the forced cells as the released guide's own fill.sh prints them over the translation 51de7c5563edd73d… (all of the seat's roots in one cut). By AI agents, Wed Nov 11 2026. No macro, syntax, notation, axiom, sorry.
-/
import Derived.Test.Qxb6608623aChecked
import GoSem.Claim
import GoSem.ClaimJoined
import GoSem.ClaimMapViews
import Derived.JoinedTies
import Derived.KernelRfl
namespace Go.Proofs.Qxb6608623a
/- THE CELL 'sum', in the pinned program and in every row, IS THE sha256 OF THE DUMP (.gsa) THAT Qxb6608623aProg.lean LOADS. Nothing in Lean hashes anything: it is a label: what it is worth is what the hold of that sum in a sandbox is worth. -/
noncomputable def Try.pinned : Pinned := { name := "qxb6608623a", sum := "51de7c5563edd73ddece6b74309e1a8c19f0f9171895ba74570af7bed129398e", checked := Try.checked }
namespace Rows
def none {H : Type} : Left H := { results := [], args := [] }

/-- 'zzlaws_root_b1.FnFirstMinimalQuorumIsMinimalAndKeptWithoutOthers': WHATEVER THE INPUT: true; the input reads as it did. -/
def fnFirstMinimalQuorumIsMinimalAndKeptWithoutOthersSpec : ChangeSpec := { name := "fnFirstMinimalQuorumIsMinimalAndKeptWithoutOthers", fn := fun _ => fun
  | [d1, d2, d3, d4] => { results := [.lit (.bool true)], args := [d1, d2, d3, d4] }
  | _ => none }
def fnFirstMinimalQuorumIsMinimalAndKeptWithoutOthersRow : OpenClaim := { program := "qxb6608623a", sum := "51de7c5563edd73ddece6b74309e1a8c19f0f9171895ba74570af7bed129398e", func := "example.com/quorumshift/quorumshift/zzlaws_root_b1.FnFirstMinimalQuorumIsMinimalAndKeptWithoutOthers", spec := "fnFirstMinimalQuorumIsMinimalAndKeptWithoutOthers", unfollowed := true, recurses := true, apart := false }
def FnFirstMinimalQuorumIsMinimalAndKeptWithoutOthersSaid : Prop := fnFirstMinimalQuorumIsMinimalAndKeptWithoutOthersRow.holds Try.pinned (OpenSpec.ofChange fnFirstMinimalQuorumIsMinimalAndKeptWithoutOthersSpec)

/-- ITS FALSE NEIGHBOUR: 'it returns false'. Refute it at one input. -/
def fnFirstMinimalQuorumIsMinimalAndKeptWithoutOthersWrong : ChangeSpec := { name := "fnFirstMinimalQuorumIsMinimalAndKeptWithoutOthers", fn := fun _ => fun
  | [d1, d2, d3, d4] => { results := [.lit (.bool false)], args := [d1, d2, d3, d4] }
  | _ => none }
def FnFirstMinimalQuorumIsMinimalAndKeptWithoutOthersWrongFalsely : Prop := fnFirstMinimalQuorumIsMinimalAndKeptWithoutOthersRow.holds Try.pinned (OpenSpec.ofChange fnFirstMinimalQuorumIsMinimalAndKeptWithoutOthersWrong)

/-- 'zzlaws_root_b1.FnTableWorkAddsARowPerVoterAndAColumnPerWeight': WHATEVER THE INPUT: true; the input reads as it did. -/
def fnTableWorkAddsARowPerVoterAndAColumnPerWeightSpec : ChangeSpec := { name := "fnTableWorkAddsARowPerVoterAndAColumnPerWeight", fn := fun _ => fun
  | [d1, d2] => { results := [.lit (.bool true)], args := [d1, d2] }
  | _ => none }
def fnTableWorkAddsARowPerVoterAndAColumnPerWeightRow : OpenClaim := { program := "qxb6608623a", sum := "51de7c5563edd73ddece6b74309e1a8c19f0f9171895ba74570af7bed129398e", func := "example.com/quorumshift/quorumshift/zzlaws_root_b1.FnTableWorkAddsARowPerVoterAndAColumnPerWeight", spec := "fnTableWorkAddsARowPerVoterAndAColumnPerWeight", apart := false }
def FnTableWorkAddsARowPerVoterAndAColumnPerWeightSaid : Prop := fnTableWorkAddsARowPerVoterAndAColumnPerWeightRow.holds Try.pinned (OpenSpec.ofChange fnTableWorkAddsARowPerVoterAndAColumnPerWeightSpec)

/-- ITS FALSE NEIGHBOUR: 'it returns false'. Refute it at one input. -/
def fnTableWorkAddsARowPerVoterAndAColumnPerWeightWrong : ChangeSpec := { name := "fnTableWorkAddsARowPerVoterAndAColumnPerWeight", fn := fun _ => fun
  | [d1, d2] => { results := [.lit (.bool false)], args := [d1, d2] }
  | _ => none }
def FnTableWorkAddsARowPerVoterAndAColumnPerWeightWrongFalsely : Prop := fnTableWorkAddsARowPerVoterAndAColumnPerWeightRow.holds Try.pinned (OpenSpec.ofChange fnTableWorkAddsARowPerVoterAndAColumnPerWeightWrong)

/-- 'zzlaws_root_b1.FnTableWorkLiesBetweenBoundsAndGrows': WHATEVER THE INPUT: true; the input reads as it did. -/
def fnTableWorkLiesBetweenBoundsAndGrowsSpec : ChangeSpec := { name := "fnTableWorkLiesBetweenBoundsAndGrows", fn := fun _ => fun
  | [d1, d2] => { results := [.lit (.bool true)], args := [d1, d2] }
  | _ => none }
def fnTableWorkLiesBetweenBoundsAndGrowsRow : OpenClaim := { program := "qxb6608623a", sum := "51de7c5563edd73ddece6b74309e1a8c19f0f9171895ba74570af7bed129398e", func := "example.com/quorumshift/quorumshift/zzlaws_root_b1.FnTableWorkLiesBetweenBoundsAndGrows", spec := "fnTableWorkLiesBetweenBoundsAndGrows", apart := false }
def FnTableWorkLiesBetweenBoundsAndGrowsSaid : Prop := fnTableWorkLiesBetweenBoundsAndGrowsRow.holds Try.pinned (OpenSpec.ofChange fnTableWorkLiesBetweenBoundsAndGrowsSpec)

/-- ITS FALSE NEIGHBOUR: 'it returns false'. Refute it at one input. -/
def fnTableWorkLiesBetweenBoundsAndGrowsWrong : ChangeSpec := { name := "fnTableWorkLiesBetweenBoundsAndGrows", fn := fun _ => fun
  | [d1, d2] => { results := [.lit (.bool false)], args := [d1, d2] }
  | _ => none }
def FnTableWorkLiesBetweenBoundsAndGrowsWrongFalsely : Prop := fnTableWorkLiesBetweenBoundsAndGrowsRow.holds Try.pinned (OpenSpec.ofChange fnTableWorkLiesBetweenBoundsAndGrowsWrong)

/-- 'zzlaws_root_b1.FnPartRoundTripsThroughMeta': WHATEVER THE INPUT: true; the input reads as it did. -/
def fnPartRoundTripsThroughMetaSpec : ChangeSpec := { name := "fnPartRoundTripsThroughMeta", fn := fun _ => fun
  | [d1, d2, d3] => { results := [.lit (.bool true)], args := [d1, d2, d3] }
  | _ => none }
def fnPartRoundTripsThroughMetaRow : OpenClaim := { program := "qxb6608623a", sum := "51de7c5563edd73ddece6b74309e1a8c19f0f9171895ba74570af7bed129398e", func := "example.com/quorumshift/quorumshift/zzlaws_root_b1.FnPartRoundTripsThroughMeta", spec := "fnPartRoundTripsThroughMeta", apart := false }
def FnPartRoundTripsThroughMetaSaid : Prop := fnPartRoundTripsThroughMetaRow.holds Try.pinned (OpenSpec.ofChange fnPartRoundTripsThroughMetaSpec)

/-- ITS FALSE NEIGHBOUR: 'it returns false'. Refute it at one input. -/
def fnPartRoundTripsThroughMetaWrong : ChangeSpec := { name := "fnPartRoundTripsThroughMeta", fn := fun _ => fun
  | [d1, d2, d3] => { results := [.lit (.bool false)], args := [d1, d2, d3] }
  | _ => none }
def FnPartRoundTripsThroughMetaWrongFalsely : Prop := fnPartRoundTripsThroughMetaRow.holds Try.pinned (OpenSpec.ofChange fnPartRoundTripsThroughMetaWrong)

end Rows
end Go.Proofs.Qxb6608623a
