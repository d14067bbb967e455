/-
  No cell of these rows narrows 'for every input' (looked for: loops, veiled, ifaces, maps, wideKeys, modest, calm, conditions, laid).
  DERIVED. THE GIVEN ROWS OF THIS SEAT. 4 by the template 'for every input the law returns true; each argument reads behind the call as it read before'; 0 by the template 'total and deterministic' (their statements: Qxb6003669aTotals.lean).
  GIVEN WITH THE SEED: the statements are not yours to turn. If you find one false, say at which input.
  Laid BY PROGRAM, IN A SANDBOX (cutbox-rows.mjs): the forced cells as the released guide's own fill.sh prints them over the translation 63d2764aaad67844… (all of the seat's roots in one cut). By AI agents, Wed Nov 11 2026. No macro, syntax, notation, axiom, sorry.
-/
import Derived.Test.Qxb6003669aChecked
import GoSem.Claim
import GoSem.ClaimJoined
import GoSem.ClaimMapViews
import Derived.JoinedTies
import Derived.KernelRfl
namespace Go.Proofs.Qxb6003669a
/- THE CELL 'sum', in the pinned program and in every row, IS THE sha256 OF THE DUMP (.gsa) THAT Qxb6003669aProg.lean LOADS. Nothing in Lean hashes anything: it is a label: what it is worth is what the hold of that sum in a sandbox is worth. -/
noncomputable def Try.pinned : Pinned := { name := "qxb6003669a", sum := "63d2764aaad67844bf20dd856935a86e6fe7b1959fb81104271e1e74c5678660", checked := Try.checked }
namespace Rows
def none {H : Type} : Left H := { results := [], args := [] }

/-- 'zzlaws_internal_locktable_g1.FnLeadsCoverThroughNearestExclusive': WHATEVER THE INPUT: true; the input reads as it did. -/
def fnLeadsCoverThroughNearestExclusiveSpec : ChangeSpec := { name := "fnLeadsCoverThroughNearestExclusive", fn := fun _ => fun
  | [d1, d2, d3, d4, d5] => { results := [.lit (.bool true)], args := [d1, d2, d3, d4, d5] }
  | _ => none }
def fnLeadsCoverThroughNearestExclusiveRow : OpenClaim := { program := "qxb6003669a", sum := "63d2764aaad67844bf20dd856935a86e6fe7b1959fb81104271e1e74c5678660", func := "example.com/knotwise/knotwise/zzlaws_internal_locktable_g1.FnLeadsCoverThroughNearestExclusive", spec := "fnLeadsCoverThroughNearestExclusive", recurses := true, apart := false }
def FnLeadsCoverThroughNearestExclusiveSaid : Prop := fnLeadsCoverThroughNearestExclusiveRow.holds Try.pinned (OpenSpec.ofChange fnLeadsCoverThroughNearestExclusiveSpec)

/-- ITS FALSE NEIGHBOUR: 'it returns false'. Refute it at one input. -/
def fnLeadsCoverThroughNearestExclusiveWrong : ChangeSpec := { name := "fnLeadsCoverThroughNearestExclusive", fn := fun _ => fun
  | [d1, d2, d3, d4, d5] => { results := [.lit (.bool false)], args := [d1, d2, d3, d4, d5] }
  | _ => none }
def FnLeadsCoverThroughNearestExclusiveWrongFalsely : Prop := fnLeadsCoverThroughNearestExclusiveRow.holds Try.pinned (OpenSpec.ofChange fnLeadsCoverThroughNearestExclusiveWrong)

/-- 'zzlaws_internal_locktable_g1.FnLeadsAtWithinBlockers': WHATEVER THE INPUT: true; the input reads as it did. -/
def fnLeadsAtWithinBlockersSpec : ChangeSpec := { name := "fnLeadsAtWithinBlockers", fn := fun _ => fun
  | [d1, d2, d3, d4, d5, d6] => { results := [.lit (.bool true)], args := [d1, d2, d3, d4, d5, d6] }
  | _ => none }
def fnLeadsAtWithinBlockersRow : OpenClaim := { program := "qxb6003669a", sum := "63d2764aaad67844bf20dd856935a86e6fe7b1959fb81104271e1e74c5678660", func := "example.com/knotwise/knotwise/zzlaws_internal_locktable_g1.FnLeadsAtWithinBlockers", spec := "fnLeadsAtWithinBlockers", recurses := true, apart := false }
def FnLeadsAtWithinBlockersSaid : Prop := fnLeadsAtWithinBlockersRow.holds Try.pinned (OpenSpec.ofChange fnLeadsAtWithinBlockersSpec)

/-- ITS FALSE NEIGHBOUR: 'it returns false'. Refute it at one input. -/
def fnLeadsAtWithinBlockersWrong : ChangeSpec := { name := "fnLeadsAtWithinBlockers", fn := fun _ => fun
  | [d1, d2, d3, d4, d5, d6] => { results := [.lit (.bool false)], args := [d1, d2, d3, d4, d5, d6] }
  | _ => none }
def FnLeadsAtWithinBlockersWrongFalsely : Prop := fnLeadsAtWithinBlockersRow.holds Try.pinned (OpenSpec.ofChange fnLeadsAtWithinBlockersWrong)

/-- 'zzlaws_internal_locktable_g1.FnExclusiveWaitsForMore': WHATEVER THE INPUT: true; the input reads as it did. -/
def fnExclusiveWaitsForMoreSpec : ChangeSpec := { name := "fnExclusiveWaitsForMore", fn := fun _ => fun
  | [d1, d2, d3, d4, d5] => { results := [.lit (.bool true)], args := [d1, d2, d3, d4, d5] }
  | _ => none }
def fnExclusiveWaitsForMoreRow : OpenClaim := { program := "qxb6003669a", sum := "63d2764aaad67844bf20dd856935a86e6fe7b1959fb81104271e1e74c5678660", func := "example.com/knotwise/knotwise/zzlaws_internal_locktable_g1.FnExclusiveWaitsForMore", spec := "fnExclusiveWaitsForMore", recurses := true, apart := false }
def FnExclusiveWaitsForMoreSaid : Prop := fnExclusiveWaitsForMoreRow.holds Try.pinned (OpenSpec.ofChange fnExclusiveWaitsForMoreSpec)

/-- ITS FALSE NEIGHBOUR: 'it returns false'. Refute it at one input. -/
def fnExclusiveWaitsForMoreWrong : ChangeSpec := { name := "fnExclusiveWaitsForMore", fn := fun _ => fun
  | [d1, d2, d3, d4, d5] => { results := [.lit (.bool false)], args := [d1, d2, d3, d4, d5] }
  | _ => none }
def FnExclusiveWaitsForMoreWrongFalsely : Prop := fnExclusiveWaitsForMoreRow.holds Try.pinned (OpenSpec.ofChange fnExclusiveWaitsForMoreWrong)

/-- 'zzlaws_internal_locktable_g1.FnWaitsIgnoreQueueBehind': WHATEVER THE INPUT: true; the input reads as it did. -/
def fnWaitsIgnoreQueueBehindSpec : ChangeSpec := { name := "fnWaitsIgnoreQueueBehind", fn := fun _ => fun
  | [d1, d2, d3, d4, d5] => { results := [.lit (.bool true)], args := [d1, d2, d3, d4, d5] }
  | _ => none }
def fnWaitsIgnoreQueueBehindRow : OpenClaim := { program := "qxb6003669a", sum := "63d2764aaad67844bf20dd856935a86e6fe7b1959fb81104271e1e74c5678660", func := "example.com/knotwise/knotwise/zzlaws_internal_locktable_g1.FnWaitsIgnoreQueueBehind", spec := "fnWaitsIgnoreQueueBehind", recurses := true, apart := false }
def FnWaitsIgnoreQueueBehindSaid : Prop := fnWaitsIgnoreQueueBehindRow.holds Try.pinned (OpenSpec.ofChange fnWaitsIgnoreQueueBehindSpec)

/-- ITS FALSE NEIGHBOUR: 'it returns false'. Refute it at one input. -/
def fnWaitsIgnoreQueueBehindWrong : ChangeSpec := { name := "fnWaitsIgnoreQueueBehind", fn := fun _ => fun
  | [d1, d2, d3, d4, d5] => { results := [.lit (.bool false)], args := [d1, d2, d3, d4, d5] }
  | _ => none }
def FnWaitsIgnoreQueueBehindWrongFalsely : Prop := fnWaitsIgnoreQueueBehindRow.holds Try.pinned (OpenSpec.ofChange fnWaitsIgnoreQueueBehindWrong)

end Rows
end Go.Proofs.Qxb6003669a
