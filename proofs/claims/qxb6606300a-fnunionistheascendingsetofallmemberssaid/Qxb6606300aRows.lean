/-
  No cell of these rows narrows 'for every input' (looked for: loops, veiled, ifaces, maps, wideKeys, modest, calm, conditions, laid).
  DERIVED. THE GIVEN ROWS OF THIS SEAT. 4 by the template 'for every input the law returns true; each argument reads behind the call as it read before'; 0 by the template 'total and deterministic' (their statements: Qxb6606300aTotals.lean).
  GIVEN WITH THE SEED: the statements are not yours to turn. If you find one false, say at which input.
  Laid BY PROGRAM, IN A SANDBOX (cutbox-rows.mjs): the forced cells as the released guide's own fill.sh prints them over the translation c5718bc5f667b04a… (all of the seat's roots in one cut). By AI agents, Wed Nov 11 2026. No macro, syntax, notation, axiom, sorry.
-/
import Derived.Test.Qxb6606300aChecked
import GoSem.Claim
import GoSem.ClaimJoined
import GoSem.ClaimMapViews
import Derived.JoinedTies
import Derived.KernelRfl
namespace Go.Proofs.Qxb6606300a
/- THE CELL 'sum', in the pinned program and in every row, IS THE sha256 OF THE DUMP (.gsa) THAT Qxb6606300aProg.lean LOADS. Nothing in Lean hashes anything: it is a label: what it is worth is what the hold of that sum in a sandbox is worth. -/
noncomputable def Try.pinned : Pinned := { name := "qxb6606300a", sum := "c5718bc5f667b04a085384c6e993e43c095a483ee547a330a4bcde03a8772d2c", checked := Try.checked }
namespace Rows
def none {H : Type} : Left H := { results := [], args := [] }

/-- 'zzlaws_internal_selector_b1.FnSubtractIsIdempotentAndDisjoint': WHATEVER THE INPUT: true; the input reads as it did. -/
def fnSubtractIsIdempotentAndDisjointSpec : ChangeSpec := { name := "fnSubtractIsIdempotentAndDisjoint", fn := fun _ => fun
  | [d1, d2] => { results := [.lit (.bool true)], args := [d1, d2] }
  | _ => none }
def fnSubtractIsIdempotentAndDisjointRow : OpenClaim := { program := "qxb6606300a", sum := "c5718bc5f667b04a085384c6e993e43c095a483ee547a330a4bcde03a8772d2c", func := "example.com/chronolith/chronolith/zzlaws_internal_selector_b1.FnSubtractIsIdempotentAndDisjoint", spec := "fnSubtractIsIdempotentAndDisjoint", apart := false }
def FnSubtractIsIdempotentAndDisjointSaid : Prop := fnSubtractIsIdempotentAndDisjointRow.holds Try.pinned (OpenSpec.ofChange fnSubtractIsIdempotentAndDisjointSpec)

/-- ITS FALSE NEIGHBOUR: 'it returns false'. Refute it at one input. -/
def fnSubtractIsIdempotentAndDisjointWrong : ChangeSpec := { name := "fnSubtractIsIdempotentAndDisjoint", fn := fun _ => fun
  | [d1, d2] => { results := [.lit (.bool false)], args := [d1, d2] }
  | _ => none }
def FnSubtractIsIdempotentAndDisjointWrongFalsely : Prop := fnSubtractIsIdempotentAndDisjointRow.holds Try.pinned (OpenSpec.ofChange fnSubtractIsIdempotentAndDisjointWrong)

/-- 'zzlaws_internal_selector_b1.FnUnionIsTheAscendingSetOfAllMembers': WHATEVER THE INPUT: true; the input reads as it did. -/
def fnUnionIsTheAscendingSetOfAllMembersSpec : ChangeSpec := { name := "fnUnionIsTheAscendingSetOfAllMembers", fn := fun _ => fun
  | [d] => { results := [.lit (.bool true)], args := [d] }
  | _ => none }
def fnUnionIsTheAscendingSetOfAllMembersRow : OpenClaim := { program := "qxb6606300a", sum := "c5718bc5f667b04a085384c6e993e43c095a483ee547a330a4bcde03a8772d2c", func := "example.com/chronolith/chronolith/zzlaws_internal_selector_b1.FnUnionIsTheAscendingSetOfAllMembers", spec := "fnUnionIsTheAscendingSetOfAllMembers", recurses := true, apart := false }
def FnUnionIsTheAscendingSetOfAllMembersSaid : Prop := fnUnionIsTheAscendingSetOfAllMembersRow.holds Try.pinned (OpenSpec.ofChange fnUnionIsTheAscendingSetOfAllMembersSpec)

/-- ITS FALSE NEIGHBOUR: 'it returns false'. Refute it at one input. -/
def fnUnionIsTheAscendingSetOfAllMembersWrong : ChangeSpec := { name := "fnUnionIsTheAscendingSetOfAllMembers", fn := fun _ => fun
  | [d] => { results := [.lit (.bool false)], args := [d] }
  | _ => none }
def FnUnionIsTheAscendingSetOfAllMembersWrongFalsely : Prop := fnUnionIsTheAscendingSetOfAllMembersRow.holds Try.pinned (OpenSpec.ofChange fnUnionIsTheAscendingSetOfAllMembersWrong)

/-- 'zzlaws_internal_selector_b1.FnUnionOfTwoAgreesWithIntersectAndSubtract': WHATEVER THE INPUT: true; the input reads as it did. -/
def fnUnionOfTwoAgreesWithIntersectAndSubtractSpec : ChangeSpec := { name := "fnUnionOfTwoAgreesWithIntersectAndSubtract", fn := fun _ => fun
  | [d1, d2] => { results := [.lit (.bool true)], args := [d1, d2] }
  | _ => none }
def fnUnionOfTwoAgreesWithIntersectAndSubtractRow : OpenClaim := { program := "qxb6606300a", sum := "c5718bc5f667b04a085384c6e993e43c095a483ee547a330a4bcde03a8772d2c", func := "example.com/chronolith/chronolith/zzlaws_internal_selector_b1.FnUnionOfTwoAgreesWithIntersectAndSubtract", spec := "fnUnionOfTwoAgreesWithIntersectAndSubtract", recurses := true, apart := false }
def FnUnionOfTwoAgreesWithIntersectAndSubtractSaid : Prop := fnUnionOfTwoAgreesWithIntersectAndSubtractRow.holds Try.pinned (OpenSpec.ofChange fnUnionOfTwoAgreesWithIntersectAndSubtractSpec)

/-- ITS FALSE NEIGHBOUR: 'it returns false'. Refute it at one input. -/
def fnUnionOfTwoAgreesWithIntersectAndSubtractWrong : ChangeSpec := { name := "fnUnionOfTwoAgreesWithIntersectAndSubtract", fn := fun _ => fun
  | [d1, d2] => { results := [.lit (.bool false)], args := [d1, d2] }
  | _ => none }
def FnUnionOfTwoAgreesWithIntersectAndSubtractWrongFalsely : Prop := fnUnionOfTwoAgreesWithIntersectAndSubtractRow.holds Try.pinned (OpenSpec.ofChange fnUnionOfTwoAgreesWithIntersectAndSubtractWrong)

/-- 'zzlaws_internal_selector_b1.FnUnionGivesAListOfItsOwn': WHATEVER THE INPUT: true; the input reads as it did. -/
def fnUnionGivesAListOfItsOwnSpec : ChangeSpec := { name := "fnUnionGivesAListOfItsOwn", fn := fun _ => fun
  | [d] => { results := [.lit (.bool true)], args := [d] }
  | _ => none }
def fnUnionGivesAListOfItsOwnRow : OpenClaim := { program := "qxb6606300a", sum := "c5718bc5f667b04a085384c6e993e43c095a483ee547a330a4bcde03a8772d2c", func := "example.com/chronolith/chronolith/zzlaws_internal_selector_b1.FnUnionGivesAListOfItsOwn", spec := "fnUnionGivesAListOfItsOwn", recurses := true, apart := false }
def FnUnionGivesAListOfItsOwnSaid : Prop := fnUnionGivesAListOfItsOwnRow.holds Try.pinned (OpenSpec.ofChange fnUnionGivesAListOfItsOwnSpec)

/-- ITS FALSE NEIGHBOUR: 'it returns false'. Refute it at one input. -/
def fnUnionGivesAListOfItsOwnWrong : ChangeSpec := { name := "fnUnionGivesAListOfItsOwn", fn := fun _ => fun
  | [d] => { results := [.lit (.bool false)], args := [d] }
  | _ => none }
def FnUnionGivesAListOfItsOwnWrongFalsely : Prop := fnUnionGivesAListOfItsOwnRow.holds Try.pinned (OpenSpec.ofChange fnUnionGivesAListOfItsOwnWrong)

end Rows
end Go.Proofs.Qxb6606300a
