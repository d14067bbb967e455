/-
  No cell of these rows narrows 'for every input' (looked for: loops, veiled, ifaces, maps, wideKeys, modest, calm, conditions, laid).
  DERIVED. THE GIVEN ROWS OF THIS SEAT. 3 by the template 'for every input the law returns true; each argument reads behind the call as it read before'; 0 by the template 'total and deterministic' (their statements: Qxb6606438aTotals.lean).
  GIVEN WITH THE SEED: the statements are not yours to turn. If you find one false, say at which input.
  Laid BY PROGRAM, IN A SANDBOX (cutbox-rows.mjs): the forced cells as the released guide's own fill.sh prints them over the translation 94aa2d1075483113… (all of the seat's roots in one cut). By AI agents, Wed Nov 11 2026. No macro, syntax, notation, axiom, sorry.
-/
import Derived.Test.Qxb6606438aChecked
import GoSem.Claim
import GoSem.ClaimJoined
import GoSem.ClaimMapViews
import Derived.JoinedTies
import Derived.KernelRfl
namespace Go.Proofs.Qxb6606438a
/- THE CELL 'sum', in the pinned program and in every row, IS THE sha256 OF THE DUMP (.gsa) THAT Qxb6606438aProg.lean LOADS. Nothing in Lean hashes anything: it is a label: what it is worth is what the hold of that sum in a sandbox is worth. -/
noncomputable def Try.pinned : Pinned := { name := "qxb6606438a", sum := "94aa2d1075483113145b796ab41c0024f65b52b2930f1174563a790f5fb2c36f", checked := Try.checked }
namespace Rows
def none {H : Type} : Left H := { results := [], args := [] }

/-- 'zzlaws_dump_text_b1.FnKeyEndMatchesModel': WHATEVER THE INPUT: true; the input reads as it did. -/
def fnKeyEndMatchesModelSpec : ChangeSpec := { name := "fnKeyEndMatchesModel", fn := fun _ => fun
  | [d] => { results := [.lit (.bool true)], args := [d] }
  | _ => none }
def fnKeyEndMatchesModelRow : OpenClaim := { program := "qxb6606438a", sum := "94aa2d1075483113145b796ab41c0024f65b52b2930f1174563a790f5fb2c36f", func := "example.com/berthwright/berthwright/zzlaws_dump_text_b1.FnKeyEndMatchesModel", spec := "fnKeyEndMatchesModel", apart := false }
def FnKeyEndMatchesModelSaid : Prop := fnKeyEndMatchesModelRow.holds Try.pinned (OpenSpec.ofChange fnKeyEndMatchesModelSpec)

/-- ITS FALSE NEIGHBOUR: 'it returns false'. Refute it at one input. -/
def fnKeyEndMatchesModelWrong : ChangeSpec := { name := "fnKeyEndMatchesModel", fn := fun _ => fun
  | [d] => { results := [.lit (.bool false)], args := [d] }
  | _ => none }
def FnKeyEndMatchesModelWrongFalsely : Prop := fnKeyEndMatchesModelRow.holds Try.pinned (OpenSpec.ofChange fnKeyEndMatchesModelWrong)

/-- 'zzlaws_dump_text_b1.FnKeyEndReadsOnlyThroughTheColon': WHATEVER THE INPUT: true; the input reads as it did. -/
def fnKeyEndReadsOnlyThroughTheColonSpec : ChangeSpec := { name := "fnKeyEndReadsOnlyThroughTheColon", fn := fun _ => fun
  | [d1, d2] => { results := [.lit (.bool true)], args := [d1, d2] }
  | _ => none }
def fnKeyEndReadsOnlyThroughTheColonRow : OpenClaim := { program := "qxb6606438a", sum := "94aa2d1075483113145b796ab41c0024f65b52b2930f1174563a790f5fb2c36f", func := "example.com/berthwright/berthwright/zzlaws_dump_text_b1.FnKeyEndReadsOnlyThroughTheColon", spec := "fnKeyEndReadsOnlyThroughTheColon", apart := false }
def FnKeyEndReadsOnlyThroughTheColonSaid : Prop := fnKeyEndReadsOnlyThroughTheColonRow.holds Try.pinned (OpenSpec.ofChange fnKeyEndReadsOnlyThroughTheColonSpec)

/-- ITS FALSE NEIGHBOUR: 'it returns false'. Refute it at one input. -/
def fnKeyEndReadsOnlyThroughTheColonWrong : ChangeSpec := { name := "fnKeyEndReadsOnlyThroughTheColon", fn := fun _ => fun
  | [d1, d2] => { results := [.lit (.bool false)], args := [d1, d2] }
  | _ => none }
def FnKeyEndReadsOnlyThroughTheColonWrongFalsely : Prop := fnKeyEndReadsOnlyThroughTheColonRow.holds Try.pinned (OpenSpec.ofChange fnKeyEndReadsOnlyThroughTheColonWrong)

/-- 'zzlaws_dump_text_b1.FnKeyEndFindsAWrittenKey': WHATEVER THE INPUT: true; the input reads as it did. -/
def fnKeyEndFindsAWrittenKeySpec : ChangeSpec := { name := "fnKeyEndFindsAWrittenKey", fn := fun _ => fun
  | [d1, d2, d3, d4] => { results := [.lit (.bool true)], args := [d1, d2, d3, d4] }
  | _ => none }
def fnKeyEndFindsAWrittenKeyRow : OpenClaim := { program := "qxb6606438a", sum := "94aa2d1075483113145b796ab41c0024f65b52b2930f1174563a790f5fb2c36f", func := "example.com/berthwright/berthwright/zzlaws_dump_text_b1.FnKeyEndFindsAWrittenKey", spec := "fnKeyEndFindsAWrittenKey", apart := false }
def FnKeyEndFindsAWrittenKeySaid : Prop := fnKeyEndFindsAWrittenKeyRow.holds Try.pinned (OpenSpec.ofChange fnKeyEndFindsAWrittenKeySpec)

/-- ITS FALSE NEIGHBOUR: 'it returns false'. Refute it at one input. -/
def fnKeyEndFindsAWrittenKeyWrong : ChangeSpec := { name := "fnKeyEndFindsAWrittenKey", fn := fun _ => fun
  | [d1, d2, d3, d4] => { results := [.lit (.bool false)], args := [d1, d2, d3, d4] }
  | _ => none }
def FnKeyEndFindsAWrittenKeyWrongFalsely : Prop := fnKeyEndFindsAWrittenKeyRow.holds Try.pinned (OpenSpec.ofChange fnKeyEndFindsAWrittenKeyWrong)

end Rows
end Go.Proofs.Qxb6606438a
