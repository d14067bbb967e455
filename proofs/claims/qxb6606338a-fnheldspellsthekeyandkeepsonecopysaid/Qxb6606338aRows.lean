/-
  No cell of these rows narrows 'for every input' (looked for: loops, veiled, ifaces, maps, wideKeys, modest, calm, conditions, laid).
  DERIVED. THE GIVEN ROWS OF THIS SEAT. 3 by the template 'for every input the law returns true; each argument reads behind the call as it read before'; 0 by the template 'total and deterministic' (their statements: Qxb6606338aTotals.lean).
  GIVEN WITH THE SEED: the statements are not yours to turn. If you find one false, say at which input.
  Laid BY PROGRAM, IN A SANDBOX (cutbox-rows.mjs): the forced cells as the released guide's own fill.sh prints them over the translation e59e7ce8cdd9620a… (all of the seat's roots in one cut). By AI agents, Wed Nov 11 2026. No macro, syntax, notation, axiom, sorry.
-/
import Derived.Test.Qxb6606338aChecked
import GoSem.Claim
import GoSem.ClaimJoined
import GoSem.ClaimMapViews
import Derived.JoinedTies
import Derived.KernelRfl
namespace Go.Proofs.Qxb6606338a
/- THE CELL 'sum', in the pinned program and in every row, IS THE sha256 OF THE DUMP (.gsa) THAT Qxb6606338aProg.lean LOADS. Nothing in Lean hashes anything: it is a label: what it is worth is what the hold of that sum in a sandbox is worth. -/
noncomputable def Try.pinned : Pinned := { name := "qxb6606338a", sum := "e59e7ce8cdd9620a8f168810ee4f200d4fc439fab4091d067dfc6279fd906451", checked := Try.checked }
namespace Rows
def none {H : Type} : Left H := { results := [], args := [] }

/-- 'zzlaws_dump_text_b1.FnHeldSpellsTheKeyAndKeepsOneCopy': WHATEVER THE INPUT: true; the input reads as it did. -/
def fnHeldSpellsTheKeyAndKeepsOneCopySpec : ChangeSpec := { name := "fnHeldSpellsTheKeyAndKeepsOneCopy", fn := fun _ => fun
  | [d1, d2, d3, d4] => { results := [.lit (.bool true)], args := [d1, d2, d3, d4] }
  | _ => none }
def fnHeldSpellsTheKeyAndKeepsOneCopyRow : OpenClaim := { program := "qxb6606338a", sum := "e59e7ce8cdd9620a8f168810ee4f200d4fc439fab4091d067dfc6279fd906451", func := "example.com/berthwright/berthwright/zzlaws_dump_text_b1.FnHeldSpellsTheKeyAndKeepsOneCopy", spec := "fnHeldSpellsTheKeyAndKeepsOneCopy", apart := false }
def FnHeldSpellsTheKeyAndKeepsOneCopySaid : Prop := fnHeldSpellsTheKeyAndKeepsOneCopyRow.holds Try.pinned (OpenSpec.ofChange fnHeldSpellsTheKeyAndKeepsOneCopySpec)

/-- ITS FALSE NEIGHBOUR: 'it returns false'. Refute it at one input. -/
def fnHeldSpellsTheKeyAndKeepsOneCopyWrong : ChangeSpec := { name := "fnHeldSpellsTheKeyAndKeepsOneCopy", fn := fun _ => fun
  | [d1, d2, d3, d4] => { results := [.lit (.bool false)], args := [d1, d2, d3, d4] }
  | _ => none }
def FnHeldSpellsTheKeyAndKeepsOneCopyWrongFalsely : Prop := fnHeldSpellsTheKeyAndKeepsOneCopyRow.holds Try.pinned (OpenSpec.ofChange fnHeldSpellsTheKeyAndKeepsOneCopyWrong)

/-- 'zzlaws_dump_text_b1.FnHeldTwiceIsOnce': WHATEVER THE INPUT: true; the input reads as it did. -/
def fnHeldTwiceIsOnceSpec : ChangeSpec := { name := "fnHeldTwiceIsOnce", fn := fun _ => fun
  | [d1, d2, d3, d4] => { results := [.lit (.bool true)], args := [d1, d2, d3, d4] }
  | _ => none }
def fnHeldTwiceIsOnceRow : OpenClaim := { program := "qxb6606338a", sum := "e59e7ce8cdd9620a8f168810ee4f200d4fc439fab4091d067dfc6279fd906451", func := "example.com/berthwright/berthwright/zzlaws_dump_text_b1.FnHeldTwiceIsOnce", spec := "fnHeldTwiceIsOnce", apart := false }
def FnHeldTwiceIsOnceSaid : Prop := fnHeldTwiceIsOnceRow.holds Try.pinned (OpenSpec.ofChange fnHeldTwiceIsOnceSpec)

/-- ITS FALSE NEIGHBOUR: 'it returns false'. Refute it at one input. -/
def fnHeldTwiceIsOnceWrong : ChangeSpec := { name := "fnHeldTwiceIsOnce", fn := fun _ => fun
  | [d1, d2, d3, d4] => { results := [.lit (.bool false)], args := [d1, d2, d3, d4] }
  | _ => none }
def FnHeldTwiceIsOnceWrongFalsely : Prop := fnHeldTwiceIsOnceRow.holds Try.pinned (OpenSpec.ofChange fnHeldTwiceIsOnceWrong)

/-- 'zzlaws_dump_text_b1.FnHeldFreshScriptHoldsTheFirstKeys': WHATEVER THE INPUT: true; the input reads as it did. -/
def fnHeldFreshScriptHoldsTheFirstKeysSpec : ChangeSpec := { name := "fnHeldFreshScriptHoldsTheFirstKeys", fn := fun _ => fun
  | [d] => { results := [.lit (.bool true)], args := [d] }
  | _ => none }
def fnHeldFreshScriptHoldsTheFirstKeysRow : OpenClaim := { program := "qxb6606338a", sum := "e59e7ce8cdd9620a8f168810ee4f200d4fc439fab4091d067dfc6279fd906451", func := "example.com/berthwright/berthwright/zzlaws_dump_text_b1.FnHeldFreshScriptHoldsTheFirstKeys", spec := "fnHeldFreshScriptHoldsTheFirstKeys", apart := false }
def FnHeldFreshScriptHoldsTheFirstKeysSaid : Prop := fnHeldFreshScriptHoldsTheFirstKeysRow.holds Try.pinned (OpenSpec.ofChange fnHeldFreshScriptHoldsTheFirstKeysSpec)

/-- ITS FALSE NEIGHBOUR: 'it returns false'. Refute it at one input. -/
def fnHeldFreshScriptHoldsTheFirstKeysWrong : ChangeSpec := { name := "fnHeldFreshScriptHoldsTheFirstKeys", fn := fun _ => fun
  | [d] => { results := [.lit (.bool false)], args := [d] }
  | _ => none }
def FnHeldFreshScriptHoldsTheFirstKeysWrongFalsely : Prop := fnHeldFreshScriptHoldsTheFirstKeysRow.holds Try.pinned (OpenSpec.ofChange fnHeldFreshScriptHoldsTheFirstKeysWrong)

end Rows
end Go.Proofs.Qxb6606338a
