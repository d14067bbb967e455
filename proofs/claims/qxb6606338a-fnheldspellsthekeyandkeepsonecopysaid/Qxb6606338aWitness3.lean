/- A start that fits the row of FnHeldSpellsTheKeyAndKeepsOneCopy: nil, false, 1024 empty strings, nil. By hand, not by the kernel's reckoning: the array is long. -/
import Derived.Test.Qxb6606338aRows
import Derived.WalkKit
import Derived.ProofKit
import Derived.OpenShut
import Derived.ShutString
import Derived.ChangeOld
namespace Go.Proofs.Qxb6606338a.fnHeldSpellsTheKeyAndKeepsOneCopy
open Go.ChangeShapes Go.WideShapes Go.ChangeAt Go.RowKit

def zeros : Array Value := (List.replicate 1024 (Value.string ByteArray.empty)).toArray
def wargs : Array Value := #[.slice none 0 0, .bool false, .agg zeros, .slice none 0 0]

theorem zeros_size : zeros.size = 1024 := by unfold zeros; rw [List.size_toArray, List.length_replicate]
theorem cells23 : Try.prog.cellsOf 23 = 1024 := by kernel_rfl
theorem cells9 : Try.prog.cellsOf 9 = 1 := by kernel_rfl
theorem types23 : Try.prog.cellTypes Try.prog.depth 23 = some (List.replicate 1024 9) := by kernel_rfl

theorem mapM_const {α β : Type} {f : α → Option β} {c : β} : ∀ (l : List α), (∀ i ∈ l, f i = some c) → l.mapM f = some (List.replicate l.length c)
  | [], _ => by simp
  | x :: l, h => by
    rw [List.mapM_cons, h x List.mem_cons_self, mapM_const l fun i hi => h i (List.mem_cons_of_mem _ hi)]
    rfl

theorem flatMap_nil {α β : Type} (n : Nat) (c : α) (g : α → List β) (h : g c = []) : (List.replicate n c).flatMap g = [] := by
  rw [List.flatMap_eq_nil_iff]
  intro x hx
  rw [List.eq_of_mem_replicate hx]; exact h

section
variable {H : Type} {enc : TypeId × Value → H} {W : World}

theorem trod_one : DataW.trod enc Try.prog W 0 (fun _ => true) true 1 9 [.string ByteArray.empty] = some (.lit (.string []), []) := by
  simp [DataW.trod, Try.underlying9, maxLen]

theorem trod_zeros : DataW.Trod enc Try.prog W 0 (fun _ => true) true 23 (.agg zeros) (.agg (List.replicate 1024 (.lit (.string [])))) [] := by
  refine ⟨2, ?_⟩
  have hcs : (Value.agg zeros).cells.toList = List.replicate 1024 (Value.string ByteArray.empty) := rfl
  rw [hcs]
  obtain ⟨n, hn⟩ : ∃ n, n = 1024 := ⟨_, rfl⟩
  have hu := Try.underlying23
  have h23 := cells23
  rw [← hn] at hu h23 ⊢
  unfold DataW.trod
  simp only [hu, h23, cells9, List.length_replicate, if_true]
  rw [mapM_const (c := (.lit (.string []), [])) (List.range n) fun i hi => ?_]
  · simp only [List.length_range, Option.map_some, List.map_replicate]
    rw [flatMap_nil _ _ _ rfl]
  · have hi' := List.mem_range.1 hi
    have e : ((List.replicate n (Value.string ByteArray.empty)).drop (i * 1)).take 1 = [Value.string ByteArray.empty] := by
      rw [List.drop_replicate, List.take_replicate, show min 1 (n - i * 1) = 1 by omega]
      rfl
    rw [e]
    exact trod_one

theorem weights_zeros (n : Nat) : (DataW.weightsAll (H := H) Try.prog 9 (List.replicate n (.lit (.string [])))).all (· ≤ reachBytes) = true := by
  induction n with
  | zero => rfl
  | succ n ih =>
    rw [List.replicate_succ]
    unfold DataW.weightsAll
    rw [List.all_append, ih]
    simp [DataW.weights]

theorem whole_zeros : DataW.Whole enc Try.prog Try.f3.params.toList Rows.fnHeldSpellsTheKeyAndKeepsOneCopySpec.vars false W wargs.toList [.nil, .lit (.bool false), .agg (List.replicate 1024 (.lit (.string []))), .nil] [] [] := by
  rw [Try.params3]
  refine ⟨[], [], ?_, rfl, rfl, ?_, fun h => by cases h⟩
  · exact trodAll_cons_mk (p := []) (shut_slice_nil Try.underlying22) (trodAll_cons_mk (p := []) (shut_bool Try.underlying4 _) (trodAll_cons_mk (p := []) trod_zeros (trodAll_cons_mk (p := []) (shut_slice_nil Try.underlying24) trodAll_mk0)))
  · intro b o hx; cases hx
end

theorem ok_zeros (W : World) (base : Nat) : Input.okWide Try.prog W .any base 3 ⟨#[], wargs, []⟩ := by
  refine ⟨by simp, by simp, by kernel_rfl, Try.f3, Try.func3, by kernel_rfl, by kernel_rfl, by kernel_rfl, by rw [Try.params3]; rfl, fun j t v hj hv => ?_⟩
  rw [Try.params3] at hj
  match j, hj, hv with
  | 0, hj, hv =>
    obtain rfl : t = 22 := by simpa using hj.symm
    obtain rfl : v = .slice none 0 0 := by simpa [wargs] using hv.symm
    unfold Value.okWide; rw [Try.underlying22]
    exact Cell.okWide_of_okWideB (by kernel_rfl)
  | 1, hj, hv =>
    obtain rfl : t = 4 := by simpa using hj.symm
    obtain rfl : v = .bool false := by simpa [wargs] using hv.symm
    unfold Value.okWide; rw [Try.underlying4]
    exact Cell.okWide_of_okWideB (by kernel_rfl)
  | 2, hj, hv =>
    obtain rfl : t = 23 := by simpa using hj.symm
    obtain rfl : v = .agg zeros := by simpa [wargs] using hv.symm
    unfold Value.okWide; rw [Try.underlying23]
    refine ⟨zeros, rfl, by rw [cells23, zeros_size], List.replicate 1024 9, types23, ⟨1, by rw [zeros_size, List.length_replicate]⟩, fun i v hv => ?_⟩
    have hi : i < 1024 := by have := (Array.getElem?_eq_some_iff.1 hv).1; rw [zeros_size] at this; exact this
    have hv' : v = Value.string ByteArray.empty := by
      have hm := Array.mem_of_getElem? hv
      unfold zeros at hm
      rw [List.mem_toArray] at hm
      exact List.eq_of_mem_replicate hm
    subst hv'
    refine ⟨9, ?_, Cell.okWide_of_okWideB (by kernel_rfl)⟩
    rw [List.length_replicate, Nat.mod_eq_of_lt hi, List.getElem?_replicate, if_pos hi]
  | 3, hj, hv =>
    obtain rfl : t = 24 := by simpa using hj.symm
    obtain rfl : v = .slice none 0 0 := by simpa [wargs] using hv.symm
    unfold Value.okWide; rw [Try.underlying24]
    exact Cell.okWide_of_okWideB (by kernel_rfl)
  | j + 4, hj, _ => simp at hj

theorem hv (os : Os) : (World.plainHolding Try.checked.prog os ⟨#[], wargs, []⟩).variablesB Try.checked.prog = true := by kernel_rfl
theorem hr (os : Os) : ((World.plainHolding Try.checked.prog os ⟨#[], wargs, []⟩).heap.toList.drop Try.checked.prog.globals.size).take ((begin Try.checked.prog (fun _ _ => 0) default).world.heap.size - Try.checked.prog.globals.size) =
      (begin Try.checked.prog (fun _ _ => 0) default).world.heap.toList.drop Try.checked.prog.globals.size := by kernel_rfl

theorem weights_all {H : Type} : (DataW.weightsEach (H := H) Try.prog [22, 4, 23, 24] [.nil, .lit (.bool false), .agg (List.replicate 1024 (.lit (.string []))), .nil]).all (· ≤ reachBytes) = true := by
  have h := weights_zeros (H := H) 1024
  obtain ⟨n, hn⟩ : ∃ n, n = 1024 := ⟨_, rfl⟩
  rw [← hn] at h ⊢
  simp only [DataW.weightsEach, DataW.weights, Try.underlying23, List.nil_append, List.append_nil]
  exact h

theorem witness (os : Os) {H : Type} (enc : TypeId × Value → H) : ∃ (w : World) (tape : Tape) (i : Input), w.os = os ∧ (w.forCall tape i).Shaped Try.checked.prog ∧ i.vars = [] ∧ Input.okWide Try.checked.prog (w.forCall tape i) .any w.heap.size 3 i ∧
    Rows.fnHeldSpellsTheKeyAndKeepsOneCopySpec.pre6 enc Try.checked.prog Try.f3 Rows.fnHeldSpellsTheKeyAndKeepsOneCopyRow.domain false (w.forCall tape i).memory i.args ∧ ({ modest := false } : Assume).holds Try.checked.prog (lone (Frame.enter Try.checked.prog 3 i.args .normal) [] (w.forCall tape i)) := by
  refine ⟨World.holding Try.checked.prog os ⟨#[], wargs, []⟩, fun _ _ => 0, ⟨#[], wargs, []⟩, rfl, World.shaped_of_B (hv os) (hr os), rfl, ok_zeros _ _, ⟨⟨_, _, _, whole_zeros, rfl⟩, by kernel_rfl, _, _, _, whole_zeros, ?_⟩, ?_⟩
  · exact weights_all
  · simp only [Assume.holds]
    exact ⟨by simp, by simp, fun _ => Modest.zero, by simp, by simp⟩

end Go.Proofs.Qxb6606338a.fnHeldSpellsTheKeyAndKeepsOneCopy
