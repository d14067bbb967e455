/- 'Rows.FnHeldSpellsTheKeyAndKeepsOneCopySaid', proved: the frame after the kit's shell for a law, at a slice of strings, a bool, an array of strings and a slice of bytes; the walk is law3 (Qxb6606338aLaw3). -/
import Derived.Test.Qxb6606338aRows
import Derived.Test.Qxb6606338aLaw3
import Derived.Test.Qxb6606338aWitness3
import Derived.WalkKit
import Derived.ProofKit
import Derived.OpenShut
import Derived.ShutString
import Derived.ChangeOld
import Derived.Below
import Derived.SliceStrings
namespace Go.Proofs.Qxb6606338a.fnHeldSpellsTheKeyAndKeepsOneCopy
open Go.ChangeShapes Go.WideShapes Go.ChangeAt Go.RowKit
set_option linter.unusedVariables false

theorem own : ownKnob Try.prog.godebug = none := by kernel_rfl
theorem laidOut : laidOutB Try.prog = true := by kernel_rfl

theorem row_of {w : World} {x : Addr} {len cap : Nat} {zs : List Int} (hl : len ≤ cap) (hz : zs.length = cap) (hc : ∀ c, c < zs.length → w.cell? (x.add c) = some (.int .u8 (zs.getD c 0))) :
    Row w (some x) len cap (zs.take len) := by
  refine ⟨by simp; omega, hl, (fun e => by cases e), fun hp => ?_⟩
  obtain ⟨b, o, spot⟩ := x
  have hs : spot = none := by simpa [Addr.add] using World.cell?_spot (hc 0 (by omega))
  subst hs
  refine ⟨b, o, rfl, ?_, fun t ht => ?_⟩
  · have := World.block_lt_of_cell? w _ (hc 0 (by omega)); simpa [Addr.add] using this
  · have := hc t (by omega)
    rw [Addr.add_lit] at this
    rw [this]
    simp [List.getD, ht]

theorem srow_of {w : World} {x : Addr} {len cap : Nat} {zs : List ByteArray} (hl : len ≤ cap) (hz : zs.length = cap) (hc : ∀ c, c < zs.length → w.cell? (x.add c) = some (.string (zs.getD c ByteArray.empty))) :
    SRow w (some x) len cap (zs.take len) := by
  refine ⟨by simp; omega, hl, (fun e => by cases e), fun hp => ?_⟩
  obtain ⟨b, o, spot⟩ := x
  have hs : spot = none := by simpa [Addr.add] using World.cell?_spot (hc 0 (by omega))
  subst hs
  refine ⟨b, o, rfl, ?_, fun t ht => ?_⟩
  · have := World.block_lt_of_cell? w _ (hc 0 (by omega)); simpa [Addr.add] using this
  · have := hc t (by omega)
    rw [Addr.add_lit] at this
    rw [this]
    simp [List.getD, ht]

/-- An array of strings by value. -/
theorem open_array {H : Type} {enc : TypeId × Value → H} {W : World} {r : Reach} {b0 base : Nat} {sp : Nat → Bool} {held : Bool} {v : Value} {d : DataW H} {p : List MemPlace} (hv : Value.okWide Try.prog W r b0 23 v) (h : DataW.Trod enc Try.prog W base sp held 23 v d p) :
    ∃ rs : List ByteArray, v = .agg (rs.map Value.string).toArray ∧ rs.length = 1024 := by
  simp only [Value.okWide, Try.underlying23] at hv
  obtain ⟨cs, rfl, h2, _⟩ := hv
  have h3 : Try.prog.cellsOf 23 = 1024 := by kernel_rfl
  have h4 : Try.prog.cellsOf 9 = 1 := by kernel_rfl
  rw [h3] at h2
  obtain ⟨fuel, hf⟩ := h
  obtain ⟨xs, m, _, _, hlen, hxs, hel⟩ := DataW.trod_array Try.underlying23 hf
  have each : ∀ i (hi : i < cs.size), ∃ s, cs[i] = Value.string s := by
    intro i hi
    have e := hel i (by omega)
    rw [h4, List.getElem?_eq_getElem (by omega)] at e
    obtain ⟨s, hs, _⟩ := DataW.trod_string Try.underlying9 e
    refine ⟨s, ?_⟩
    have hd : (Value.agg cs).cells.toList.drop (i * 1) = cs[i] :: cs.toList.drop (i + 1) := by
      have h5 : (Value.agg cs).cells = cs := rfl
      rw [h5, Nat.mul_one, List.drop_eq_getElem_cons (by simpa using hi)]
      simp
    rw [hd] at hs
    simpa using hs
  refine ⟨cs.toList.map (fun v => match v with | .string s => s | _ => ByteArray.empty), ?_, by simpa using h2⟩
  congr 1
  apply Array.ext
  · simp
  · intro i h5 h6
    obtain ⟨s, hs⟩ := each i h5
    simp [hs]

set_option maxRecDepth 100000 in
theorem lifted (os : Os) (started : os.Started) (H : Type) (enc : TypeId × Value → H) :
    ReturnsInHanded {} Try.checked os 3 .any (Rows.fnHeldSpellsTheKeyAndKeepsOneCopySpec.pre6 enc Try.prog Try.f3 Rows.fnHeldSpellsTheKeyAndKeepsOneCopyRow.domain false) (Rows.fnHeldSpellsTheKeyAndKeepsOneCopySpec.post enc Try.prog Try.f3 false true false false) := by
  refine returnsInHanded_of_change (C := Try.checked) own started (by kernel_rfl) Try.func3
    (witness os enc) ?_
  intro W base args ds gs before hval0 hW hcnd _
  have hval : ∀ (j : Nat) t v, Try.f3.params[j]? = some t → args[j]? = some v → Value.okWide Try.prog W .any base t v := hval0
  have hW' := hW
  obtain ⟨p, q, hA0, hV, rfl, hfz, hnd⟩ := hW
  have hA : DataW.TrodAll enc Try.prog W 0 (fun _ => true) true Try.f3.params.toList args.toList ds p := hA0
  rw [Try.params3] at hA hval
  obtain ⟨v0, vs0, d0, ds0, p0, q0, hargs, rfl, rfl, h0, r0⟩ := trodAll_cons hA
  obtain ⟨v1, vs1, d1, ds1, p1, q1, rfl, rfl, rfl, h1, r1⟩ := trodAll_cons r0
  obtain ⟨v2, vs2, d2, ds2, p2, q2, rfl, rfl, rfl, h2, r2⟩ := trodAll_cons r1
  obtain ⟨v3, vs3, d3, ds3, p3, q3, rfl, rfl, rfl, h3, r3⟩ := trodAll_cons r2
  obtain ⟨rfl, rfl, rfl⟩ := trodAll_nil r3
  obtain rfl : args = #[v0, v1, v2, v3] := by cases args; simp_all
  obtain ⟨rfl, rfl⟩ := trodVars_none hV
  obtain ⟨a0, len0, cap0, rfl⟩ := okWide_slice Try.underlying22 (hval 0 22 v0 rfl rfl)
  obtain ⟨nm, rfl⟩ := okWide_bool Try.underlying4 (hval 1 4 v1 rfl rfl)
  obtain ⟨rs, rfl, hrs⟩ := open_array (hval 2 23 v2 rfl rfl) h2
  obtain ⟨a3, len3, cap3, rfl⟩ := okWide_slice Try.underlying24 (hval 3 24 v3 rfl rfl)
  have k0 := h0
  have k1 := h1
  have k2 := h2
  have k3 := h3
  have lt0 : ∀ x ∈ p0, x.block < W.heap.size := by obtain ⟨m, hm⟩ := k0; exact DataW.trod_lt m _ _ _ hm
  have lt1 : ∀ x ∈ p1, x.block < W.heap.size := by obtain ⟨m, hm⟩ := k1; exact DataW.trod_lt m _ _ _ hm
  have lt2 : ∀ x ∈ p2, x.block < W.heap.size := by obtain ⟨m, hm⟩ := k2; exact DataW.trod_lt m _ _ _ hm
  have lt3 : ∀ x ∈ p3, x.block < W.heap.size := by obtain ⟨m, hm⟩ := k3; exact DataW.trod_lt m _ _ _ hm
  obtain ⟨ss, w0, m0⟩ : ∃ ss, SRow W a0 len0 cap0 ss ∧ len0 ≤ maxLen := by
    obtain ⟨fuel, hf⟩ := h0
    rcases open_strings Try.underlying22 Try.underlying9 (by kernel_rfl) hf with ⟨hcs, _⟩ | ⟨x, l, c, zs, hcs, _, hl, hm, hz, _, hcell, _⟩
    · simp [Value.cells] at hcs
      obtain ⟨rfl, rfl, rfl⟩ := hcs
      exact ⟨[], SRow.nil W, Nat.zero_le _⟩
    · simp [Value.cells] at hcs
      obtain ⟨rfl, rfl, rfl⟩ := hcs
      exact ⟨_, srow_of hl (by simpa using hz) hcell, Nat.le_trans hl hm⟩
  obtain ⟨zs, w3, b3, m3⟩ : ∃ zs, Row W a3 len3 cap3 zs ∧ (∀ z ∈ zs, 0 ≤ z ∧ z ≤ 255) ∧ len3 ≤ maxLen := by
    obtain ⟨fuel, hf⟩ := h3
    rcases open_ints Try.underlying24 Try.underlying5 (by kernel_rfl) hf with ⟨hcs, _⟩ | ⟨x, l, c, zs, hcs, _, hl, hm, hz, _, hcell, hwz⟩
    · simp [Value.cells] at hcs
      obtain ⟨rfl, rfl, rfl⟩ := hcs
      exact ⟨[], Row.nil W, by simp, Nat.zero_le _⟩
    · simp [Value.cells] at hcs
      obtain ⟨rfl, rfl, rfl⟩ := hcs
      exact ⟨_, row_of hl (by simpa using hz) hcell, fun z hzz => bounds_u8 (hwz z (List.mem_of_mem_take hzz)), Nat.le_trans hl hm⟩
  clear hA0 hval0
  refine (law3 a0 len0 cap0 ss nm _ rs a3 len3 cap3 zs W w0 rfl hrs w3 b3 m0 m3).mono fun e W' ⟨he, bel⟩ => ?_
  subst he
  exact ⟨_, rfl, _, _, _, [], _, [], hW', trodAll_mk1 (shut_bool Try.underlying4 _), (trodAll_cons_mk (Below.trod laidOut (by kernel_rfl) (of_decide_eq_true (by kernel_rfl)) k0 bel lt0) (trodAll_cons_mk (Below.trod laidOut (by kernel_rfl) (of_decide_eq_true (by kernel_rfl)) k1 bel lt1) (trodAll_cons_mk (Below.trod laidOut (by kernel_rfl) (of_decide_eq_true (by kernel_rfl)) k2 bel lt2) (trodAll_cons_mk (Below.trod laidOut (by kernel_rfl) (of_decide_eq_true (by kernel_rfl)) k3 bel lt3) trodAll_mk0)))), rfl, bel.frame _, fun h => by cases h⟩

theorem over : Rows.fnHeldSpellsTheKeyAndKeepsOneCopyRow.holds Try.pinned (OpenSpec.ofChange Rows.fnHeldSpellsTheKeyAndKeepsOneCopySpec) :=
  OpenClaim.holds_of_wide 3 Try.f3 rfl rfl rfl rfl rfl rfl rfl ⟨rfl, rfl, rfl, rfl, rfl⟩ rfl rfl rfl rfl rfl (by kernel_rfl) Try.func3 (by kernel_rfl)
    (of_decide_eq_true (by kernel_rfl)) (by unfold Func.isWrapper; first | (rw [if_pos (by decide +kernel)]; kernel_rfl) | (rw [if_neg (by decide +kernel)]; exact ⟨rfl, rfl⟩))
    (fun os started H enc _ => lifted os started H enc)

/-- The statement. -/
theorem proved : Rows.FnHeldSpellsTheKeyAndKeepsOneCopySaid := over
end Go.Proofs.Qxb6606338a.fnHeldSpellsTheKeyAndKeepsOneCopy
