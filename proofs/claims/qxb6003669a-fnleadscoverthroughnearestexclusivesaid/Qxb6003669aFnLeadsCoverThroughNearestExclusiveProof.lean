/- 'Rows.FnLeadsCoverThroughNearestExclusiveSaid', proved: the frame after the kit's shell for a law, at slices of strings and of bools; the walk is law3 (Qxb6003669aLaw3). -/
import Derived.Test.Qxb6003669aRows
import Derived.Test.Qxb6003669aLaw3
import Derived.WalkKit
import Derived.ProofKit
import Derived.OpenShut
import Derived.ShutString
import Derived.ChangeOld
import Derived.Below
import Derived.SliceStrings
import Derived.Deep.Grids
namespace Go.Proofs.Qxb6003669a.fnLeadsCoverThroughNearestExclusive
open Go.ChangeShapes Go.WideShapes Go.ChangeAt Go.RowKit
set_option linter.unusedVariables false

theorem own : ownKnob Try.prog.godebug = none := by kernel_rfl
theorem laidOut : laidOutB Try.prog = true := by kernel_rfl

theorem srow_of {w : World} {x : Addr} {len cap : Nat} {ss : List ByteArray} (hl : len ≤ cap) (hz : ss.length = cap) (hc : ∀ i, i < ss.length → w.cell? (x.add i) = some (.string (ss.getD i ByteArray.empty))) :
    SRow w (some x) len cap (ss.take len) := by
  refine ⟨by simp; omega, hl, (fun e => by cases e), fun hp => ?_⟩
  obtain ⟨b, o, spot⟩ := x
  have hs : spot = none := by simpa [Addr.add] using World.cell?_spot (hc 0 (by omega))
  subst hs
  refine ⟨b, o, rfl, ?_, fun t ht => ?_⟩
  · have := World.block_lt_of_cell? w _ (hc 0 (by omega)); simpa [Addr.add] using this
  · have := hc t (by omega)
    rw [Addr.add_lit] at this
    rw [this]
    simp [List.getD, ht]

theorem brow_of {w : World} {x : Addr} {len cap : Nat} {B : Nat → Bool} (hl : len ≤ cap) (hc : ∀ i, i < cap → w.cell? (x.add i) = some (.bool (B i))) :
    BRow w (some x) len cap ((List.range len).map B) := by
  refine ⟨by simp, hl, (fun e => by cases e), fun hp => ?_⟩
  obtain ⟨b, o, spot⟩ := x
  have hs : spot = none := by simpa [Addr.add] using World.cell?_spot (hc 0 (by omega))
  subst hs
  refine ⟨b, o, rfl, ?_, fun t ht => ?_⟩
  · have := World.block_lt_of_cell? w _ (hc 0 (by omega)); simpa [Addr.add] using this
  · have := hc t (by omega)
    rw [Addr.add_lit] at this
    rw [this]
    simp [List.getD, ht]

section
variable {H : Type} {enc : TypeId × Value → H} {w : World} {held : Bool}
theorem open22 {a : Option Addr} {len cap : Nat} {d : DataW H} {ps : List MemPlace} (h : DataW.Trod enc Try.prog w 0 (fun _ => true) held 22 (.slice a len cap) d ps) :
    ∃ zs, SRow w a len cap zs ∧ len ≤ maxLen ∧ ∀ s ∈ zs, s.size ≤ maxLen := by
  obtain ⟨fuel, hf⟩ := h
  rcases open_strings Try.underlying22 Try.underlying9 (by kernel_rfl) hf with ⟨hcs, _⟩ | ⟨x, l, c, ss, hcs, _, hl, hm, hz, _, hcell, hsz⟩
  · simp [Value.cells] at hcs
    obtain ⟨rfl, rfl, rfl⟩ := hcs
    exact ⟨[], SRow.nil w, Nat.zero_le _, by simp⟩
  · simp [Value.cells] at hcs
    obtain ⟨rfl, rfl, rfl⟩ := hcs
    exact ⟨ss.take len, srow_of hl (by simpa using hz) hcell, Nat.le_trans hl hm, fun s hs => hsz s (List.mem_of_mem_take hs)⟩

theorem open23 {a : Option Addr} {len cap : Nat} {d : DataW H} {ps : List MemPlace} (h : DataW.Trod enc Try.prog w 0 (fun _ => true) held 23 (.slice a len cap) d ps) :
    ∃ zs, BRow w a len cap zs ∧ len ≤ maxLen := by
  obtain ⟨fuel, hf⟩ := h
  rcases Deep.open_bools Try.underlying23 Try.underlying4 (by kernel_rfl) hf with ⟨hcs, _⟩ | ⟨x, l, c, B, hcs, _, hl, hm, _, hcell⟩
  · simp [Value.cells] at hcs
    obtain ⟨rfl, rfl, rfl⟩ := hcs
    exact ⟨[], BRow.nil w, Nat.zero_le _⟩
  · simp [Value.cells] at hcs
    obtain ⟨rfl, rfl, rfl⟩ := hcs
    exact ⟨_, brow_of hl hcell, Nat.le_trans hl hm⟩
end

set_option maxRecDepth 100000 in
theorem lifted (os : Os) (started : os.Started) (H : Type) (enc : TypeId × Value → H) :
    ReturnsInHanded {} Try.checked os 3 .any (Rows.fnLeadsCoverThroughNearestExclusiveSpec.pre6 enc Try.prog Try.f3 Rows.fnLeadsCoverThroughNearestExclusiveRow.domain false) (Rows.fnLeadsCoverThroughNearestExclusiveSpec.post enc Try.prog Try.f3 false true false false) := by
  refine returnsInHanded_of_change (C := Try.checked) own started (by kernel_rfl) Try.func3
    (ChangeSpec.witness6 (enc := enc) (C := Try.checked) false ⟨#[], #[.slice none 0 0, .slice none 0 0, .slice none 0 0, .slice none 0 0, .int .i64 0], []⟩ 8 (by kernel_rfl) (by kernel_rfl) (by kernel_rfl) (by kernel_rfl)) ?_
  intro W base args ds gs before hval0 hW hcnd _
  have hval : ∀ (j : Nat) t v, Try.f3.params[j]? = some t → args[j]? = some v → Value.okWide Try.prog W .any base t v := hval0
  have hW' := hW
  obtain ⟨p, q, hA0, hV, rfl, hfz, hnd⟩ := hW
  have hA : DataW.TrodAll enc Try.prog W 0 (fun _ => true) true Try.f3.params.toList args.toList ds p := hA0
  rw [Try.params3] at hA hval
  obtain ⟨v0, vs0, d0, ds0, p0, q0, hargs, rfl, rfl, h0, r0⟩ := trodAll_cons hA
  obtain ⟨v1, vs1, d1, ds1, p1, q1, rfl, rfl, rfl, h1, r1⟩ := trodAll_cons r0
  obtain ⟨v2, vs2, d2, ds2, p2, q2, rfl, rfl, rfl, h2, r2⟩ := trodAll_cons r1
  obtain ⟨v3, vs3, d3, ds3, p3, q3, rfl, rfl, rfl, h3, r3⟩ := trodAll_cons r2
  obtain ⟨v4, vs4, d4, ds4, p4, q4, rfl, rfl, rfl, h4, r4⟩ := trodAll_cons r3
  obtain ⟨rfl, rfl, rfl⟩ := trodAll_nil r4
  obtain rfl : args = #[v0, v1, v2, v3, v4] := by cases args; simp_all
  obtain ⟨rfl, rfl⟩ := trodVars_none hV
  obtain ⟨a0, len0, cap0, rfl⟩ := okWide_slice Try.underlying22 (hval 0 22 v0 rfl rfl)
  obtain ⟨a1, len1, cap1, rfl⟩ := okWide_slice Try.underlying23 (hval 1 23 v1 rfl rfl)
  obtain ⟨a2, len2, cap2, rfl⟩ := okWide_slice Try.underlying22 (hval 2 22 v2 rfl rfl)
  obtain ⟨a3, len3, cap3, rfl⟩ := okWide_slice Try.underlying23 (hval 3 23 v3 rfl rfl)
  obtain ⟨z4, rfl⟩ := okWide_int Try.underlying3 (hval 4 3 v4 rfl rfl)
  have lt0 : ∀ x ∈ p0, x.block < W.heap.size := by obtain ⟨m, hm⟩ := h0; exact DataW.trod_lt m _ _ _ hm
  have lt1 : ∀ x ∈ p1, x.block < W.heap.size := by obtain ⟨m, hm⟩ := h1; exact DataW.trod_lt m _ _ _ hm
  have lt2 : ∀ x ∈ p2, x.block < W.heap.size := by obtain ⟨m, hm⟩ := h2; exact DataW.trod_lt m _ _ _ hm
  have lt3 : ∀ x ∈ p3, x.block < W.heap.size := by obtain ⟨m, hm⟩ := h3; exact DataW.trod_lt m _ _ _ hm
  have lt4 : ∀ x ∈ p4, x.block < W.heap.size := by obtain ⟨m, hm⟩ := h4; exact DataW.trod_lt m _ _ _ hm
  obtain ⟨s0, w0, m0, k0⟩ := open22 h0
  obtain ⟨s1, w1, m1⟩ := open23 h1
  obtain ⟨s2, w2, m2, _⟩ := open22 h2
  obtain ⟨s3, w3, m3⟩ := open23 h3
  clear hA0 hval0
  refine (law3 a0 len0 cap0 s0 a1 len1 cap1 s1 a2 len2 cap2 s2 a3 len3 cap3 s3 z4 W w0 w1 w2 w3 m0 m1 m2 m3 k0).mono fun e W' ⟨he, bel⟩ => ?_
  subst he
  exact ⟨_, rfl, _, _, _, [], _, [], hW', trodAll_mk1 (shut_bool Try.underlying4 _), (trodAll_cons_mk (Below.trod laidOut (by kernel_rfl) (of_decide_eq_true (by kernel_rfl)) h0 bel lt0) (trodAll_cons_mk (Below.trod laidOut (by kernel_rfl) (of_decide_eq_true (by kernel_rfl)) h1 bel lt1) (trodAll_cons_mk (Below.trod laidOut (by kernel_rfl) (of_decide_eq_true (by kernel_rfl)) h2 bel lt2) (trodAll_cons_mk (Below.trod laidOut (by kernel_rfl) (of_decide_eq_true (by kernel_rfl)) h3 bel lt3) (trodAll_cons_mk (Below.trod laidOut (by kernel_rfl) (of_decide_eq_true (by kernel_rfl)) h4 bel lt4) trodAll_mk0))))), rfl, bel.frame _, fun h => by cases h⟩

theorem over : Rows.fnLeadsCoverThroughNearestExclusiveRow.holds Try.pinned (OpenSpec.ofChange Rows.fnLeadsCoverThroughNearestExclusiveSpec) :=
  OpenClaim.holds_of_wide 3 Try.f3 rfl rfl rfl rfl rfl rfl rfl ⟨rfl, rfl, rfl, rfl, rfl⟩ rfl rfl rfl rfl rfl (by kernel_rfl) Try.func3 (by kernel_rfl)
    (of_decide_eq_true (by kernel_rfl)) (by unfold Func.isWrapper; first | (rw [if_pos (by decide +kernel)]; kernel_rfl) | (rw [if_neg (by decide +kernel)]; exact ⟨rfl, rfl⟩))
    (fun os started H enc _ => lifted os started H enc)

/-- The statement. -/
theorem proved : Rows.FnLeadsCoverThroughNearestExclusiveSaid := over
end Go.Proofs.Qxb6003669a.fnLeadsCoverThroughNearestExclusive
