/- 'Rows.FnHeldFreshScriptHoldsTheFirstKeysSaid', proved: the frame after the kit's shell for a law, at a slice of slices; the walk is law5 (Qxb6606338aLaw5). -/
import Derived.Test.Qxb6606338aRows
import Derived.Test.Qxb6606338aLaw5
import Derived.WalkKit
import Derived.ProofKit
import Derived.OpenShut
import Derived.ShutString
import Derived.ChangeOld
import Derived.Below
import Derived.Deep.Matrix
namespace Go.Proofs.Qxb6606338a.fnHeldFreshScriptHoldsTheFirstKeys
open Go.ChangeShapes Go.WideShapes Go.ChangeAt Go.RowKit
set_option linter.unusedVariables false

theorem own : ownKnob Try.prog.godebug = none := by kernel_rfl
theorem laidOut : laidOutB Try.prog = true := by kernel_rfl

theorem row_of {w : World} {a : Option Addr} {len cap : Nat} {zs : List Int} (hl : len ≤ cap) (hz : zs.length = cap) (hn : a = none → cap = 0) (hc : ∀ x, a = some x → ∀ c, c < cap → w.cell? (x.add c) = some (.int .u8 (zs.getD c 0))) :
    Row w a len cap (zs.take len) := by
  refine ⟨by simp; omega, hl, hn, fun hp => ?_⟩
  cases a with
  | none => have := hn rfl; omega
  | some x =>
    obtain ⟨b, o, spot⟩ := x
    have hc := hc _ rfl
    have hs : spot = none := by simpa [Addr.add] using World.cell?_spot (hc 0 (by omega))
    subst hs
    refine ⟨b, o, rfl, ?_, fun t ht => ?_⟩
    · have := World.block_lt_of_cell? w _ (hc 0 (by omega)); simpa [Addr.add] using this
    · have := hc t (by omega)
      rw [Addr.add_lit] at this
      rw [this]
      simp [List.getD, ht]

set_option maxRecDepth 100000 in
theorem lifted (os : Os) (started : os.Started) (H : Type) (enc : TypeId × Value → H) :
    ReturnsInHanded {} Try.checked os 5 .any (Rows.fnHeldFreshScriptHoldsTheFirstKeysSpec.pre6 enc Try.prog Try.f5 Rows.fnHeldFreshScriptHoldsTheFirstKeysRow.domain false) (Rows.fnHeldFreshScriptHoldsTheFirstKeysSpec.post enc Try.prog Try.f5 false true false false) := by
  refine returnsInHanded_of_change (C := Try.checked) own started (by kernel_rfl) Try.func5
    (ChangeSpec.witness6 (enc := enc) (C := Try.checked) false ⟨#[], #[.slice none 0 0], []⟩ 8 (by kernel_rfl) (by kernel_rfl) (by kernel_rfl) (by kernel_rfl)) ?_
  intro W base args ds gs before hval0 hW hcnd _
  have hval : ∀ (j : Nat) t v, Try.f5.params[j]? = some t → args[j]? = some v → Value.okWide Try.prog W .any base t v := hval0
  have hW' := hW
  obtain ⟨p, q, hA0, hV, rfl, hfz, hnd⟩ := hW
  have hA : DataW.TrodAll enc Try.prog W 0 (fun _ => true) true Try.f5.params.toList args.toList ds p := hA0
  rw [Try.params5] at hA hval
  obtain ⟨v0, vs0, d0, ds0, p0, q0, hargs, rfl, rfl, h0, r0⟩ := trodAll_cons hA
  obtain ⟨rfl, rfl, rfl⟩ := trodAll_nil r0
  obtain rfl : args = #[v0] := by cases args; simp_all
  obtain ⟨rfl, rfl⟩ := trodVars_none hV
  obtain ⟨a0, len0, cap0, rfl⟩ := okWide_slice Try.underlying38 (hval 0 38 v0 rfl rfl)
  have k0 := h0
  have lt0 : ∀ x ∈ p0, x.block < W.heap.size := by obtain ⟨m, hm⟩ := k0; exact DataW.trod_lt m _ _ _ hm
  obtain ⟨zss, w0, b0, m0⟩ : ∃ zss, Rows2 W a0 len0 cap0 zss ∧ (∀ zs ∈ zss, ∀ z ∈ zs, 0 ≤ z ∧ z ≤ 255) ∧ len0 ≤ maxLen := by
    obtain ⟨fuel, hf⟩ := h0
    rcases Deep.open_int_rows Try.underlying38 Try.underlying24 Try.underlying5 (by kernel_rfl) (by kernel_rfl) hf with ⟨hcs, _⟩ | ⟨x, l, c, A, L, C, Z, hcs, _, hl, hm, _, hrow⟩
    · simp [Value.cells] at hcs
      obtain ⟨rfl, rfl, rfl⟩ := hcs
      exact ⟨[], ⟨rfl, Nat.le_refl _, fun _ => rfl, fun h => absurd h (by omega)⟩, by simp, Nat.zero_le _⟩
    · simp [Value.cells] at hcs
      obtain ⟨rfl, rfl, rfl⟩ := hcs
      refine ⟨(List.range len0).map fun r => (Z r).take (L r), ⟨by simp, hl, (fun e => by cases e), fun hp => ?_⟩, fun zs hzs z hz => ?_, Nat.le_trans hl hm⟩
      rotate_left
      · obtain ⟨r, hr, rfl⟩ := List.mem_map.1 hzs
        obtain ⟨_, _, _, _, hwf, _, _⟩ := hrow r (by have := List.mem_range.1 hr; omega)
        exact bounds_u8 (hwf z (List.mem_of_mem_take hz))
      obtain ⟨b, o, spot⟩ := x
      have hs : spot = none := by simpa [Addr.add] using World.cell?_spot (hrow 0 (by omega)).1
      subst hs
      refine ⟨b, o, rfl, ?_, fun t ht => ?_⟩
      · have := World.block_lt_of_cell? W _ (hrow 0 (by omega)).1; simpa [Addr.add] using this
      · obtain ⟨h1, h2, _, h4, _, h6, h7⟩ := hrow t (by omega)
        refine ⟨A t, L t, C t, by rw [← Addr.add_lit]; exact h1, ?_⟩
        have e : ((List.range len0).map fun r => (Z r).take (L r)).getD t [] = (Z t).take (L t) := by simp [List.getD, ht]
        rw [e]
        exact row_of h2 h4 h6 (fun x hx c hc => (h7 x hx).2 c hc)
  clear hA0 hval0
  refine (law5 a0 len0 cap0 zss W w0 b0 m0).mono fun e W' ⟨he, bel⟩ => ?_
  subst he
  exact ⟨_, rfl, _, _, _, [], _, [], hW', trodAll_mk1 (shut_bool Try.underlying4 _), (trodAll_cons_mk (Below.trod laidOut (by kernel_rfl) (of_decide_eq_true (by kernel_rfl)) k0 bel lt0) trodAll_mk0), rfl, bel.frame _, fun h => by cases h⟩

theorem over : Rows.fnHeldFreshScriptHoldsTheFirstKeysRow.holds Try.pinned (OpenSpec.ofChange Rows.fnHeldFreshScriptHoldsTheFirstKeysSpec) :=
  OpenClaim.holds_of_wide 5 Try.f5 rfl rfl rfl rfl rfl rfl rfl ⟨rfl, rfl, rfl, rfl, rfl⟩ rfl rfl rfl rfl rfl (by kernel_rfl) Try.func5 (by kernel_rfl)
    (of_decide_eq_true (by kernel_rfl)) (by unfold Func.isWrapper; first | (rw [if_pos (by decide +kernel)]; kernel_rfl) | (rw [if_neg (by decide +kernel)]; exact ⟨rfl, rfl⟩))
    (fun os started H enc _ => lifted os started H enc)

/-- The statement. -/
theorem proved : Rows.FnHeldFreshScriptHoldsTheFirstKeysSaid := over
end Go.Proofs.Qxb6606338a.fnHeldFreshScriptHoldsTheFirstKeys
