import Derived.Test.Qxb6606338aWalkB
namespace Go.Proofs.Qxb6606338a
open Go.RowKit

theorem Row.setCell {w : World} {a : Option Addr} {len cap g k : Nat} {zs : List Int} (h : Row w a len cap zs) (hne : ∀ ad, a = some ad → ad.block ≠ g) (u : Value) : Row (w.setCell ⟨g, k, none⟩ u) a len cap zs := by
  obtain ⟨h1, h2, h3, h4⟩ := h
  refine ⟨h1, h2, h3, fun hp => ?_⟩
  obtain ⟨b, o, e, hlt, hc⟩ := h4 hp
  refine ⟨b, o, e, by simpa [World.setCell] using hlt, fun t ht => ?_⟩
  rw [World.cell?_of_block (w := w) (Below.heap_setCell w ⟨g, k, none⟩ u b (hne _ e))]
  exact hc t ht

theorem grown_of_below {w w' : World} (hb : Below w.heap.size w w') : w.grownBy w' none := ⟨hb.os, hb.tape, hb.output, hb.size, fun k hk _ => hb.block k hk⟩

/-- The lists copied so far. -/
def Part (w : World) (g : Nat) (zss : List (List Int)) (k : Nat) (vs : List Value) : Prop :=
  ∀ t, t < k → ∃ a' l' c', vs[t]? = some (.slice a' l' c') ∧ Row w a' l' c' (zss.getD t []) ∧ ∀ ad, a' = some ad → g < ad.block

theorem Part.step {w w1 : World} {g k : Nat} {zss : List (List Int)} {vs : List Value} {a' : Option Addr} {l' c' : Nat} (h : Part w g zss k vs) (hb : Below w.heap.size w w1) (hg : g < w.heap.size) (hk : k < vs.length)
    (hr : Row w1 a' l' c' (zss.getD k [])) (hn : ∀ ad, a' = some ad → w.heap.size ≤ ad.block) : Part (w1.setCell ⟨g, k, none⟩ (.slice a' l' c')) g zss (k + 1) (vs.set k (.slice a' l' c')) := by
  intro t ht
  by_cases e : t = k
  · subst e
    have hn' : ∀ ad, a' = some ad → g < ad.block := fun ad h => Nat.lt_of_lt_of_le hg (hn ad h)
    exact ⟨a', l', c', by simp [hk], hr.setCell (fun ad h => Nat.ne_of_gt (hn' ad h)) _, hn'⟩
  · obtain ⟨a0, l0, c0, h1, h2, h3⟩ := h t (by omega)
    exact ⟨a0, l0, c0, by rw [List.getElem?_set_ne (by omega)]; exact h1, (h2.below hb).setCell (fun ad h => Nat.ne_of_gt (h3 ad h)) _, h3⟩

theorem Part.done {w : World} {g len : Nat} {zss : List (List Int)} {vs : List Value} (h : Part w g zss len vs) (hl : zss.length = len) (hown : w.ownsRow g 24 1 (.slice (some ⟨g, 0, none⟩) len len) len vs) :
    Rows2 w (some ⟨g, 0, none⟩) len len zss := by
  refine ⟨hl, Nat.le_refl _, (fun e => by cases e), fun _ => ⟨g, 0, rfl, (hown.lt g rfl).2, fun t ht => ?_⟩⟩
  obtain ⟨a', l', c', h1, h2, _⟩ := h t ht
  exact ⟨a', l', c', by rw [Nat.zero_add, hown.cellAt t (by omega)]; exact h1, h2⟩

set_option maxHeartbeats 800000 in
/-- zzCloneLists. -/
theorem cloneLists_any (a : Option Addr) (len cap : Nat) (zss : List (List Int)) (w : World) (h : Rows2 w a len cap zss) (hm : len ≤ 1048576) (ht : ∀ t, t < len → (zss.getD t []).length ≤ 1048576) :
    Calls Try.prog 18 #[.slice a len cap] w fun e w' => ∃ a' cap', e = .returned (.slice a' len cap') ∧ Rows2 w' a' len cap' zss ∧ Below w.heap.size w w' := by
  have heq := fun wx n' c' => Lib.run_eql_slice_nil (P := Try.prog) wx 38 24 a len cap n' c' Try.underlying38
  obtain ⟨i0, hi, hz0, hz1, hz2⟩ := info_parts Try.info24
  by_cases ha : a = none
  · subst ha
    obtain ⟨h1, h2, h3, _⟩ := h
    have hc := h3 rfl
    subst hc
    have hl : len = 0 := by omega
    subst hl
    go_enter Try.func18, Try.ntmps18
    go_wp2_with fail
    go_ret
    exact ⟨none, 0, rfl, ⟨h1, Nat.le_refl _, fun _ => rfl, fun h => absurd h (by omega)⟩, Below.refl _ _⟩
  obtain ⟨ad, rfl⟩ : ∃ ad, a = some ad := by cases a with | none => exact absurd rfl ha | some x => exact ⟨x, rfl⟩
  clear ha
  have HT : Hid (∀ t, t < len → (zss.getD t []).length ≤ 1048576) := ht
  clear ht
  go_enter Try.func18, Try.ntmps18
  go_wp2_with (at_make; refine wpList_make_full _ rfl _ _ 38 rfl w.heap.size 24 i0 (.slice none 0 0) 1 Try.underlying38 hi hz0 hz1 _ _ _ _ len rfl rfl (by omega) (by omega) (by rw [hz2]; omega) (by unfold maxLen; omega) (Nat.le_refl _) ?_; intro w0 hown0 hgrow0)
  have hbel0 : Below w.heap.size w w0 := (Below.refl _ _).grown hgrow0 (Nat.le_refl _) (fun k h => by cases h)
  obtain ⟨vs0, hvs⟩ : ∃ vs, vs = (madeCells (Value.slice none 0 0).cells (len * 1)).toList := ⟨_, rfl⟩
  rw [← hvs] at hown0
  clear hgrow0 heq hvs
  go_loopw [4] (fun i wr => ∃ (k : Nat) (vs : List Value), i = .int .i64 k ∧ k ≤ len ∧ wr.ownsRow w.heap.size 24 1 (.slice (some ⟨w.heap.size, 0, none⟩) len len) len vs ∧ Part wr w.heap.size zss k vs ∧ Below w.heap.size w wr)
    (fun i _ => len - (intOf i).toNat)
  case atStart => exact ⟨0, vs0, rfl, by omega, hown0, fun t ht => absurd ht (by omega), hbel0⟩
  case round =>
    obtain ⟨k, vs, rfl, hk, hown, hpart, hbel⟩ := hrel
    clear hown0 hbel0
    have HP : Hid (Part wr w.heap.size zss k vs) := hpart
    clear hpart
    by_cases hlt : k < len
    · obtain ⟨b, o, hao, hb, hcell⟩ := h.2.2.2 (by omega)
      cases hao
      obtain ⟨a0, l0, c0, hk0, hr0⟩ := hcell k hlt
      have c1 : wr.cell? ⟨b, o + k, none⟩ = some (.slice a0 l0 c0) := (hbel.cell (by exact hb)).trans hk0
      have hl0 : l0 ≤ 1048576 := by rw [← hr0.1]; exact HT.out k hlt
      have hC := clone_new a0 l0 c0 _ wr (hr0.below hbel) hl0
      have HC : Hid (Calls Try.prog 9 #[.slice a0 l0 c0] wr fun e w' => ∃ a' cap', e = .returned (.slice a' l0 cap') ∧ Row w' a' l0 cap' (zss.getD k []) ∧ Below wr.heap.size wr w' ∧ ∀ ad, a' = some ad → wr.heap.size ≤ ad.block) := hC
      clear hC hr0 hk0 hcell h
      go_wp2_with fail
      refine HC.out.mono ?_
      rintro e w1 ⟨a1, c1', rfl, hr1, hb1, hn1⟩
      have hown1 := hown.kept (grown_of_below hb1) (.inr (by simp [Value.ownBlock]))
      have hgl := (hown.lt _ rfl).2
      have hvl : vs.length = len := by simpa using hown.1
      obtain ⟨old, c2⟩ : ∃ old, w1.cell? ⟨w.heap.size, k, none⟩ = some old := by
        rw [hown1.cellAt k (by omega)]
        exact ⟨_, List.getElem?_eq_getElem (by omega)⟩
      have c3 := hown1.frozenAt k
      have hst := (hown1.stored k (.slice a1 l0 c1')).1
      have HS : Hid ((w1.setCell ⟨w.heap.size, k, none⟩ (.slice a1 l0 c1')).ownsRow w.heap.size 24 1 (.slice (some ⟨w.heap.size, 0, none⟩) len len) len (vs.set k (.slice a1 l0 c1'))) := hst
      have HP2 : Hid (Part (w1.setCell ⟨w.heap.size, k, none⟩ (.slice a1 l0 c1')) w.heap.size zss (k + 1) (vs.set k (.slice a1 l0 c1'))) := HP.out.step hb1 hgl (by omega) hr1 hn1
      have HB : Hid (Below w.heap.size w w1) := hbel.trans (hb1.mono hbel.size)
      clear hst hown hown1 hr1 hn1 HP HC hvl hb1 hbel
      go_wp2_with fail
      go_roundw
      case rel => exact ⟨k + 1, _, by go_num, by omega, HS.out, HP2.out, HB.out.setCell (Nat.le_refl _) _⟩
      case measure => simp [intOf]; omega
    · have e : k = len := by omega
      subst e
      go_wp2_with fail
      go_ret
      exact ⟨_, _, rfl, HP.out.done h.1 hown, hbel⟩
/-- Some bool came back. -/
def AnyBool (e : Ending) : Prop := ∃ x, e = .returned (.bool x)

set_option maxHeartbeats 800000 in
/-- zzBytes of the law on lists: it answers, and leaves all as it was. -/
theorem bytes13_any (a : Option Addr) (len cap : Nat) (zss : List (List Int)) (w : World) (h : Rows2 w a len cap zss) (hm : len ≤ 9223372036854775807) :
    Calls Try.prog 17 #[.slice a len cap] w fun e w' => AnyBool e ∧ w' = w := by
  by_cases hl : 1048576 < len
  · go_enter Try.func17, Try.ntmps17
    go_wp2
    go_ret
    exact ⟨⟨_, rfl⟩, rfl⟩
  go_enter Try.func17, Try.ntmps17
  go_wp2
  go_loop [3, 4] (fun sz si => ∃ (k : Nat) (z : Int), k ≤ len ∧ si = .int .i64 k ∧ sz = .int .i64 z ∧ 0 ≤ z ∧ z ≤ 1048576) (fun _ si => len - (intOf si).toNat)
  case atStart => exact ⟨0, _, Nat.zero_le _, rfl, rfl, by omega, by omega⟩
  case round =>
    obtain ⟨k, z, hk, rfl, rfl, hz0, hz1⟩ := hrel
    by_cases hlt : k < len
    · obtain ⟨b, o, rfl, hb, hc⟩ := h.2.2.2 (by omega)
      obtain ⟨a', l', c', hcell, hr⟩ := hc k hlt
      clear hc hr h
      by_cases hl' : 1048576 < l'
      · go_wp2
        go_ret
        exact ⟨⟨_, rfl⟩, rfl⟩
      · by_cases hs : 1048576 < z + l'
        · go_wp2
          go_ret
          exact ⟨⟨_, rfl⟩, rfl⟩
        · go_wp2
          go_round
          case rel => exact ⟨k + 1, z + l', by omega, by go_num, rfl, by omega, by omega⟩
          case measure => simp [intOf]; omega
    · go_wp2
      go_ret
      exact ⟨⟨_, rfl⟩, rfl⟩
end Go.Proofs.Qxb6606338a
