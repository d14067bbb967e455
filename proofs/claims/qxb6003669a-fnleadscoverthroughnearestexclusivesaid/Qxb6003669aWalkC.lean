import Derived.Test.Qxb6003669aView
import Derived.WalkSpells
namespace Go.Proofs.Qxb6003669a
open Go.RowKit

theorem fill_stepS (zs : List ByteArray) (k : Nat) (hk : k < zs.length) :
    ((zs.take k ++ List.replicate (zs.length - k) ByteArray.empty).map Value.string).set k (.string (zs[k]?.getD ByteArray.empty)) = (zs.take (k + 1) ++ List.replicate (zs.length - (k + 1)) ByteArray.empty).map Value.string := by
  obtain ⟨n, hn⟩ : ∃ n, zs.length - k = n + 1 := ⟨zs.length - k - 1, by omega⟩
  rw [hn, show zs.length - (k + 1) = n by omega, List.take_succ_eq_append_getElem hk, List.replicate_succ]
  simp only [List.map_append, List.map_cons, List.append_assoc, List.cons_append, List.nil_append]
  rw [List.set_append_right _ _ (by simp; omega)]
  simp [List.getElem?_eq_getElem hk, Nat.min_eq_left (Nat.le_of_lt hk)]

set_option maxHeartbeats 800000 in
/-- zzClone: what it hands back lies in new memory. -/
theorem cloneS_new (a : Option Addr) (len cap : Nat) (zs : List ByteArray) (w : World) (h : SRow w a len cap zs) (hm : len ≤ 1048576) :
    Calls Try.prog 10 #[.slice a len cap] w fun e w' => ∃ a' cap', e = .returned (.slice a' len cap') ∧ SRow w' a' len cap' zs ∧ Below w.heap.size w w' ∧ ∀ ad, a' = some ad → w.heap.size ≤ ad.block := by
  have heq := fun wx n' c' => Lib.run_eql_slice_nil (P := Try.prog) wx 22 9 a len cap n' c' Try.underlying22
  obtain ⟨i0, hi, hz0, hz1, hz2⟩ := info_parts Try.info9
  by_cases ha : a = none
  · subst ha
    obtain ⟨h1, h2, h3, _⟩ := h
    have hc := h3 rfl
    subst hc
    have hl : len = 0 := by omega
    subst hl
    have : zs = [] := List.eq_nil_of_length_eq_zero (by omega)
    subst this
    go_enter Try.func10, Try.ntmps10
    go_wp2
    go_ret
    exact ⟨none, 0, rfl, SRow.nil _, Below.refl _ _, fun ad h => by cases h⟩
  obtain ⟨ad, rfl⟩ : ∃ ad, a = some ad := by cases a with | none => exact absurd rfl ha | some x => exact ⟨x, rfl⟩
  have hlz := h.1
  go_enter Try.func10, Try.ntmps10
  go_wp2_with (at_make; refine wpList_make_full _ rfl _ _ 22 rfl w.heap.size 9 i0 (.string ByteArray.empty) 1 Try.underlying22 hi hz0 hz1 _ _ _ _ len rfl rfl (by omega) (by omega) (by rw [hz2]; omega) (by unfold maxLen; omega) (Nat.le_refl _) ?_; intro w0 hown0 hgrow0)
  have hown1 : w0.ownsRow w.heap.size 9 1 (.slice (some ⟨w.heap.size, 0, none⟩) len len) len ((zs.take 0 ++ List.replicate (zs.length - 0) ByteArray.empty).map Value.string) := by
    have e : (madeCells (Value.string ByteArray.empty).cells (len * 1)).toList = (zs.take 0 ++ List.replicate (zs.length - 0) ByteArray.empty).map Value.string := by
      rw [show (Value.string ByteArray.empty).cells = #[Value.string ByteArray.empty] from rfl, toList_madeCells_one]
      simp [hlz]
    rw [← e]; exact hown0
  clear hown0
  have hbel0 : Below w.heap.size w w0 := (Below.refl _ _).grown hgrow0 (Nat.le_refl _) (fun k h => by cases h)
  clear hgrow0 heq
  go_loopw [4] (fun i wr => ∃ k : Nat, i = .int .i64 k ∧ k ≤ len ∧ wr.ownsRow w.heap.size 9 1 (.slice (some ⟨w.heap.size, 0, none⟩) len len) len ((zs.take k ++ List.replicate (zs.length - k) ByteArray.empty).map Value.string) ∧ Below w.heap.size w wr)
    (fun i _ => len - (intOf i).toNat)
  case atStart => exact ⟨0, rfl, by omega, hown1, hbel0⟩
  case round =>
    obtain ⟨k, rfl, hk, hown, hbel⟩ := hrel
    clear hown1 hbel0
    by_cases hlt : k < len
    · obtain ⟨b, o, hao, hb, hcell⟩ := h.2.2.2 (by omega)
      cases hao
      obtain ⟨x, hx⟩ : ∃ x, x = zs[k]?.getD ByteArray.empty := ⟨_, rfl⟩
      have c1 : wr.cell? ⟨b, o + k, none⟩ = some (.string x) := by rw [hx]; exact (hbel.cell (by exact hb)).trans (hcell k hlt)
      obtain ⟨old, c2⟩ : ∃ old, wr.cell? ⟨w.heap.size, k, none⟩ = some old := by
        rw [hown.cellAt k (by omega)]
        exact ⟨_, List.getElem?_eq_getElem (by simp; omega)⟩
      have c3 := hown.frozenAt k
      have hst := hown.stored k (.string x)
      have HS : Hid ((wr.setCell ⟨w.heap.size, k, none⟩ (.string x)).ownsRow w.heap.size 9 1 (.slice (some ⟨w.heap.size, 0, none⟩) len len) len ((zs.take (k + 1) ++ List.replicate (zs.length - (k + 1)) ByteArray.empty).map Value.string)) := by
        have := hst.1
        rw [hx, fill_stepS zs k (by omega), ← hx] at this
        exact this
      clear hst hx hcell hown h
      go_wp2
      go_roundw
      case rel => exact ⟨k + 1, by go_num, by omega, HS.out, hbel.setCell (Nat.le_refl _) _⟩
      case measure => simp [intOf]; omega
    · have e : k = len := by omega
      subst e
      go_wp2
      go_ret
      refine ⟨_, _, rfl, SRow.of_own (base := w.heap.size) ?_, hbel, fun ad h => by cases h; exact Nat.le_refl _⟩
      have e : zs.take k ++ List.replicate (zs.length - k) ByteArray.empty = zs := by rw [List.take_of_length_le (by omega), show zs.length - k = 0 by omega]; simp
      rw [e] at hown
      exact hown

/-- zzClone. -/
theorem cloneS_any (a : Option Addr) (len cap : Nat) (zs : List ByteArray) (w : World) (h : SRow w a len cap zs) (hm : len ≤ 1048576) :
    Calls Try.prog 10 #[.slice a len cap] w fun e w' => ∃ a' cap', e = .returned (.slice a' len cap') ∧ SRow w' a' len cap' zs ∧ Below w.heap.size w w' :=
  (cloneS_new a len cap zs w h hm).mono fun _ _ ⟨a', c', h1, h2, h3, _⟩ => ⟨a', c', h1, h2, h3⟩

theorem fill_stepB (zs : List Bool) (k : Nat) (hk : k < zs.length) :
    ((zs.take k ++ List.replicate (zs.length - k) false).map Value.bool).set k (.bool (zs[k]?.getD false)) = (zs.take (k + 1) ++ List.replicate (zs.length - (k + 1)) false).map Value.bool := by
  obtain ⟨n, hn⟩ : ∃ n, zs.length - k = n + 1 := ⟨zs.length - k - 1, by omega⟩
  rw [hn, show zs.length - (k + 1) = n by omega, List.take_succ_eq_append_getElem hk, List.replicate_succ]
  simp only [List.map_append, List.map_cons, List.append_assoc, List.cons_append, List.nil_append]
  rw [List.set_append_right _ _ (by simp; omega)]
  simp [List.getElem?_eq_getElem hk, Nat.min_eq_left (Nat.le_of_lt hk)]

set_option maxHeartbeats 800000 in
/-- zzClone: what it hands back lies in new memory. -/
theorem cloneB_new (a : Option Addr) (len cap : Nat) (zs : List Bool) (w : World) (h : BRow w a len cap zs) (hm : len ≤ 1048576) :
    Calls Try.prog 11 #[.slice a len cap] w fun e w' => ∃ a' cap', e = .returned (.slice a' len cap') ∧ BRow w' a' len cap' zs ∧ Below w.heap.size w w' ∧ ∀ ad, a' = some ad → w.heap.size ≤ ad.block := by
  have heq := fun wx n' c' => Lib.run_eql_slice_nil (P := Try.prog) wx 23 4 a len cap n' c' Try.underlying23
  obtain ⟨i0, hi, hz0, hz1, hz2⟩ := info_parts Try.info4
  by_cases ha : a = none
  · subst ha
    obtain ⟨h1, h2, h3, _⟩ := h
    have hc := h3 rfl
    subst hc
    have hl : len = 0 := by omega
    subst hl
    have : zs = [] := List.eq_nil_of_length_eq_zero (by omega)
    subst this
    go_enter Try.func11, Try.ntmps11
    go_wp2
    go_ret
    exact ⟨none, 0, rfl, BRow.nil _, Below.refl _ _, fun ad h => by cases h⟩
  obtain ⟨ad, rfl⟩ : ∃ ad, a = some ad := by cases a with | none => exact absurd rfl ha | some x => exact ⟨x, rfl⟩
  have hlz := h.1
  go_enter Try.func11, Try.ntmps11
  go_wp2_with (at_make; refine wpList_make_full _ rfl _ _ 23 rfl w.heap.size 4 i0 (.bool false) 1 Try.underlying23 hi hz0 hz1 _ _ _ _ len rfl rfl (by omega) (by omega) (by rw [hz2]; omega) (by unfold maxLen; omega) (Nat.le_refl _) ?_; intro w0 hown0 hgrow0)
  have hown1 : w0.ownsRow w.heap.size 4 1 (.slice (some ⟨w.heap.size, 0, none⟩) len len) len ((zs.take 0 ++ List.replicate (zs.length - 0) false).map Value.bool) := by
    have e : (madeCells (Value.bool false).cells (len * 1)).toList = (zs.take 0 ++ List.replicate (zs.length - 0) false).map Value.bool := by
      rw [show (Value.bool false).cells = #[Value.bool false] from rfl, toList_madeCells_one]
      simp [hlz]
    rw [← e]; exact hown0
  clear hown0
  have hbel0 : Below w.heap.size w w0 := (Below.refl _ _).grown hgrow0 (Nat.le_refl _) (fun k h => by cases h)
  clear hgrow0 heq
  go_loopw [4] (fun i wr => ∃ k : Nat, i = .int .i64 k ∧ k ≤ len ∧ wr.ownsRow w.heap.size 4 1 (.slice (some ⟨w.heap.size, 0, none⟩) len len) len ((zs.take k ++ List.replicate (zs.length - k) false).map Value.bool) ∧ Below w.heap.size w wr)
    (fun i _ => len - (intOf i).toNat)
  case atStart => exact ⟨0, rfl, by omega, hown1, hbel0⟩
  case round =>
    obtain ⟨k, rfl, hk, hown, hbel⟩ := hrel
    clear hown1 hbel0
    by_cases hlt : k < len
    · obtain ⟨b, o, hao, hb, hcell⟩ := h.2.2.2 (by omega)
      cases hao
      obtain ⟨x, hx⟩ : ∃ x, x = zs[k]?.getD false := ⟨_, rfl⟩
      have c1 : wr.cell? ⟨b, o + k, none⟩ = some (.bool x) := by rw [hx]; exact (hbel.cell (by exact hb)).trans (hcell k hlt)
      obtain ⟨old, c2⟩ : ∃ old, wr.cell? ⟨w.heap.size, k, none⟩ = some old := by
        rw [hown.cellAt k (by omega)]
        exact ⟨_, List.getElem?_eq_getElem (by simp; omega)⟩
      have c3 := hown.frozenAt k
      have hst := hown.stored k (.bool x)
      have HS : Hid ((wr.setCell ⟨w.heap.size, k, none⟩ (.bool x)).ownsRow w.heap.size 4 1 (.slice (some ⟨w.heap.size, 0, none⟩) len len) len ((zs.take (k + 1) ++ List.replicate (zs.length - (k + 1)) false).map Value.bool)) := by
        have := hst.1
        rw [hx, fill_stepB zs k (by omega), ← hx] at this
        exact this
      clear hst hx hcell hown h
      go_wp2
      go_roundw
      case rel => exact ⟨k + 1, by go_num, by omega, HS.out, hbel.setCell (Nat.le_refl _) _⟩
      case measure => simp [intOf]; omega
    · have e : k = len := by omega
      subst e
      go_wp2
      go_ret
      refine ⟨_, _, rfl, BRow.of_own (base := w.heap.size) ?_, hbel, fun ad h => by cases h; exact Nat.le_refl _⟩
      have e : zs.take k ++ List.replicate (zs.length - k) false = zs := by rw [List.take_of_length_le (by omega), show zs.length - k = 0 by omega]; simp
      rw [e] at hown
      exact hown

/-- zzClone. -/
theorem cloneB_any (a : Option Addr) (len cap : Nat) (zs : List Bool) (w : World) (h : BRow w a len cap zs) (hm : len ≤ 1048576) :
    Calls Try.prog 11 #[.slice a len cap] w fun e w' => ∃ a' cap', e = .returned (.slice a' len cap') ∧ BRow w' a' len cap' zs ∧ Below w.heap.size w w' :=
  (cloneB_new a len cap zs w h hm).mono fun _ _ ⟨a', c', h1, h2, h3, _⟩ => ⟨a', c', h1, h2, h3⟩
end Go.Proofs.Qxb6003669a
