import Derived.Test.Qxb6606300aView
namespace Go.Proofs.Qxb6606300a
open Go.RowKit

/-- A slice of slices whose elements are the lists zss. -/
def Rows2 (w : World) (a : Option Addr) (len cap : Nat) (zss : List (List Int)) : Prop :=
  zss.length = len ∧ len ≤ cap ∧ (a = none → cap = 0) ∧
    (0 < len → ∃ b o, a = some ⟨b, o, none⟩ ∧ b < w.heap.size ∧ ∀ t, t < len → ∃ a' l' c', w.cell? ⟨b, o + t, none⟩ = some (.slice a' l' c') ∧ Row w a' l' c' (zss.getD t []))

theorem Rows2.below {w w' : World} {a : Option Addr} {len cap : Nat} {zss : List (List Int)} (h : Rows2 w a len cap zss) (hb : Below w.heap.size w w') : Rows2 w' a len cap zss := by
  obtain ⟨h1, h2, h3, h4⟩ := h
  refine ⟨h1, h2, h3, fun hp => ?_⟩
  obtain ⟨b, o, e, hlt, hc⟩ := h4 hp
  refine ⟨b, o, e, Nat.lt_of_lt_of_le hlt hb.size, fun t ht => ?_⟩
  obtain ⟨a', l', c', hcell, hr⟩ := hc t ht
  exact ⟨a', l', c', (hb.cell (by exact hlt)).trans hcell, hr.below hb⟩

theorem Rows2.take {w : World} {a : Option Addr} {len cap : Nat} {zss : List (List Int)} (h : Rows2 w a len cap zss) (n : Nat) (hn : n ≤ len) : Rows2 w a n cap (zss.take n) := by
  obtain ⟨h1, h2, h3, h4⟩ := h
  refine ⟨by simp; omega, by omega, h3, fun hp => ?_⟩
  obtain ⟨b, o, e, hlt, hc⟩ := h4 (by omega)
  refine ⟨b, o, e, hlt, fun t ht => ?_⟩
  obtain ⟨a', l', c', hcell, hr⟩ := hc t (by omega)
  refine ⟨a', l', c', hcell, ?_⟩
  simpa [List.getD, ht] using hr

theorem Rows2.drop {w : World} {b o len cap : Nat} {zss : List (List Int)} (h : Rows2 w (some ⟨b, o, none⟩) len cap zss) (n : Nat) (hn : n < len) : Rows2 w (some ⟨b, o + n, none⟩) (len - n) (cap - n) (zss.drop n) := by
  obtain ⟨h1, h2, h3, h4⟩ := h
  refine ⟨by simp; omega, by omega, (fun e => by cases e), fun hp => ?_⟩
  obtain ⟨b', o', e, hlt, hc⟩ := h4 (by omega)
  cases e
  refine ⟨b, o + n, rfl, hlt, fun t ht => ?_⟩
  obtain ⟨a', l', c', hcell, hr⟩ := hc (n + t) (by omega)
  refine ⟨a', l', c', by rw [Nat.add_assoc]; exact hcell, ?_⟩
  simpa [List.getD] using hr

theorem total_ge {zss : List (List Int)} {t : Nat} (ht : t < zss.length) : (zss.getD t []).length ≤ total zss := by
  induction zss generalizing t with
  | nil => simp at ht
  | cons x xs ih =>
    cases t with
    | zero => simp [total]
    | succ t => have := ih (t := t) (by simpa using ht); simp [total] at this ⊢; omega

end Go.Proofs.Qxb6606300a
