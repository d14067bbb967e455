import Derived.Test.Qxb6606338aProg
import Derived.WalkKit
namespace Go.Proofs.Qxb6606338a
open Go.RowKit

theorem Try.info5 : (Try.prog.info? 5).map (fun i => (i.zero, i.size, i.bytes)) = some (some (.int .u8 0), 1, 1) := by kernel_rfl
theorem Try.info24 : (Try.prog.info? 24).map (fun i => (i.zero, i.size, i.bytes)) = some (some (.slice none 0 0), 1, 24) := by kernel_rfl

/-- A slice value whose elements are the numbers zs, as the world w holds them. -/
def Row (w : World) (a : Option Addr) (len cap : Nat) (zs : List Int) : Prop :=
  zs.length = len ∧ len ≤ cap ∧ (a = none → cap = 0) ∧
    (0 < len → ∃ b o, a = some ⟨b, o, none⟩ ∧ b < w.heap.size ∧ ∀ t, t < len → w.cell? ⟨b, o + t, none⟩ = some (.int .u8 (zs.getD t 0)))

theorem Row.below {w w' : World} {a : Option Addr} {len cap : Nat} {zs : List Int} (h : Row w a len cap zs) (hb : Below w.heap.size w w') : Row w' a len cap zs := by
  obtain ⟨h1, h2, h3, h4⟩ := h
  refine ⟨h1, h2, h3, fun hp => ?_⟩
  obtain ⟨b, o, e, hlt, hc⟩ := h4 hp
  exact ⟨b, o, e, Nat.lt_of_lt_of_le hlt hb.size, fun t ht => (hb.cell (by exact hlt)).trans (hc t ht)⟩

theorem Row.nil (w : World) : Row w none 0 0 [] := ⟨rfl, Nat.le_refl _, fun _ => rfl, fun h => absurd h (by omega)⟩

/-- The two shapes in which a walk meets it. -/
theorem Row.cases {w : World} {a : Option Addr} {len cap : Nat} {zs : List Int} (h : Row w a len cap zs) :
    (len = 0 ∧ zs = []) ∨ (∃ b o, a = some ⟨b, o, none⟩ ∧ 0 < len ∧ zs.length = len ∧ len ≤ cap ∧ b < w.heap.size ∧ ∀ t, t < len → w.cell? ⟨b, o + t, none⟩ = some (.int .u8 (zs.getD t 0))) := by
  obtain ⟨h1, h2, h3, h4⟩ := h
  by_cases hp : 0 < len
  · obtain ⟨b, o, e, hlt, hc⟩ := h4 hp
    exact .inr ⟨b, o, e, hp, h1, h2, hlt, hc⟩
  · exact .inl ⟨by omega, List.eq_nil_of_length_eq_zero (by omega)⟩

/-- A row that the call owns, read as a slice value. -/
theorem Row.of_own {w : World} {base : Nat} {g n cap : Nat} {zs : List Int} (h : w.ownsRow base 5 1 (.slice (some ⟨g, 0, none⟩) n cap) n (zs.map (Value.int .u8))) : Row w (some ⟨g, 0, none⟩) n cap zs := by
  have hlen : zs.length = n := by have := h.1; simpa using this
  have hcap : n ≤ cap := by
    rcases h.2 with ⟨h', _⟩ | ⟨g', cap', cur, h', _, _, hn, _⟩
    · simp at h'
    · simp only [Value.slice.injEq] at h'
      obtain ⟨_, _, rfl⟩ := h'
      exact hn
  refine ⟨hlen, hcap, (fun e => by cases e), fun hp => ⟨g, 0, rfl, (h.lt g rfl).2, fun t ht => ?_⟩⟩
  have := h.cellAt t (by omega)
  rw [Nat.zero_add, this]
  simp [List.getElem?_eq_getElem (show t < zs.length by omega), List.getD]

/-- The same, whatever its shape. -/
theorem Row.of_owns {w : World} {base : Nat} {v : Value} {n : Nat} {zs : List Int} (h : w.ownsRow base 5 1 v n (zs.map (Value.int .u8))) : ∃ a cap, v = .slice a n cap ∧ Row w a n cap zs := by
  rcases h.2 with ⟨h', h0⟩ | ⟨g', cap', cur, h', _, _, hn, _⟩
  · subst h0
    have : zs = [] := List.eq_nil_of_length_eq_zero (by have := h.1; simpa using this)
    subst this
    exact ⟨none, 0, h', Row.nil w⟩
  · subst h'
    exact ⟨_, _, rfl, Row.of_own h⟩

/-- A slice of slices whose elements are the lists zss. -/
def Rows2 (w : World) (a : Option Addr) (len cap : Nat) (zss : List (List Int)) : Prop :=
  zss.length = len ∧ len ≤ cap ∧ (a = none → cap = 0) ∧
    (0 < len → ∃ b o, a = some ⟨b, o, none⟩ ∧ b < w.heap.size ∧ ∀ t, t < len → ∃ a' l' c', w.cell? ⟨b, o + t, none⟩ = some (.slice a' l' c') ∧ Row w a' l' c' (zss.getD t []))

theorem Rows2.below {w w' : World} {a : Option Addr} {len cap : Nat} {zss : List (List Int)} (h : Rows2 w a len cap zss) (hb : Below w.heap.size w w') : Rows2 w' a len cap zss := by
  obtain ⟨h1, h2, h3, h4⟩ := h
  refine ⟨h1, h2, h3, fun hp => ?_⟩
  obtain ⟨b, o, e, hlt, hc⟩ := h4 hp
  refine ⟨b, o, e, Nat.lt_of_lt_of_le hlt hb.size, fun t ht => ?_⟩
  obtain ⟨a', l', c', hcell, hr⟩ := hc t ht
  exact ⟨a', l', c', (hb.cell (by exact hlt)).trans hcell, hr.below hb⟩

theorem Rows2.take {w : World} {a : Option Addr} {len cap : Nat} {zss : List (List Int)} (h : Rows2 w a len cap zss) (n : Nat) (hn : n ≤ len) : Rows2 w a n cap (zss.take n) := by
  obtain ⟨h1, h2, h3, h4⟩ := h
  refine ⟨by simp; omega, by omega, h3, fun hp => ?_⟩
  obtain ⟨b, o, e, hlt, hc⟩ := h4 (by omega)
  refine ⟨b, o, e, hlt, fun t ht => ?_⟩
  obtain ⟨a', l', c', hcell, hr⟩ := hc t (by omega)
  refine ⟨a', l', c', hcell, ?_⟩
  simpa [List.getD, ht] using hr

theorem Rows2.drop {w : World} {b o len cap : Nat} {zss : List (List Int)} (h : Rows2 w (some ⟨b, o, none⟩) len cap zss) (n : Nat) (hn : n < len) : Rows2 w (some ⟨b, o + n, none⟩) (len - n) (cap - n) (zss.drop n) := by
  obtain ⟨h1, h2, h3, h4⟩ := h
  refine ⟨by simp; omega, by omega, (fun e => by cases e), fun hp => ?_⟩
  obtain ⟨b', o', e, hlt, hc⟩ := h4 (by omega)
  cases e
  refine ⟨b, o + n, rfl, hlt, fun t ht => ?_⟩
  obtain ⟨a', l', c', hcell, hr⟩ := hc (n + t) (by omega)
  refine ⟨a', l', c', by rw [Nat.add_assoc]; exact hcell, ?_⟩
  simpa [List.getD] using hr


theorem Rows2.at {w : World} {a : Option Addr} {len cap : Nat} {zss : List (List Int)} (h : Rows2 w a len cap zss) (k : Nat) (hk : k < len) :
    ∃ b o a' l' c', a = some ⟨b, o, none⟩ ∧ b < w.heap.size ∧ w.cell? ⟨b, o + k, none⟩ = some (.slice a' l' c') ∧ Row w a' l' c' (zss.getD k []) := by
  obtain ⟨b, o, rfl, hb, hc⟩ := h.2.2.2 (by omega)
  obtain ⟨a', l', c', h1, h2⟩ := hc k hk
  exact ⟨b, o, a', l', c', rfl, hb, h1, h2⟩

end Go.Proofs.Qxb6606338a
