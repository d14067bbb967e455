import Derived.Test.Qxb6606438aProg
import Derived.WalkKit
namespace Go.Proofs.Qxb6606438a
open Go.RowKit

theorem Try.info5 : (Try.prog.info? 5).map (fun i => (i.zero, i.size, i.bytes)) = some (some (.int .u8 0), 1, 1) := by kernel_rfl

/-- A slice value whose elements are the numbers zs, as the world w holds them. -/
def Row (w : World) (a : Option Addr) (len cap : Nat) (zs : List Int) : Prop :=
  zs.length = len ∧ len ≤ cap ∧ (a = none → cap = 0) ∧
    (0 < len → ∃ b o, a = some ⟨b, o, none⟩ ∧ b < w.heap.size ∧ ∀ t, t < len → w.cell? ⟨b, o + t, none⟩ = some (.int .u8 (zs.getD t 0)))

theorem Row.below {w w' : World} {a : Option Addr} {len cap : Nat} {zs : List Int} (h : Row w a len cap zs) (hb : Below w.heap.size w w') : Row w' a len cap zs := by
  obtain ⟨h1, h2, h3, h4⟩ := h
  refine ⟨h1, h2, h3, fun hp => ?_⟩
  obtain ⟨b, o, e, hlt, hc⟩ := h4 hp
  exact ⟨b, o, e, Nat.lt_of_lt_of_le hlt hb.size, fun t ht => (hb.cell (by exact hlt)).trans (hc t ht)⟩

theorem Row.nil (w : World) : Row w none 0 0 [] := ⟨rfl, Nat.le_refl _, fun _ => rfl, fun h => absurd h (by omega)⟩

/-- The two shapes in which a walk meets it. -/
theorem Row.cases {w : World} {a : Option Addr} {len cap : Nat} {zs : List Int} (h : Row w a len cap zs) :
    (len = 0 ∧ zs = []) ∨ (∃ b o, a = some ⟨b, o, none⟩ ∧ 0 < len ∧ zs.length = len ∧ len ≤ cap ∧ b < w.heap.size ∧ ∀ t, t < len → w.cell? ⟨b, o + t, none⟩ = some (.int .u8 (zs.getD t 0))) := by
  obtain ⟨h1, h2, h3, h4⟩ := h
  by_cases hp : 0 < len
  · obtain ⟨b, o, e, hlt, hc⟩ := h4 hp
    exact .inr ⟨b, o, e, hp, h1, h2, hlt, hc⟩
  · exact .inl ⟨by omega, List.eq_nil_of_length_eq_zero (by omega)⟩

/-- A row that the call owns, read as a slice value. -/
theorem Row.of_own {w : World} {base : Nat} {g n cap : Nat} {zs : List Int} (h : w.ownsRow base 5 1 (.slice (some ⟨g, 0, none⟩) n cap) n (zs.map (Value.int .u8))) : Row w (some ⟨g, 0, none⟩) n cap zs := by
  have hlen : zs.length = n := by have := h.1; simpa using this
  have hcap : n ≤ cap := by
    rcases h.2 with ⟨h', _⟩ | ⟨g', cap', cur, h', _, _, hn, _⟩
    · simp at h'
    · simp only [Value.slice.injEq] at h'
      obtain ⟨_, _, rfl⟩ := h'
      exact hn
  refine ⟨hlen, hcap, (fun e => by cases e), fun hp => ⟨g, 0, rfl, (h.lt g rfl).2, fun t ht => ?_⟩⟩
  have := h.cellAt t (by omega)
  rw [Nat.zero_add, this]
  simp [List.getElem?_eq_getElem (show t < zs.length by omega), List.getD]

/-- The same, whatever its shape. -/
theorem Row.of_owns {w : World} {base : Nat} {v : Value} {n : Nat} {zs : List Int} (h : w.ownsRow base 5 1 v n (zs.map (Value.int .u8))) : ∃ a cap, v = .slice a n cap ∧ Row w a n cap zs := by
  rcases h.2 with ⟨h', h0⟩ | ⟨g', cap', cur, h', _, _, hn, _⟩
  · subst h0
    have : zs = [] := List.eq_nil_of_length_eq_zero (by have := h.1; simpa using this)
    subst this
    exact ⟨none, 0, h', Row.nil w⟩
  · subst h'
    exact ⟨_, _, rfl, Row.of_own h⟩

end Go.Proofs.Qxb6606438a
