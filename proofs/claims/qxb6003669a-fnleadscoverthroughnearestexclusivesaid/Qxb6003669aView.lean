import Derived.Test.Qxb6003669aProg
import Derived.WalkKit
namespace Go.Proofs.Qxb6003669a
open Go.RowKit

theorem Try.info9 : (Try.prog.info? 9).map (fun i => (i.zero, i.size, i.bytes)) = some (some (.string ByteArray.empty), 1, 16) := by kernel_rfl
theorem Try.info4 : (Try.prog.info? 4).map (fun i => (i.zero, i.size, i.bytes)) = some (some (.bool false), 1, 1) := by kernel_rfl


/-- A slice value whose elements are the strings zs, as the world w holds them. -/
def SRow (w : World) (a : Option Addr) (len cap : Nat) (zs : List ByteArray) : Prop :=
  zs.length = len ∧ len ≤ cap ∧ (a = none → cap = 0) ∧
    (0 < len → ∃ b o, a = some ⟨b, o, none⟩ ∧ b < w.heap.size ∧ ∀ t, t < len → w.cell? ⟨b, o + t, none⟩ = some (.string (zs.getD t ByteArray.empty)))

theorem SRow.below {w w' : World} {a : Option Addr} {len cap : Nat} {zs : List ByteArray} (h : SRow w a len cap zs) (hb : Below w.heap.size w w') : SRow w' a len cap zs := by
  obtain ⟨h1, h2, h3, h4⟩ := h
  refine ⟨h1, h2, h3, fun hp => ?_⟩
  obtain ⟨b, o, e, hlt, hc⟩ := h4 hp
  exact ⟨b, o, e, Nat.lt_of_lt_of_le hlt hb.size, fun t ht => (hb.cell (by exact hlt)).trans (hc t ht)⟩

theorem SRow.nil (w : World) : SRow w none 0 0 [] := ⟨rfl, Nat.le_refl _, fun _ => rfl, fun h => absurd h (by omega)⟩

/-- The two shapes in which a walk meets it. -/
theorem SRow.cases {w : World} {a : Option Addr} {len cap : Nat} {zs : List ByteArray} (h : SRow w a len cap zs) :
    (len = 0 ∧ zs = []) ∨ (∃ b o, a = some ⟨b, o, none⟩ ∧ 0 < len ∧ zs.length = len ∧ len ≤ cap ∧ b < w.heap.size ∧ ∀ t, t < len → w.cell? ⟨b, o + t, none⟩ = some (.string (zs.getD t ByteArray.empty))) := by
  obtain ⟨h1, h2, h3, h4⟩ := h
  by_cases hp : 0 < len
  · obtain ⟨b, o, e, hlt, hc⟩ := h4 hp
    exact .inr ⟨b, o, e, hp, h1, h2, hlt, hc⟩
  · exact .inl ⟨by omega, List.eq_nil_of_length_eq_zero (by omega)⟩

/-- A row that the call owns, read as a slice value. -/
theorem SRow.of_own {w : World} {base : Nat} {g n cap : Nat} {zs : List ByteArray} (h : w.ownsRow base 9 1 (.slice (some ⟨g, 0, none⟩) n cap) n (zs.map Value.string)) : SRow w (some ⟨g, 0, none⟩) n cap zs := by
  have hlen : zs.length = n := by have := h.1; simpa using this
  have hcap : n ≤ cap := by
    rcases h.2 with ⟨h', _⟩ | ⟨g', cap', cur, h', _, _, hn, _⟩
    · simp at h'
    · simp only [Value.slice.injEq] at h'
      obtain ⟨_, _, rfl⟩ := h'
      exact hn
  refine ⟨hlen, hcap, (fun e => by cases e), fun hp => ⟨g, 0, rfl, (h.lt g rfl).2, fun t ht => ?_⟩⟩
  have := h.cellAt t (by omega)
  rw [Nat.zero_add, this]
  simp [List.getElem?_eq_getElem (show t < zs.length by omega), List.getD]

/-- The same, whatever its shape. -/
theorem SRow.of_owns {w : World} {base : Nat} {v : Value} {n : Nat} {zs : List ByteArray} (h : w.ownsRow base 9 1 v n (zs.map Value.string)) : ∃ a cap, v = .slice a n cap ∧ SRow w a n cap zs := by
  rcases h.2 with ⟨h', h0⟩ | ⟨g', cap', cur, h', _, _, hn, _⟩
  · subst h0
    have : zs = [] := List.eq_nil_of_length_eq_zero (by have := h.1; simpa using this)
    subst this
    exact ⟨none, 0, h', SRow.nil w⟩
  · subst h'
    exact ⟨_, _, rfl, SRow.of_own h⟩


/-- A slice value whose elements are the bools zs, as the world w holds them. -/
def BRow (w : World) (a : Option Addr) (len cap : Nat) (zs : List Bool) : Prop :=
  zs.length = len ∧ len ≤ cap ∧ (a = none → cap = 0) ∧
    (0 < len → ∃ b o, a = some ⟨b, o, none⟩ ∧ b < w.heap.size ∧ ∀ t, t < len → w.cell? ⟨b, o + t, none⟩ = some (.bool (zs.getD t false)))

theorem BRow.below {w w' : World} {a : Option Addr} {len cap : Nat} {zs : List Bool} (h : BRow w a len cap zs) (hb : Below w.heap.size w w') : BRow w' a len cap zs := by
  obtain ⟨h1, h2, h3, h4⟩ := h
  refine ⟨h1, h2, h3, fun hp => ?_⟩
  obtain ⟨b, o, e, hlt, hc⟩ := h4 hp
  exact ⟨b, o, e, Nat.lt_of_lt_of_le hlt hb.size, fun t ht => (hb.cell (by exact hlt)).trans (hc t ht)⟩

theorem BRow.nil (w : World) : BRow w none 0 0 [] := ⟨rfl, Nat.le_refl _, fun _ => rfl, fun h => absurd h (by omega)⟩

/-- The two shapes in which a walk meets it. -/
theorem BRow.cases {w : World} {a : Option Addr} {len cap : Nat} {zs : List Bool} (h : BRow w a len cap zs) :
    (len = 0 ∧ zs = []) ∨ (∃ b o, a = some ⟨b, o, none⟩ ∧ 0 < len ∧ zs.length = len ∧ len ≤ cap ∧ b < w.heap.size ∧ ∀ t, t < len → w.cell? ⟨b, o + t, none⟩ = some (.bool (zs.getD t false))) := by
  obtain ⟨h1, h2, h3, h4⟩ := h
  by_cases hp : 0 < len
  · obtain ⟨b, o, e, hlt, hc⟩ := h4 hp
    exact .inr ⟨b, o, e, hp, h1, h2, hlt, hc⟩
  · exact .inl ⟨by omega, List.eq_nil_of_length_eq_zero (by omega)⟩

/-- A row that the call owns, read as a slice value. -/
theorem BRow.of_own {w : World} {base : Nat} {g n cap : Nat} {zs : List Bool} (h : w.ownsRow base 4 1 (.slice (some ⟨g, 0, none⟩) n cap) n (zs.map Value.bool)) : BRow w (some ⟨g, 0, none⟩) n cap zs := by
  have hlen : zs.length = n := by have := h.1; simpa using this
  have hcap : n ≤ cap := by
    rcases h.2 with ⟨h', _⟩ | ⟨g', cap', cur, h', _, _, hn, _⟩
    · simp at h'
    · simp only [Value.slice.injEq] at h'
      obtain ⟨_, _, rfl⟩ := h'
      exact hn
  refine ⟨hlen, hcap, (fun e => by cases e), fun hp => ⟨g, 0, rfl, (h.lt g rfl).2, fun t ht => ?_⟩⟩
  have := h.cellAt t (by omega)
  rw [Nat.zero_add, this]
  simp [List.getElem?_eq_getElem (show t < zs.length by omega), List.getD]

/-- The same, whatever its shape. -/
theorem BRow.of_owns {w : World} {base : Nat} {v : Value} {n : Nat} {zs : List Bool} (h : w.ownsRow base 4 1 v n (zs.map Value.bool)) : ∃ a cap, v = .slice a n cap ∧ BRow w a n cap zs := by
  rcases h.2 with ⟨h', h0⟩ | ⟨g', cap', cur, h', _, _, hn, _⟩
  · subst h0
    have : zs = [] := List.eq_nil_of_length_eq_zero (by have := h.1; simpa using this)
    subst this
    exact ⟨none, 0, h', BRow.nil w⟩
  · subst h'
    exact ⟨_, _, rfl, BRow.of_own h⟩

theorem beq_of_ne' {α : Type} [BEq α] [LawfulBEq α] {x y : α} (h : x ≠ y) : (x == y) = false := by simp [h]
theorem bne_of' {α : Type} [BEq α] [LawfulBEq α] {x y : α} (h : x ≠ y) : (x != y) = true := by simp [h]
theorem SRow.at {w : World} {a : Option Addr} {len cap : Nat} {zs : List ByteArray} (h : SRow w a len cap zs) (k : Nat) (hk : k < len) :
    ∃ b o, a = some ⟨b, o, none⟩ ∧ b < w.heap.size ∧ ∀ t, t < len → w.cell? ⟨b, o + t, none⟩ = some (.string (zs[t]?.getD ByteArray.empty)) := by
  obtain ⟨b, o, e, hlt, hc⟩ := h.2.2.2 (by omega)
  exact ⟨b, o, e, hlt, fun t ht => by rw [hc t ht]; simp [List.getD]⟩
theorem BRow.at {w : World} {a : Option Addr} {len cap : Nat} {zs : List Bool} (h : BRow w a len cap zs) (k : Nat) (hk : k < len) :
    ∃ b o, a = some ⟨b, o, none⟩ ∧ b < w.heap.size ∧ ∀ t, t < len → w.cell? ⟨b, o + t, none⟩ = some (.bool (zs[t]?.getD false)) := by
  obtain ⟨b, o, e, hlt, hc⟩ := h.2.2.2 (by omega)
  exact ⟨b, o, e, hlt, fun t ht => by rw [hc t ht]; simp [List.getD]⟩
end Go.Proofs.Qxb6003669a
