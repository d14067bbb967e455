import Derived.Test.Qxb6606438aWalkK
import Derived.Test.Qxb6606438aWalkB
namespace Go.Proofs.Qxb6606438a
open Go.RowKit

/-- Bytes being written: a row that lies behind all that wb held. -/
def Own (wb w : World) (g k cap : Nat) (xs : List Int) : Prop :=
  w.ownsRow wb.heap.size 5 1 (.slice (some ⟨g, 0, none⟩) k cap) k (xs.map (Value.int .u8)) ∧ Below wb.heap.size wb w ∧ wb.heap.size ≤ g

theorem Own.len {wb w : World} {g k cap : Nat} {xs : List Int} (h : Own wb w g k cap xs) : xs.length = k := by have := h.1.1; simpa using this
theorem Own.row {wb w : World} {g k cap : Nat} {xs : List Int} (h : Own wb w g k cap xs) : Row w (some ⟨g, 0, none⟩) k cap xs := Row.of_own h.1

theorem Own.made {wb w : World} {n : Nat} (h : w.ownsRow wb.heap.size 5 1 (.slice (some ⟨wb.heap.size, 0, none⟩) 0 n) 0 []) (hg : wb.grownBy w none) : Own wb w wb.heap.size 0 n [] :=
  ⟨h, (Below.refl _ _).grown hg (Nat.le_refl _) (fun k h => by cases h), Nat.le_refl _⟩

/-- One byte is appended. -/
theorem wpList_push {w0 : World} {ops : Array Oper} {rest : List Oper} {o : Oper} {a : Act} {Q : Exit → Act → World → Prop}
    (hg : o.guard = none) (s x : Operand) (hop : o.op = Op.call { callee := Callee.builtin Builtin.append, args := #[s, x], argTypes := #[22, 22] })
    (wb : World) (g k cap : Nat) (xs : List Int) (hs : a.eval s = .slice (some ⟨g, 0, none⟩) k cap) (hown : Own wb w0 g k cap xs) (c : Int) (hx : a.eval x = .slice (some ⟨w0.heap.size, 0, none⟩) 1 1) (b1 : k + 1 ≤ cap)
    (hK : ∀ w', Own wb w' g (k + 1) cap (xs ++ [c]) → wpList Try.prog ops Q rest (a.put o.dst (.slice (some ⟨g, 0, none⟩) (k + 1) cap)) w') :
    wpList Try.prog ops Q (o :: rest) a (w0.alloc (.cells #[.int .u8 c] 5)) := by
  obtain ⟨i0, hi, hz0, hz1, hz2⟩ := info_parts Try.info5
  obtain ⟨h1, h2, h3⟩ := hown
  refine wpList_append_fits _ hg s x 22 hop wb.heap.size 5 i0 1 Try.underlying22 hi hz1 g k cap _ hs (h1.alloc _) ⟨w0.heap.size, 0, none⟩ 1 1 [.int .u8 c] hx rfl (cell_one_new _ _ _) (by intro u hu; simp at hu; subst hu; rfl) b1 ?_
  intro w' hown' hgrow'
  refine hK w' ⟨by simpa using hown', (h2.alloc h2.size _).grown hgrow' (by simp; have := h2.size; omega) (fun k hk => by cases hk; exact h3), h3⟩

/-- A slice is appended. -/
theorem wpList_pushAll {w0 : World} {ops : Array Oper} {rest : List Oper} {o : Oper} {a : Act} {Q : Exit → Act → World → Prop}
    (hg : o.guard = none) (s x : Operand) (hop : o.op = Op.call { callee := Callee.builtin Builtin.append, args := #[s, x], argTypes := #[22, 22] })
    (wb : World) (g k cap : Nat) (xs : List Int) (hs : a.eval s = .slice (some ⟨g, 0, none⟩) k cap) (hown : Own wb w0 g k cap xs) (ao : Option Addr) (m c : Nat) (ys : List Int) (hy : Row wb ao m c ys) (hx : a.eval x = .slice ao m c) (b1 : k + m ≤ cap)
    (hK : ∀ w', Own wb w' g (k + m) cap (xs ++ ys) → wpList Try.prog ops Q rest (a.put o.dst (.slice (some ⟨g, 0, none⟩) (k + m) cap)) w') :
    wpList Try.prog ops Q (o :: rest) a w0 := by
  obtain ⟨i0, hi, hz0, hz1, hz2⟩ := info_parts Try.info5
  obtain ⟨h1, h2, h3⟩ := hown
  have hy' := hy.below h2
  refine wpList_append_fits_any _ hg s x 22 hop wb.heap.size 5 i0 1 Try.underlying22 hi hz1 g k cap _ hs h1 ao m c (ys.map (Value.int .u8)) hx (by have := hy.1; simpa using this) hy.none' hy'.news (ints_oneCell _ _) b1 ?_
  intro w' hown' hgrow'
  refine hK w' ⟨by simpa using hown', h2.grown hgrow' h2.size (fun k hk => by cases hk; exact h3), h3⟩

/-- Some bool came back. -/
def SomeBool (e : Ending) : Prop := ∃ x, e = .returned (.bool x)

set_option maxHeartbeats 400000 in
theorem bytes11_any (a a' : Option Addr) (len len' cap cap' : Nat) (x : Bool) (n : Int) (w : World) (hm : len ≤ 9223372036854775807) (hm' : len' ≤ 9223372036854775807) :
    Calls Try.prog 11 #[.slice a len cap, .slice a' len' cap', .bool x, .int .u8 n] w fun e w' => SomeBool e ∧ w' = w := by
  go_enter Try.func11, Try.ntmps11
  go_wp2
  all_goals
    go_ret
    exact ⟨⟨_, rfl⟩, rfl⟩
theorem tail_below {w' w2 wr w7 w8 : World} {g n cap g' n' cap' : Nat} {xs ys : List Int} (HB2 : Below w'.heap.size w' w2) (HO : Own w2 wr g n cap xs) (HO7 : Own wr w7 g' n' cap' ys) (hb8 : Below w7.heap.size w7 w8) : Below w'.heap.size w' w8 := by
  have h1 := HB2.trans (HO.2.1.mono HB2.size)
  have h2 := h1.trans (HO7.2.1.mono h1.size)
  exact h2.trans (hb8.mono h2.size)

end Go.Proofs.Qxb6606438a
