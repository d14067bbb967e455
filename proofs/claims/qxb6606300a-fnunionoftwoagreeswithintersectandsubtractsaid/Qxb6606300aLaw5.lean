import Derived.Test.Qxb6606300aWalkA
import Derived.Test.Qxb6606300aWalkB
import Derived.Test.Qxb6606300aWalkC
import Derived.Test.Qxb6606300aWalkD
import Derived.Test.Qxb6606300aWalkE
namespace Go.Proofs.Qxb6606300a
open Go.RowKit

theorem two_lists {w : World} {a b : Option Addr} {la ca lb cb : Nat} {A B : List Int} (hA : Row w a la ca A) (hB : Row w b lb cb B) :
    Rows2 (w.alloc (.cells #[.slice a la ca, .slice b lb cb] 22)) (some ⟨w.heap.size, 0, none⟩) 2 2 [A, B] := by
  have hb : Below w.heap.size w (w.alloc (.cells #[.slice a la ca, .slice b lb cb] 22)) := (Below.refl _ _).alloc (Nat.le_refl _) _
  refine ⟨rfl, Nat.le_refl _, (fun e => by cases e), fun _ => ⟨w.heap.size, 0, rfl, by simp, fun t ht => ?_⟩⟩
  match t, ht with
  | 0, _ => exact ⟨a, la, ca, by simp, hA.below hb⟩
  | 1, _ => exact ⟨b, lb, cb, by simp, hB.below hb⟩

set_option maxHeartbeats 1600000 in
theorem law5 (a : Option Addr) (la ca : Nat) (A : List Int) (b : Option Addr) (lb cb : Nat) (B : List Int) (w : World) (hA : Row w a la ca A) (hB : Row w b lb cb B) (hma : la ≤ maxLen) (hmb : lb ≤ maxLen) :
    Calls Try.prog 5 #[.slice a la ca, .slice b lb cb] w fun e w' => e = .returned (.bool true) ∧ Below w.heap.size w w' := by
  unfold maxLen at hma hmb
  go_enter Try.func5, Try.ntmps5
  go_wp2_with fail
  refine (bytes17_any _ _ _ _ _ _ _ hma hmb).mono ?_
  rintro e w' ⟨⟨x, rfl⟩, rfl⟩
  cases x with
  | false =>
    go_wp2_with fail
    go_ret
    exact ⟨rfl, Below.refl _ _⟩
  | true =>
  by_cases h0 : 65536 < la
  · go_wp2_with fail
    go_ret
    exact ⟨rfl, Below.refl _ _⟩
  by_cases h1 : 65536 < lb
  · go_wp2_with fail
    go_ret
    exact ⟨rfl, Below.refl _ _⟩
  have k0 := asc_any a la ca A w' hA (by omega)
  go_wp2_with fail
  by_cases hAs : ascB A = true
  case neg =>
    have e0 : ascB A = false := by simpa using hAs
    rw [e0] at k0
    refine k0.mono ?_
    rintro e w1 ⟨rfl, hb1⟩
    go_wp2_with fail
    go_ret
    exact ⟨rfl, hb1⟩
  rw [hAs] at k0
  refine k0.mono ?_
  rintro e w1 ⟨rfl, hb1⟩
  clear k0
  have k1 := asc_any b lb cb B w1 (hB.below hb1) (by omega)
  go_wp2_with fail
  by_cases hBs : ascB B = true
  case neg =>
    have e0 : ascB B = false := by simpa using hBs
    rw [e0] at k1
    refine k1.mono ?_
    rintro e w2 ⟨rfl, hb2⟩
    go_wp2_with fail
    go_ret
    exact ⟨rfl, hb1.trans (hb2.mono hb1.size)⟩
  rw [hBs] at k1
  refine k1.mono ?_
  rintro e w2 ⟨rfl, hb2⟩
  clear k1
  have hA2 : Row w2 a la ca A := (hA.below hb1).below hb2
  have hB2 : Row w2 b lb cb B := (hB.below hb1).below hb2
  have B2 : Hid (Below w'.heap.size w' w2) := hb1.trans (hb2.mono hb1.size)
  clear hA hB hb1 hb2
  go_wp2_with fail
  refine (clone_any a la ca A w2 hA2 (by omega)).mono ?_
  rintro e w3 ⟨a3, c3, rfl, hA3, hb3⟩
  have hB3 := hB2.below hb3
  have B3 : Hid (Below w'.heap.size w' w3) := B2.out.trans (hb3.mono B2.out.size)
  clear hA2 hB2 hb3 B2
  go_wp2_with fail
  refine (clone_any b lb cb B w3 hB3 (by omega)).mono ?_
  rintro e w4 ⟨b4, c4, rfl, hB4, hb4⟩
  have hA4 := hA3.below hb4
  have B4 : Hid (Below w'.heap.size w' w4) := B3.out.trans (hb4.mono B3.out.size)
  clear hA3 hB3 hb4 B3
  have hL := two_lists hA4 hB4
  have hU : un 2 [A, B] = mg A B := by rw [un_two 1 _ (by simp)]; simp [un]
  have hAl : A.length = la := hA4.1
  have hBl : B.length = lb := hB4.1
  have hT : total [A, B] ≤ 1048576 := by simp [total]; omega
  have HL : Hid (A.length = la ∧ B.length = lb) := ⟨hAl, hBl⟩
  have hB5 := hB4.below ((Below.refl _ _).alloc (Nat.le_refl _) (.cells #[.slice a3 la c3, .slice b4 lb c4] 22))
  have hA5 := hA4.below ((Below.refl _ _).alloc (Nat.le_refl _) (.cells #[.slice a3 la c3, .slice b4 lb c4] 22))
  have kU := zzUnion_any 2 _ 2 2 [A, B] _ hL (by omega) (by omega) hT
  rw [hU] at kU
  clear hL hU hAl hBl hT hA4 hB4
  go_wp2_with fail
  refine kU.mono ?_
  rintro e w5 ⟨a5, n5, c5, rfl, hU5, hb5⟩
  have hA6 := hA5.below hb5
  have hB6 := hB5.below hb5
  have B5 : Hid (Below w'.heap.size w' w5) := (B4.out.alloc B4.out.size _).trans (hb5.mono (by have := B4.out.size; simp; omega))
  clear kU hA5 hB5 hb5 B4
  go_wp2_with fail
  refine (zzIntersect_any a3 la c3 A b4 lb c4 B w5 hA6 hB6 (by omega) (by omega)).mono ?_
  rintro e w6 ⟨a6, n6, c6, rfl, hI6, hb6⟩
  have hA7 := hA6.below hb6
  have hB7 := hB6.below hb6
  have hU7 := hU5.below hb6
  have B6 : Hid (Below w'.heap.size w' w6) := B5.out.trans (hb6.mono B5.out.size)
  have hn5 := hU5.1
  have hn6 := hI6.1
  have hlen := mg_it_length A B
  have hsum : (n5 : Int) + (n6 : Int) = (la : Int) + (lb : Int) := by have := HL.out; omega
  have hn5b : n5 ≤ 131072 := by omega
  have hn6b : n6 ≤ 131072 := by omega
  have hne : ((n5 : Int) + (n6 : Int) != (la : Int) + (lb : Int)) = false := by rw [hsum]; simp
  clear hA6 hB6 hU5 hI6 hb6 B5 hn5 hn6 hlen hsum
  go_wp2_with fail
  have hAa := asc_of_true hAs
  have hBa := asc_of_true hBs
  have E1 : Hid (sb (mg A B) A = sb B A) := sb_mg_left A B hAa hBa
  have E2 : Hid (sb (mg A B) B = sb A B) := sb_mg_right A B hAa hBa
  clear hAa hBa hAs hBs
  refine (zzSubtract_any a5 n5 c5 (mg A B) a3 la c3 A w6 hU7 hA7 (by omega) (by omega)).mono ?_
  rintro e w7 ⟨a7, n7, c7, rfl, hS7, hb7⟩
  rw [E1.out] at hS7
  have hA8 := hA7.below hb7
  have hB8 := hB7.below hb7
  have hU8 := hU7.below hb7
  have B7 : Hid (Below w'.heap.size w' w7) := B6.out.trans (hb7.mono B6.out.size)
  clear hA7 hB7 hU7 hb7 B6 E1
  go_wp2_with fail
  refine (zzSubtract_any b4 lb c4 B a3 la c3 A w7 hB8 hA8 (by omega) (by omega)).mono ?_
  rintro e w8 ⟨a8, n8, c8, rfl, hS8, hb8⟩
  have hA9 := hA8.below hb8
  have hB9 := hB8.below hb8
  have hU9 := hU8.below hb8
  have hS9 := hS7.below hb8
  have B8 : Hid (Below w'.heap.size w' w8) := B7.out.trans (hb8.mono B7.out.size)
  have hn8 : n8 = n7 := by rw [← hS8.1, ← hS7.1]
  have hn7 : n7 ≤ 65536 := by rw [← hS7.1]; have := (sb_sub B A).length_le; have := HL.out; omega
  subst hn8
  clear hA8 hB8 hU8 hS7 hb8 B7
  go_wp2_with fail
  refine (same_any a7 a8 n8 c7 c8 (sb B A) w8 hS9 hS8 (by omega)).mono ?_
  rintro e w9 ⟨rfl, hb9⟩
  have hA10 := hA9.below hb9
  have hB10 := hB9.below hb9
  have hU10 := hU9.below hb9
  have B9 : Hid (Below w'.heap.size w' w9) := B8.out.trans (hb9.mono B8.out.size)
  clear hA9 hB9 hU9 hS9 hS8 hb9 B8
  go_wp2_with fail
  refine (zzSubtract_any a5 n5 c5 (mg A B) b4 lb c4 B w9 hU10 hB10 (by omega) (by omega)).mono ?_
  rintro e w10 ⟨a10, n10, c10, rfl, hS10, hb10⟩
  rw [E2.out] at hS10
  have hA11 := hA10.below hb10
  have hB11 := hB10.below hb10
  have B10 : Hid (Below w'.heap.size w' w10) := B9.out.trans (hb10.mono B9.out.size)
  clear hA10 hB10 hU10 hb10 B9 E2
  go_wp2_with fail
  refine (zzSubtract_any a3 la c3 A b4 lb c4 B w10 hA11 hB11 (by omega) (by omega)).mono ?_
  rintro e w11 ⟨a11, n11, c11, rfl, hS11, hb11⟩
  have hS12 := hS10.below hb11
  have B11 : Hid (Below w'.heap.size w' w11) := B10.out.trans (hb11.mono B10.out.size)
  have hn11 : n11 = n10 := by rw [← hS11.1, ← hS10.1]
  have hn10 : n10 ≤ 65536 := by rw [← hS10.1]; have := (sb_sub A B).length_le; have := HL.out; omega
  subst hn11
  clear hA11 hB11 hS10 hb11 B10
  go_wp2_with fail
  refine (same_any a10 a11 n11 c10 c11 (sb A B) w11 hS12 hS11 (by omega)).mono ?_
  rintro e w12 ⟨rfl, hb12⟩
  go_wp2_with fail
  go_ret
  exact ⟨rfl, B11.out.trans (hb12.mono B11.out.size)⟩
end Go.Proofs.Qxb6606300a
