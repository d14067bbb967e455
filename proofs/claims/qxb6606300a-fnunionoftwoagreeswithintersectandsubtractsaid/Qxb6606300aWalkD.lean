import Derived.Test.Qxb6606300aView
import Derived.WalkSpells
namespace Go.Proofs.Qxb6606300a
open Go.RowKit

set_option maxHeartbeats 1600000 in
/-- subtract. -/
theorem subtract_any (a : Option Addr) (la ca : Nat) (A : List Int) (b : Option Addr) (lb cb : Nat) (B : List Int) (w : World) (hA : Row w a la ca A) (hB : Row w b lb cb B) (hma : la ≤ 2097152) (hmb : lb ≤ 2097152) :
    Calls Try.prog 19 #[.slice a la ca, .slice b lb cb] w fun e w' => ∃ a' n cap', e = .returned (.slice a' n cap') ∧ Row w' a' n cap' (sb A B) ∧ Below w.heap.size w w' := by
  obtain ⟨i0, hi, hz0, hz1, hz2⟩ := info_parts Try.info33
  have HA : Hid (A.length = la ∧ B.length = lb) := ⟨hA.1, hB.1⟩
  go_enter Try.func19, Try.ntmps19
  go_wp2_with (at_make; refine wpList_make_own _ rfl _ _ 22 rfl w.heap.size 33 i0 (.int .u64 0) 1 Try.underlying22 hi hz0 hz1 _ _ _ la rfl rfl (by omega) (by rw [hz2]; omega) (by unfold maxLen; omega) (Nat.le_refl _) ?_; intro w0 hown0 hgrow0)
  have hbel0 : Below w.heap.size w w0 := (Below.refl _ _).grown hgrow0 (Nat.le_refl _) (fun k h => by cases h)
  clear hgrow0
  go_loopw [5, 6, 14] (fun out sj si wr => ∃ (i j n : Nat) (xs : List Int), i ≤ la ∧ j ≤ lb ∧ si = .int .i64 i ∧ sj = .int .i64 j ∧ out = .slice (some ⟨w.heap.size, 0, none⟩) n la ∧ wr.ownsRow w.heap.size 33 1 (.slice (some ⟨w.heap.size, 0, none⟩) n la) n (xs.map (Value.int .u64)) ∧ n ≤ i ∧ Hid (xs ++ sb (A.drop i) (B.drop j) = sb A B) ∧ Below w.heap.size w wr)
    (fun _ _ si _ => la - (intOf si).toNat)
  case atStart => exact ⟨0, 0, 0, [], Nat.zero_le _, Nat.zero_le _, rfl, rfl, rfl, hown0, Nat.le_refl _, by simp [Hid], hbel0⟩
  case round =>
    clear hown0 hbel0
    obtain ⟨i, j0, n, xs, hil, hjl, rfl, rfl, rfl, hown, hn, HX, hbel⟩ := hrel
    by_cases hi' : i < la
    · obtain ⟨ba, oa, rfl, hba, hca⟩ := hA.2.2.2 (by omega)
      obtain ⟨x, hx⟩ : ∃ x, x = A[i]?.getD 0 := ⟨_, rfl⟩
      have c1 : wr.cell? ⟨ba, oa + i, none⟩ = some (.int .u64 x) := by rw [hx]; exact (hbel.cell (by exact hba)).trans (hca i hi')
      have HH : Hid (x = A[i]?.getD 0) := hx
      clear hx hca
      go_wp2
      go_loop [6] (fun sj => ∃ j : Nat, j ≤ lb ∧ sj = .int .i64 j ∧ Hid (dw x (B.drop j) = dw x (B.drop j0))) (fun sj => lb - (intOf sj).toNat)
      case atStart => exact ⟨j0, hjl, rfl, rfl⟩
      case round =>
        obtain ⟨j, hj, rfl, HD⟩ := hrel
        by_cases hj' : j < lb
        · obtain ⟨bb, ob, rfl, hbb, hcb⟩ := hB.2.2.2 (by omega)
          obtain ⟨y, hy⟩ : ∃ y, y = B[j]?.getD 0 := ⟨_, rfl⟩
          have c2 : wr.cell? ⟨bb, ob + j, none⟩ = some (.int .u64 y) := by rw [hy]; exact (hbel.cell (by exact hbb)).trans (hcb j hj')
          have HY : Hid (y = B[j]?.getD 0) := hy
          clear hy hcb hA hB
          rcases (show y < x ∨ x < y ∨ x = y from by omega) with hxy | hxy | hxy
          · go_wp2
            have hy := HY.out
            obtain ⟨eA, eB⟩ := HA.out
            go_round
            case rel => exact ⟨j + 1, by omega, by go_num, (dw_lt (by omega) (by omega)).trans HD.out⟩
            case measure => simp [intOf]; omega
          · have hne : (y != x) = true := by simp only [bne_iff_ne, ne_eq]; omega
            have hje : ((j : Int) == (lb : Int)) = false := by simp only [beq_eq_false_iff_ne, ne_eq]; omega
            go_wp2_with (at_builtin; refine wpList_append_fits _ rfl _ _ 22 rfl w.heap.size 33 i0 1 Try.underlying22 hi hz1 w.heap.size n la _ rfl (hown.alloc _) ⟨wr.heap.size, 0, none⟩ 1 1 [.int .u64 x] rfl rfl (cell_one_new _ _ _) (by intro u hu; simp at hu; subst hu; rfl) (by omega) ?_; intro w1 hown1 hgrow1)
            have hy := HY.out
            have hx := HH.out
            obtain ⟨eA, eB⟩ := HA.out
            have hd := HD.out
            rw [dw_end (by omega)] at hd
            go_roundw
            case rel => exact ⟨i + 1, j, n + 1, xs ++ [x], by omega, by omega, by go_num, rfl, rfl, by simpa using hown1, by omega, by subst hx; exact sb_keep HX.out (by omega) hd.symm (by omega), (hbel.alloc hbel.size _).grown hgrow1 (by simp; have := hbel.size; omega) (fun k hk => by cases hk; exact Nat.le_refl _)⟩
            case measure => simp [intOf]; omega
          · subst hxy
            go_wp2
            have hy := HY.out
            have hx := HH.out
            obtain ⟨eA, eB⟩ := HA.out
            have hd := HD.out
            rw [dw_end (by omega)] at hd
            go_roundw
            case rel => exact ⟨i + 1, j, n, xs, by omega, by omega, by go_num, rfl, rfl, hown, by omega, sb_drop HX.out (by omega) (by rw [← hx]; exact hd.symm) (by omega) (by omega), hbel⟩
            case measure => simp [intOf]; omega
        · go_wp2_with (at_builtin; refine wpList_append_fits _ rfl _ _ 22 rfl w.heap.size 33 i0 1 Try.underlying22 hi hz1 w.heap.size n la _ rfl (hown.alloc _) ⟨wr.heap.size, 0, none⟩ 1 1 [.int .u64 x] rfl rfl (cell_one_new _ _ _) (by intro u hu; simp at hu; subst hu; rfl) (by omega) ?_; intro w1 hown1 hgrow1)
          have hx := HH.out
          obtain ⟨eA, eB⟩ := HA.out
          have hd := HD.out
          rw [dw_end (by omega)] at hd
          go_roundw
          case rel => exact ⟨i + 1, j, n + 1, xs ++ [x], by omega, by omega, by go_num, by go_num, rfl, by simpa using hown1, by omega, by subst hx; exact sb_keep HX.out (by omega) hd.symm (by omega), (hbel.alloc hbel.size _).grown hgrow1 (by simp; have := hbel.size; omega) (fun k hk => by cases hk; exact Nat.le_refl _)⟩
          case measure => simp [intOf]; omega
    · go_wp2
      go_ret
      obtain ⟨eA, eB⟩ := HA.out
      have he : xs = sb A B := by
        have := HX.out
        rw [List.drop_eq_nil_of_le (show A.length ≤ i by omega)] at this
        simpa [sb] using this
      subst he
      exact ⟨_, _, _, rfl, Row.of_own hown, hbel⟩

/-- ZZSubtract. -/
theorem zzSubtract_any (a : Option Addr) (la ca : Nat) (A : List Int) (b : Option Addr) (lb cb : Nat) (B : List Int) (w : World) (hA : Row w a la ca A) (hB : Row w b lb cb B) (hma : la ≤ 2097152) (hmb : lb ≤ 2097152) :
    Calls Try.prog 10 #[.slice a la ca, .slice b lb cb] w fun e w' => ∃ a' n cap', e = .returned (.slice a' n cap') ∧ Row w' a' n cap' (sb A B) ∧ Below w.heap.size w w' := by
  go_enter Try.func10, Try.ntmps10
  go_wp2_with (go_at_call 19; refine (subtract_any _ _ _ A _ _ _ B _ hA hB hma hmb).mono ?_; rintro e w' ⟨a', n, cap', rfl, hr, hb⟩)
  go_ret
  exact ⟨_, _, _, rfl, hr, hb⟩
end Go.Proofs.Qxb6606300a
