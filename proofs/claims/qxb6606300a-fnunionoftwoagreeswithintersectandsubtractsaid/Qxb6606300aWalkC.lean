import Derived.Test.Qxb6606300aView
import Derived.WalkSpells
namespace Go.Proofs.Qxb6606300a
open Go.RowKit

set_option maxHeartbeats 1600000 in
/-- intersect. -/
theorem intersect_any (a : Option Addr) (la ca : Nat) (A : List Int) (b : Option Addr) (lb cb : Nat) (B : List Int) (w : World) (hA : Row w a la ca A) (hB : Row w b lb cb B) (hma : la ≤ 1048576) (hmb : lb ≤ 1048576) :
    Calls Try.prog 20 #[.slice a la ca, .slice b lb cb] w fun e w' => ∃ a' n cap', e = .returned (.slice a' n cap') ∧ Row w' a' n cap' (it A B) ∧ Below w.heap.size w w' := by
  obtain ⟨i0, hi, hz0, hz1, hz2⟩ := info_parts Try.info33
  have HA : Hid (A.length = la ∧ B.length = lb) := ⟨hA.1, hB.1⟩
  go_enter Try.func20, Try.ntmps20
  go_wp2
  go_loopw [5, 6, 7] (fun out si sj wr => ∃ (i j n : Nat) (xs : List Int), i ≤ la ∧ j ≤ lb ∧ si = .int .i64 i ∧ sj = .int .i64 j ∧ wr.ownsRow w.heap.size 33 1 out n (xs.map (Value.int .u64)) ∧ n ≤ i ∧ Hid (xs ++ it (A.drop i) (B.drop j) = it A B) ∧ Below w.heap.size w wr)
    (fun _ si sj _ => (la - (intOf si).toNat) + (lb - (intOf sj).toNat))
  case atStart => exact ⟨0, 0, 0, [], Nat.zero_le _, Nat.zero_le _, rfl, rfl, World.ownsRow_nil _ _ _ _, Nat.le_refl _, by simp [Hid], Below.refl _ _⟩
  case round =>
    obtain ⟨i, j, n, xs, hil, hjl, rfl, rfl, hown, hn, HX, hbel⟩ := hrel
    by_cases hlt : i < la ∧ j < lb
    · obtain ⟨hi', hj'⟩ := hlt
      obtain ⟨ba, oa, rfl, hba, hca⟩ := hA.2.2.2 (by omega)
      obtain ⟨bb, ob, rfl, hbb, hcb⟩ := hB.2.2.2 (by omega)
      obtain ⟨x, hx⟩ : ∃ x, x = A[i]?.getD 0 := ⟨_, rfl⟩
      obtain ⟨y, hy⟩ : ∃ y, y = B[j]?.getD 0 := ⟨_, rfl⟩
      have c1 : wr.cell? ⟨ba, oa + i, none⟩ = some (.int .u64 x) := by rw [hx]; exact (hbel.cell (by exact hba)).trans (hca i hi')
      have c2 : wr.cell? ⟨bb, ob + j, none⟩ = some (.int .u64 y) := by rw [hy]; exact (hbel.cell (by exact hbb)).trans (hcb j hj')
      have HH : Hid (x = A[i]?.getD 0 ∧ y = B[j]?.getD 0) := ⟨hx, hy⟩
      clear hx hy hca hcb hA hB
      rcases (show x < y ∨ y < x ∨ x = y from by omega) with hxy | hxy | hxy
      · go_wp2
        go_region
        all_goals go_wp2
        obtain ⟨hx, hy⟩ := HH.out
        obtain ⟨eA, eB⟩ := HA.out
        go_roundw
        case rel => exact ⟨i + 1, j, n, xs, by omega, by omega, by go_num, rfl, hown.drew, by omega, it_lt HX.out (by omega) (by omega) (by omega), hbel.drew⟩
        case measure => simp [intOf]; omega
      · go_wp2
        go_region
        all_goals go_wp2
        go_region
        all_goals go_wp2
        obtain ⟨hx, hy⟩ := HH.out
        obtain ⟨eA, eB⟩ := HA.out
        go_roundw
        case rel => exact ⟨i, j + 1, n, xs, by omega, by omega, rfl, by go_num, hown.drew.drew, by omega, it_gt HX.out (by omega) (by omega) (by omega), hbel.drew.drew⟩
        case measure => simp [intOf]; omega
      · subst hxy
        go_wp2
        go_region
        all_goals go_wp2
        go_region
        all_goals go_wp2_with (at_builtin; refine wpList_append_own _ rfl _ _ 22 rfl w.heap.size 33 i0 (.int .u64 0) 1 8 Try.underlying22 hi hz0 hz1 hz2 rfl (by decide) _ n _ rfl (hown.alloc _).drew.drew ⟨wr.heap.size, 0, none⟩ 1 1 [.int .u64 x] rfl rfl ?_ ?_ (by unfold maxLen; omega) (by omega) ?_ ?_; rotate_right; intro v' w1 hown1 hgrow1 _)
        · obtain ⟨hx, hy⟩ := HH.out
          obtain ⟨eA, eB⟩ := HA.out
          go_roundw
          case rel => exact ⟨i + 1, j + 1, n + 1, xs ++ [x], by omega, by omega, by go_num, by go_num, by simpa using hown1, by omega, by subst hx; exact it_eq HX.out (by omega) (by omega) hy, (hbel.alloc hbel.size _).drew.drew.grown hgrow1 (by simp; have := hbel.size; omega) (fun k hk => (hown.lt k hk).1)⟩
          case measure => simp [intOf]; omega
        · intro t u ht
          match t, ht with
          | 0, ht => simp at ht; subst ht; simp [Addr.add]
        · intro u hu; simp at hu; subst hu; rfl
        · have := hbel.size; simp; omega
    · by_cases hi' : i < la
      · have hj' : ¬ j < lb := fun h => hlt ⟨hi', h⟩
        go_wp2
        go_ret
        obtain ⟨eA, eB⟩ := HA.out
        obtain ⟨a', cap', rfl, hr⟩ := Row.of_owns hown
        rw [it_end HX.out (by omega)] at hr
        exact ⟨_, _, _, rfl, hr, hbel⟩
      · go_wp2
        go_ret
        obtain ⟨eA, eB⟩ := HA.out
        obtain ⟨a', cap', rfl, hr⟩ := Row.of_owns hown
        rw [it_end HX.out (by omega)] at hr
        exact ⟨_, _, _, rfl, hr, hbel⟩

/-- ZZIntersect. -/
theorem zzIntersect_any (a : Option Addr) (la ca : Nat) (A : List Int) (b : Option Addr) (lb cb : Nat) (B : List Int) (w : World) (hA : Row w a la ca A) (hB : Row w b lb cb B) (hma : la ≤ 1048576) (hmb : lb ≤ 1048576) :
    Calls Try.prog 12 #[.slice a la ca, .slice b lb cb] w fun e w' => ∃ a' n cap', e = .returned (.slice a' n cap') ∧ Row w' a' n cap' (it A B) ∧ Below w.heap.size w w' := by
  go_enter Try.func12, Try.ntmps12
  go_wp2_with (go_at_call 20; refine (intersect_any _ _ _ A _ _ _ B _ hA hB hma hmb).mono ?_; rintro e w' ⟨a', n, cap', rfl, hr, hb⟩)
  go_ret
  exact ⟨_, _, _, rfl, hr, hb⟩
end Go.Proofs.Qxb6606300a
