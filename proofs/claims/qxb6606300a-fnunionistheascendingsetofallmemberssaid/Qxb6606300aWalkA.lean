import Derived.Test.Qxb6606300aView
import Derived.WalkSpells
namespace Go.Proofs.Qxb6606300a
open Go.RowKit

set_option maxHeartbeats 400000 in
/-- zzAscending. -/
theorem asc_any (a : Option Addr) (len cap : Nat) (zs : List Int) (w : World) (h : Row w a len cap zs) (hm : len ≤ 1125899906842624) :
    Calls Try.prog 8 #[.slice a len cap] w fun e w' => e = .returned (.bool (ascB zs)) ∧ Below w.heap.size w w' := by
  rcases h.cases with ⟨rfl, rfl⟩ | ⟨b, o, rfl, hp, hl, hc, hb, hcell⟩
  · go_enter Try.func8, Try.ntmps8
    go_wp2
    refine wp_loop_rounds 1 ?_
    rw [rounds_succ]
    go_wp2
    go_ret
    exact ⟨rfl, Below.refl _ _⟩
  clear h
  go_enter Try.func8, Try.ntmps8
  go_wp2
  go_loopw [3] (fun i wr => ∃ k : Nat, 1 ≤ k ∧ i = .int .i64 k ∧ k ≤ len ∧ (∀ m, 1 ≤ m → m < k → zs[m - 1]?.getD 0 < zs[m]?.getD 0) ∧ Below w.heap.size w wr)
    (fun i _ => len - (intOf i).toNat)
  case atStart => exact ⟨1, Nat.le_refl _, rfl, by omega, fun m h1 h2 => absurd h1 (by omega), Below.refl _ _⟩
  case round =>
    obtain ⟨k, hk1, rfl, hk, hst, hbel⟩ := hrel
    have HS : Hid (∀ m, 1 ≤ m → m < k → zs[m - 1]?.getD 0 < zs[m]?.getD 0) := hst
    clear hst
    by_cases hlt : k < len
    · obtain ⟨x, hx⟩ : ∃ x, x = zs[k]?.getD 0 := ⟨_, rfl⟩
      obtain ⟨y, hy⟩ : ∃ y, y = zs[k - 1]?.getD 0 := ⟨_, rfl⟩
      have c1 : wr.cell? ⟨b, o + k, none⟩ = some (.int .u64 x) := by rw [hx]; exact (hbel.cell (by exact hb)).trans (hcell k hlt)
      have c0 : wr.cell? ⟨b, o + (k - 1), none⟩ = some (.int .u64 y) := by rw [hy]; exact (hbel.cell (by exact hb)).trans (hcell (k - 1) (by omega))
      have HX : Hid (x = zs[k]?.getD 0 ∧ y = zs[k - 1]?.getD 0 ∧ zs.length = len) := ⟨hx, hy, hl⟩
      clear hx hy hl hcell
      by_cases hxy : x ≤ y
      · go_wp2
        go_region
        all_goals go_wp2
        go_ret
        obtain ⟨hx, hy, hl⟩ := HX.out
        refine ⟨?_, hbel.drew⟩
        rw [ascB_false k hk1 (by omega) (by omega)]
        rfl
      · go_wp2
        go_region
        all_goals go_wp2
        obtain ⟨hx, hy, hl⟩ := HX.out
        go_roundw
        case rel =>
          refine ⟨k + 1, by omega, by go_num, by omega, fun m h1 h2 => ?_, hbel.drew⟩
          by_cases e : m = k
          · subst e; omega
          · exact HS.out m h1 (by omega)
        case measure => simp [intOf]; omega
    · go_wp2
      go_ret
      refine ⟨?_, hbel⟩
      rw [ascB_true (asc_of_steps zs fun m h1 h2 => HS.out m h1 (by omega))]
      rfl

set_option maxHeartbeats 400000 in
/-- zzSame, of rows that hold the same. -/
theorem same_any (a a' : Option Addr) (len cap cap' : Nat) (zs : List Int) (w : World) (h : Row w a len cap zs) (h' : Row w a' len cap' zs) (hm : len ≤ 1125899906842624) :
    Calls Try.prog 11 #[.slice a len cap, .slice a' len cap'] w fun e w' => e = .returned (.bool true) ∧ Below w.heap.size w w' := by
  rcases h.cases with ⟨rfl, rfl⟩ | ⟨b, o, rfl, hp, hl, hc, hb, hcell⟩
  · go_enter Try.func11, Try.ntmps11
    go_wp2
    refine wp_loop_rounds 1 ?_
    rw [rounds_succ]
    go_wp2
    go_ret
    exact ⟨rfl, Below.refl _ _⟩
  rcases h'.cases with ⟨rfl, rfl⟩ | ⟨b', o', rfl, hp', hl', hc', hb', hcell'⟩
  · omega
  clear h h'
  go_enter Try.func11, Try.ntmps11
  go_wp2
  go_loopw [5] (fun i wr => ∃ k : Nat, i = .int .i64 k ∧ k ≤ len ∧ Below w.heap.size w wr)
    (fun i _ => len - (intOf i).toNat)
  case atStart => exact ⟨0, rfl, by omega, Below.refl _ _⟩
  case round =>
    obtain ⟨k, rfl, hk, hbel⟩ := hrel
    by_cases hlt : k < len
    · obtain ⟨x, hx⟩ : ∃ x, x = zs[k]?.getD 0 := ⟨_, rfl⟩
      have c1 : wr.cell? ⟨b, o + k, none⟩ = some (.int .u64 x) := by rw [hx]; exact (hbel.cell (by exact hb)).trans (hcell k hlt)
      have c0 : wr.cell? ⟨b', o' + k, none⟩ = some (.int .u64 x) := by rw [hx]; exact (hbel.cell (by exact hb')).trans (hcell' k hlt)
      clear hx hl hcell hl' hcell'
      go_wp2
      go_region
      all_goals go_wp2
      go_roundw
      case rel => exact ⟨k + 1, by go_num, by omega, hbel.drew⟩
      case measure => simp [intOf]; omega
    · go_wp2
      go_ret
      exact ⟨rfl, hbel⟩

set_option maxHeartbeats 400000 in
/-- zzBytes of the law on two. -/
theorem bytes17_any (a a' : Option Addr) (len len' cap cap' : Nat) (w : World) (hm : len ≤ 9223372036854775807) (hm' : len' ≤ 9223372036854775807) :
    Calls Try.prog 17 #[.slice a len cap, .slice a' len' cap'] w fun e w' => (∃ x, e = .returned (.bool x)) ∧ w' = w := by
  go_enter Try.func17, Try.ntmps17
  go_wp2
  all_goals
    go_ret
    exact ⟨⟨_, rfl⟩, rfl⟩

end Go.Proofs.Qxb6606300a
