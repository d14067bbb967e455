import Derived.Test.Qxb6606300aHit
import Derived.WalkSpells
namespace Go.Proofs.Qxb6606300a
open Go.RowKit

set_option maxHeartbeats 400000 in
/-- zzFind of a member of an ascending row. -/
theorem find_any (a : Option Addr) (len cap : Nat) (zs : List Int) (x : Int) (w : World) (h : Row w a len cap zs) (hm : len ≤ 1048576) (ha : Asc zs) (hx : x ∈ zs) :
    Calls Try.prog 16 #[.slice a len cap, .int .u64 x] w fun e w' => ∃ p : Nat, e = .returned (.int .i64 p) ∧ p < len ∧ zs[p]?.getD 0 = x ∧ w' = w := by
  have HA : Hid (Asc zs ∧ x ∈ zs ∧ zs.length = len) := ⟨ha, hx, h.1⟩
  have hpos : 0 < len := by rw [← h.1]; exact List.length_pos_of_mem hx
  obtain ⟨b, o, rfl, hb, hcell⟩ := h.2.2.2 hpos
  have HC : Hid (∀ t, t < len → w.cell? ⟨b, o + t, none⟩ = some (.int .u64 (zs.getD t 0))) := hcell
  clear ha hx h hcell
  go_enter Try.func16, Try.ntmps16
  go_wp2
  go_loop [5, 6] (fun sl sh => ∃ lo hi : Nat, lo ≤ hi ∧ hi ≤ len ∧ sl = .int .i64 lo ∧ sh = .int .i64 hi ∧ Hid ((∀ m, m < lo → zs[m]?.getD 0 < x) ∧ ∀ m, hi ≤ m → m < zs.length → x ≤ zs[m]?.getD 0))
    (fun sl sh => (intOf sh).toNat - (intOf sl).toNat)
  case atStart => exact ⟨0, len, by omega, by omega, rfl, rfl, ⟨fun m h => absurd h (by omega), fun m h1 h2 => absurd HA.out.2.2 (by omega)⟩⟩
  case round =>
    obtain ⟨lo, hi, h1, h2, rfl, rfl, HX⟩ := hrel
    by_cases hlt : lo < hi
    · obtain ⟨y, hy⟩ : ∃ y, y = zs[lo + (hi - lo) / 2]?.getD 0 := ⟨_, rfl⟩
      have k1 : w.cell? ⟨b, o + (lo + (hi - lo) / 2), none⟩ = some (.int .u64 y) := by rw [hy]; exact HC.out _ (by omega)
      have HY : Hid (y = zs[lo + (hi - lo) / 2]?.getD 0) := hy
      clear hy
      by_cases hxy : y < x
      · go_wp2
        have hy := HY.out
        obtain ⟨ha, _, hl⟩ := HA.out
        obtain ⟨g1, g2⟩ := HX.out
        go_round
        case rel =>
          refine ⟨lo + (hi - lo) / 2 + 1, hi, by omega, by omega, by go_num, rfl, ⟨fun m hm => ?_, g2⟩⟩
          by_cases e : m = lo + (hi - lo) / 2
          · subst e; omega
          · have := steps_of_asc ha m (lo + (hi - lo) / 2) (by omega) (by omega); omega
        case measure => simp [intOf]; omega
      · go_wp2
        have hy := HY.out
        obtain ⟨ha, _, hl⟩ := HA.out
        obtain ⟨g1, g2⟩ := HX.out
        go_round
        case rel =>
          refine ⟨lo, lo + (hi - lo) / 2, by omega, by omega, rfl, by go_num, ⟨g1, fun m hm hm2 => ?_⟩⟩
          by_cases e : m = lo + (hi - lo) / 2
          · subst e; omega
          · have := steps_of_asc ha (lo + (hi - lo) / 2) m (by omega) (by omega); omega
        case measure => simp [intOf]; omega
    · obtain ⟨ha, hx, hl⟩ := HA.out
      obtain ⟨g1, g2⟩ := HX.out
      have e : hi = lo := by omega
      subst e
      obtain ⟨hlo, e⟩ := find_end ha hx g1 g2
      have k1 : w.cell? ⟨b, o + hi, none⟩ = some (.int .u64 x) := by rw [← e]; exact HC.out _ (by omega)
      have hlo' : hi < len := by omega
      have HE : Hid (zs[hi]?.getD 0 = x) := e
      clear ha hx hl g1 g2 hlo e HX HA HC
      go_wp2
      go_ret
      exact ⟨hi, rfl, by omega, HE.out, rfl⟩

/-- Some bool came back. -/
def AnyBool (e : Ending) : Prop := ∃ x, e = .returned (.bool x)

set_option maxHeartbeats 800000 in
/-- zzBytes of the law on lists: it answers, and leaves all as it was. -/
theorem bytes13_any (a : Option Addr) (len cap : Nat) (zss : List (List Int)) (w : World) (h : Rows2 w a len cap zss) (hm : len ≤ 9223372036854775807) :
    Calls Try.prog 13 #[.slice a len cap] w fun e w' => AnyBool e ∧ w' = w := by
  by_cases hl : 1048576 < len
  · go_enter Try.func13, Try.ntmps13
    go_wp2
    go_ret
    exact ⟨⟨_, rfl⟩, rfl⟩
  go_enter Try.func13, Try.ntmps13
  go_wp2
  go_loop [3, 4] (fun sz si => ∃ (k : Nat) (z : Int), k ≤ len ∧ si = .int .i64 k ∧ sz = .int .i64 z ∧ 0 ≤ z ∧ z ≤ 1048576) (fun _ si => len - (intOf si).toNat)
  case atStart => exact ⟨0, _, Nat.zero_le _, rfl, rfl, by omega, by omega⟩
  case round =>
    obtain ⟨k, z, hk, rfl, rfl, hz0, hz1⟩ := hrel
    by_cases hlt : k < len
    · obtain ⟨b, o, rfl, hb, hc⟩ := h.2.2.2 (by omega)
      obtain ⟨a', l', c', hcell, hr⟩ := hc k hlt
      clear hc hr h
      by_cases hl' : 1048576 < l'
      · go_wp2
        go_ret
        exact ⟨⟨_, rfl⟩, rfl⟩
      · by_cases hs : 1048576 < z + l'
        · go_wp2
          go_ret
          exact ⟨⟨_, rfl⟩, rfl⟩
        · go_wp2
          go_round
          case rel => exact ⟨k + 1, z + l', by omega, by go_num, rfl, by omega, by omega⟩
          case measure => simp [intOf]; omega
    · go_wp2
      go_ret
      exact ⟨⟨_, rfl⟩, rfl⟩
end Go.Proofs.Qxb6606300a
