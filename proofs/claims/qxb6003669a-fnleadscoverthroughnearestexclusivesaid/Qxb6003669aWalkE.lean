import Derived.Test.Qxb6003669aWalkD
namespace Go.Proofs.Qxb6003669a
open Go.RowKit

set_option maxRecDepth 100000 in
set_option maxHeartbeats 3200000 in
/-- zzBytes: some bool. -/
theorem bytes7_any (a : Option Addr) (len cap : Nat) (zs : List ByteArray) (a2 : Option Addr) (len2 cap2 : Nat) (a3 : Option Addr) (len3 cap3 : Nat) (zs3 : List ByteArray) (a4 : Option Addr) (len4 cap4 : Nat) (i : Int) (w : World)
    (h : SRow w a len cap zs) (h3 : SRow w a3 len3 cap3 zs3) (hm : len ≤ 9223372036854775807) (hm2 : len2 ≤ 9223372036854775807) (hm3 : len3 ≤ 9223372036854775807) (hm4 : len4 ≤ 9223372036854775807) :
    Calls Try.prog 7 #[.slice a len cap, .slice a2 len2 cap2, .slice a3 len3 cap3, .slice a4 len4 cap4, .int .i64 i] w fun e w' => SomeBool e ∧ w' = w := by
  have HW : Hid (SRow w a len cap zs) := h
  have HW3 : Hid (SRow w a3 len3 cap3 zs3) := h3
  clear h h3
  go_enter Try.func7, Try.ntmps7
  by_cases g0 : 1048576 < len
  · go_wp2_with fail
    go_ret
    exact ⟨⟨_, rfl⟩, rfl⟩
  go_wp2_with fail
  go_loop [11, 12] (fun sz si => ∃ (z k : Nat), k ≤ len ∧ z ≤ 1048576 ∧ sz = .int .i64 z ∧ si = .int .i64 k) (fun _ si => len - (intOf si).toNat)
  case atStart => exact ⟨len, 0, Nat.zero_le _, by omega, by go_num, rfl⟩
  case round =>
    obtain ⟨z, k, hk, hz, rfl, rfl⟩ := hrel
    by_cases hlt : k < len
    · obtain ⟨b, o, hao, hb, hc⟩ := HW.out.at k hlt
      cases hao
      obtain ⟨y, hy⟩ : ∃ y, y = zs[k]?.getD ByteArray.empty := ⟨_, rfl⟩
      have c0 : w.cell? ⟨b, o + k, none⟩ = some (.string y) := by rw [hy]; exact hc k hlt
      clear hy hc
      by_cases hbig : 1048576 < y.size
      · go_wp2_with fail
        go_ret
        exact ⟨⟨_, rfl⟩, rfl⟩
      by_cases htot : 1048576 < z + y.size
      · go_wp2_with fail
        go_ret
        exact ⟨⟨_, rfl⟩, rfl⟩
      go_wp2_with fail
      go_round
      case rel => exact ⟨z + y.size, k + 1, by omega, by omega, by go_num, by go_num⟩
      case measure => simp [intOf]; omega
    · by_cases g1 : 1048576 < len2
      · go_wp2_with fail
        go_ret
        exact ⟨⟨_, rfl⟩, rfl⟩
      by_cases g2 : 1048576 < z + len2
      · go_wp2_with fail
        go_ret
        exact ⟨⟨_, rfl⟩, rfl⟩
      by_cases g3 : 1048576 < len3
      · go_wp2_with fail
        go_ret
        exact ⟨⟨_, rfl⟩, rfl⟩
      by_cases g4 : 1048576 < z + len2 + len3
      · go_wp2_with fail
        go_ret
        exact ⟨⟨_, rfl⟩, rfl⟩
      go_wp2_with fail
      go_loop [11, 13] (fun sz si => ∃ (z2 k2 : Nat), k2 ≤ len3 ∧ z2 ≤ 1048576 ∧ sz = .int .i64 z2 ∧ si = .int .i64 k2) (fun _ si => len3 - (intOf si).toNat)
      case atStart => exact ⟨z + len2 + len3, 0, Nat.zero_le _, by omega, by go_num, rfl⟩
      case round =>
        obtain ⟨z2, k2, hk2, hz2, rfl, rfl⟩ := hrel
        by_cases hlt2 : k2 < len3
        · obtain ⟨b, o, hao, hb, hc⟩ := HW3.out.at k2 hlt2
          cases hao
          obtain ⟨y, hy⟩ : ∃ y, y = zs3[k2]?.getD ByteArray.empty := ⟨_, rfl⟩
          have c0 : w.cell? ⟨b, o + k2, none⟩ = some (.string y) := by rw [hy]; exact hc k2 hlt2
          clear hy hc
          by_cases hbig : 1048576 < y.size
          · go_wp2_with fail
            go_ret
            exact ⟨⟨_, rfl⟩, rfl⟩
          by_cases htot : 1048576 < z2 + y.size
          · go_wp2_with fail
            go_ret
            exact ⟨⟨_, rfl⟩, rfl⟩
          go_wp2_with fail
          go_round
          case rel => exact ⟨z2 + y.size, k2 + 1, by omega, by omega, by go_num, by go_num⟩
          case measure => simp [intOf]; omega
        · by_cases g5 : 1048576 < len4
          · go_wp2_with fail
            go_ret
            exact ⟨⟨_, rfl⟩, rfl⟩
          by_cases g6 : 1048576 < z2 + len4
          · go_wp2_with fail
            go_ret
            exact ⟨⟨_, rfl⟩, rfl⟩
          go_wp2_with fail
          go_ret
          exact ⟨⟨_, rfl⟩, rfl⟩

/-- A bool came back; where it says false, p. -/
def SaysFit (e : Ending) (p : Prop) : Prop := ∃ r, e = .returned (.bool r) ∧ (r = false → p)

set_option maxRecDepth 100000 in
set_option maxHeartbeats 3200000 in
/-- tooBig. -/
theorem tooBig_any (a : Option Addr) (len cap : Nat) (zs : List ByteArray) (a2 : Option Addr) (len2 cap2 : Nat) (a3 : Option Addr) (len3 cap3 : Nat) (zs3 : List ByteArray) (a4 : Option Addr) (len4 cap4 : Nat) (w : World)
    (h : SRow w a len cap zs) (h3 : SRow w a3 len3 cap3 zs3) (hm : len ≤ 9223372036854775807) (hm2 : len2 ≤ 9223372036854775807) (hm3 : len3 ≤ 9223372036854775807) (hm4 : len4 ≤ 9223372036854775807) :
    Calls Try.prog 8 #[.slice a len cap, .slice a3 len3 cap3, .slice a2 len2 cap2, .slice a4 len4 cap4] w fun e w' => SaysFit e (len ≤ 65536 ∧ len2 ≤ 65536 ∧ len3 ≤ 65536 ∧ len4 ≤ 65536) ∧ w' = w := by
  have HW : Hid (SRow w a len cap zs) := h
  have HW3 : Hid (SRow w a3 len3 cap3 zs3) := h3
  clear h h3
  go_enter Try.func8, Try.ntmps8
  by_cases g0 : 65536 < len
  · go_wp2_with fail
    go_ret
    exact ⟨⟨true, rfl, fun h => by cases h⟩, rfl⟩
  have d0 : decide ((65536 : Int) < (len : Int)) = false := decide_eq_false (by omega)
  by_cases g1 : 65536 < len3
  · go_wp2_with fail
    go_ret
    exact ⟨⟨true, rfl, fun h => by cases h⟩, rfl⟩
  have d1 : decide ((65536 : Int) < (len3 : Int)) = false := decide_eq_false (by omega)
  by_cases g2 : 65536 < len2
  · go_wp2_with fail
    go_ret
    exact ⟨⟨true, rfl, fun h => by cases h⟩, rfl⟩
  have d2 : decide ((65536 : Int) < (len2 : Int)) = false := decide_eq_false (by omega)
  by_cases g3 : 65536 < len4
  · go_wp2_with fail
    go_ret
    exact ⟨⟨true, rfl, fun h => by cases h⟩, rfl⟩
  have d3 : decide ((65536 : Int) < (len4 : Int)) = false := decide_eq_false (by omega)
  have HB : Hid (len ≤ 65536 ∧ len2 ≤ 65536 ∧ len3 ≤ 65536 ∧ len4 ≤ 65536) := ⟨by omega, by omega, by omega, by omega⟩
  by_cases g4 : 1048576 < 16 * len + 16 * len3 + len2 + len4
  · go_wp2_with fail
    go_ret
    exact ⟨⟨true, rfl, fun h => by cases h⟩, rfl⟩
  go_wp2_with fail
  go_loop [9, 10] (fun sz si => ∃ (z : Int) (k : Nat), k ≤ len ∧ sz = .int .i64 z ∧ si = .int .i64 k) (fun _ si => len - (intOf si).toNat)
  case atStart => exact ⟨_, 0, Nat.zero_le _, rfl, rfl⟩
  case round =>
    obtain ⟨z, k, hk, rfl, rfl⟩ := hrel
    by_cases hlt : k < len
    · obtain ⟨b, o, hao, hb, hc⟩ := HW.out.at k hlt
      cases hao
      obtain ⟨y, hy⟩ : ∃ y, y = zs[k]?.getD ByteArray.empty := ⟨_, rfl⟩
      have c0 : w.cell? ⟨b, o + k, none⟩ = some (.string y) := by rw [hy]; exact hc k hlt
      clear hy hc
      go_wp2_with fail
      · go_ret
        exact ⟨⟨true, rfl, fun h => by cases h⟩, rfl⟩
      · go_round
        case rel => exact ⟨_, k + 1, by omega, rfl, by go_num⟩
        case measure => simp [intOf]; omega
    · go_wp2_with fail
      go_loop [9, 11] (fun sz si => ∃ (z : Int) (k : Nat), k ≤ len3 ∧ sz = .int .i64 z ∧ si = .int .i64 k) (fun _ si => len3 - (intOf si).toNat)
      case atStart => exact ⟨_, 0, Nat.zero_le _, rfl, rfl⟩
      case round =>
        obtain ⟨z, k, hk, rfl, rfl⟩ := hrel
        by_cases hlt : k < len3
        · obtain ⟨b, o, hao, hb, hc⟩ := HW3.out.at k hlt
          cases hao
          obtain ⟨y, hy⟩ : ∃ y, y = zs3[k]?.getD ByteArray.empty := ⟨_, rfl⟩
          have c0 : w.cell? ⟨b, o + k, none⟩ = some (.string y) := by rw [hy]; exact hc k hlt
          clear hy hc
          go_wp2_with fail
          · go_ret
            exact ⟨⟨true, rfl, fun h => by cases h⟩, rfl⟩
          · go_round
            case rel => exact ⟨_, k + 1, by omega, rfl, by go_num⟩
            case measure => simp [intOf]; omega
        · go_wp2_with fail
          go_ret
          exact ⟨⟨false, rfl, fun _ => HB.out⟩, rfl⟩
end Go.Proofs.Qxb6003669a
