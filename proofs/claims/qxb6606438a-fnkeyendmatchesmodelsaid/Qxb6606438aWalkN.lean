import Derived.Test.Qxb6606438aWalkK
import Derived.Test.Qxb6606438aLawM
namespace Go.Proofs.Qxb6606438a
open Go.RowKit

set_option maxHeartbeats 1600000 in
/-- singleQuoteClose. -/
theorem squote_any (a : Option Addr) (len cap : Nat) (zs : List Int) (w : World) (h : Row w a len cap zs) (hm : len ≤ 4194304) (hpos : 0 < len) (T : Int) (HTT : Hid (toI ((cq 39 (zs.drop 1)).map (· + 1)) = T)) :
    Calls Try.prog 14 #[.slice a len cap] w fun e w' => e = .returned (.int .i64 T) ∧ Below w.heap.size w w' := by
  obtain ⟨b, o, hao, hb, hc⟩ := h.at 0 hpos
  cases hao
  have HL : Hid (zs.length = len) := h.1
  have HC : Hid (∀ t, t < len → w.cell? ⟨b, o + t, none⟩ = some (.int .u8 (zs[t]?.getD 0))) := hc
  clear h hc
  go_enter Try.func14, Try.ntmps14
  go_wp2_with fail
  go_loop [3] (fun si => ∃ j : Nat, j ≤ len ∧ si = .int .i64 j ∧ Hid ((cq 39 (zs.drop 1)).map (· + 1) = (cq 39 (zs.drop j)).map (· + j))) (fun si => len - (intOf si).toNat)
  case atStart => exact ⟨1, hpos, rfl, rfl⟩
  case round =>
    obtain ⟨j, hj, rfl, HT⟩ := hrel
    by_cases hlt : j < len
    · obtain ⟨x, hx⟩ : ∃ x, x = zs[j]?.getD 0 := ⟨_, rfl⟩
      have c0 : w.cell? ⟨b, o + j, none⟩ = some (.int .u8 x) := by rw [hx]; exact HC.out j hlt
      have HH : Hid (zs[j]?.getD 0 = x) := hx.symm
      clear hx
      by_cases h39 : x = 39
      · subst h39
        go_wp2_with fail
        go_loop [4] (fun si => ∃ L : Nat, j + L ≤ len ∧ si = .int .i64 ((j + L : Nat) : Int) ∧ Hid (∀ i, j ≤ i → i < j + L → zs[i]?.getD 0 = 39)) (fun si => len - (intOf si).toNat)
        case atStart => exact ⟨0, by omega, rfl, fun i h1 h2 => absurd h2 (by omega)⟩
        case round =>
          obtain ⟨L, hL, rfl, HU⟩ := hrel
          by_cases hle : j + L < len
          · obtain ⟨y, hy⟩ : ∃ y, y = zs[j + L]?.getD 0 := ⟨_, rfl⟩
            have c1 : w.cell? ⟨b, o + (j + L), none⟩ = some (.int .u8 y) := by rw [hy]; exact HC.out _ hle
            have HY : Hid (zs[j + L]?.getD 0 = y) := hy.symm
            clear hy
            by_cases hy39 : y = 39
            · subst hy39
              go_wp2_with fail
              go_round
              case rel => exact ⟨L + 1, by omega, by go_num, fun i h1 h2 => if e : i = j + L then by rw [e]; exact HY.out else HU.out i h1 (by omega)⟩
              case measure => simp [intOf]; omega
            · have hne := beq_of_ne hy39
              have hL0 : 0 < L := by
                by_cases e : L = 0
                · subst e; have h1 := HY.out; have h2 := HH.out; rw [Nat.add_zero, h2] at h1; exact absurd h1.symm hy39
                · omega
              by_cases hp : L % 2 = 1
              · have hpe : ((L : Int).tmod 2 == 1) = true := by rw [Int.tmod_eq_emod_of_nonneg (by omega)]; simp; omega
                have hsub : ((j + L : Nat) : Int) - (j : Int) = (L : Int) := by omega
                go_wp2_with fail
                go_ret
                refine ⟨?_, Below.refl _ _⟩
                have e9 := HTT.out
                rw [sq_hit (by rw [HL.out]; exact hL) HU.out hp (fun _ => by rw [HY.out]; exact hy39) HT.out] at e9
                rw [← e9]
                show Ending.returned (.int .i64 _) = Ending.returned (.int .i64 _)
                congr 2
                simp only [toI]
                omega
              · have hpe : ((L : Int).tmod 2 == 1) = false := by rw [Int.tmod_eq_emod_of_nonneg (by omega)]; simp; omega
                have hsub : ((j + L : Nat) : Int) - (j : Int) = (L : Int) := by omega
                go_wp2_with fail
                go_round
                case rel => exact ⟨j + L, hL, by go_num, sq_skip (by rw [HL.out]; exact hL) HU.out (by omega) HT.out⟩
                case measure => simp [intOf]; omega
          · have e : j + L = len := by omega
            by_cases hp : L % 2 = 1
            · have hpe : ((L : Int).tmod 2 == 1) = true := by rw [Int.tmod_eq_emod_of_nonneg (by omega)]; simp; omega
              have hsub : ((j + L : Nat) : Int) - (j : Int) = (L : Int) := by omega
              go_wp2_with fail
              go_ret
              refine ⟨?_, Below.refl _ _⟩
              have e9 := HTT.out
              rw [sq_hit (by rw [HL.out]; exact hL) HU.out hp (fun hh => by rw [HL.out] at hh; omega) HT.out] at e9
              rw [← e9]
              show Ending.returned (.int .i64 _) = Ending.returned (.int .i64 _)
              congr 2
              simp only [toI]
              omega
            · have hpe : ((L : Int).tmod 2 == 1) = false := by rw [Int.tmod_eq_emod_of_nonneg (by omega)]; simp; omega
              have hsub : ((j + L : Nat) : Int) - (j : Int) = (L : Int) := by omega
              go_wp2_with fail
              go_round
              case rel => exact ⟨j + L, hL, by go_num, sq_skip (by rw [HL.out]; exact hL) HU.out (by omega) HT.out⟩
              case measure => simp [intOf]; omega
      · have hne := bne_of h39
        go_wp2_with fail
        go_round
        case rel => exact ⟨j + 1, by omega, by go_num, by rw [HT.out, cq_other (by rw [HL.out]; exact hlt) (by omega) (by rw [HH.out]; exact h39), map_map_add, Nat.add_comm 1 j]; exact rfl⟩
        case measure => simp [intOf]; omega
    · go_wp2_with fail
      go_ret
      exact ⟨by have e := HTT.out; rw [HT.out, List.drop_eq_nil_of_le (by rw [HL.out]; omega), cq_nil] at e; rw [← e]; rfl, Below.refl _ _⟩

set_option maxHeartbeats 1600000 in
/-- indexColonSpace. -/
theorem ics_any (a : Option Addr) (len cap : Nat) (zs : List Int) (w : World) (h : Row w a len cap zs) (hm : len ≤ 4194304) :
    Calls Try.prog 15 #[.slice a len cap] w fun e w' => e = .returned (.int .i64 (toI (ics zs))) ∧ Below w.heap.size w w' := by
  have HR : Hid (Row w a len cap zs) := h
  have HL : Hid (zs.length = len) := h.1
  clear h
  go_enter Try.func15, Try.ntmps15
  go_wp2_with fail
  go_loop [3] (fun si => ∃ j : Nat, j ≤ len ∧ si = .int .i64 j ∧ Hid (ics zs = (ics (zs.drop j)).map (· + j))) (fun si => len - (intOf si).toNat)
  case atStart => exact ⟨0, Nat.zero_le _, rfl, by simp [Hid]⟩
  case round =>
    obtain ⟨j, hj, rfl, HT⟩ := hrel
    by_cases hlt : j + 1 < len
    · obtain ⟨b, o, hao, hb, hc⟩ := HR.out.at j (by omega)
      cases hao
      obtain ⟨x, hx⟩ : ∃ x, x = zs[j]?.getD 0 := ⟨_, rfl⟩
      have c0 : w.cell? ⟨b, o + j, none⟩ = some (.int .u8 x) := by rw [hx]; exact hc j (by omega)
      have HH : Hid (zs[j]?.getD 0 = x) := hx.symm
      obtain ⟨y, hy⟩ : ∃ y, y = zs[j + 1]?.getD 0 := ⟨_, rfl⟩
      have c1 : w.cell? ⟨b, o + (j + 1), none⟩ = some (.int .u8 y) := by rw [hy]; exact hc (j + 1) hlt
      have HY : Hid (zs[j + 1]?.getD 0 = y) := hy.symm
      clear hx hy hc
      by_cases h58 : x = 58
      · subst h58
        by_cases h32 : y = 32
        · subst h32
          go_wp2_with fail
          go_ret
          exact ⟨by rw [HT.out, ics_hit (by rw [HL.out]; exact hlt) HH.out HY.out]; simp [toI], Below.refl _ _⟩
        · have hne := beq_of_ne h32
          go_wp2_with fail
          go_round
          case rel => exact ⟨j + 1, by omega, by go_num, by rw [HT.out, ics_next (by rw [HL.out]; exact hlt) (fun k => h32 (HY.out.symm.trans k.2)), map_map_add, Nat.add_comm 1 j]; exact rfl⟩
          case measure => simp [intOf]; omega
      · have hne := beq_of_ne h58
        go_wp2_with fail
        go_round
        case rel => exact ⟨j + 1, by omega, by go_num, by rw [HT.out, ics_next (by rw [HL.out]; exact hlt) (fun k => h58 (HH.out.symm.trans k.1)), map_map_add, Nat.add_comm 1 j]; exact rfl⟩
        case measure => simp [intOf]; omega
    · go_wp2_with fail
      go_ret
      exact ⟨by rw [HT.out, ics_end (by rw [HL.out]; omega)]; rfl, Below.refl _ _⟩
end Go.Proofs.Qxb6606438a
