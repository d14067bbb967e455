import Derived.Test.Qxb6606438aWalkK
import Derived.Test.Qxb6606438aLawM
namespace Go.Proofs.Qxb6606438a
open Go.RowKit

set_option maxHeartbeats 1600000 in
/-- doubleQuoteClose. -/
theorem dquote_any (a : Option Addr) (len cap : Nat) (zs : List Int) (w : World) (h : Row w a len cap zs) (hm : len ≤ 4194304) (T : Int) (HTT : Hid (toI ((cq 34 (zs.drop 1)).map (· + 1)) = T)) :
    Calls Try.prog 13 #[.slice a len cap] w fun e w' => e = .returned (.int .i64 T) ∧ Below w.heap.size w w' := by
  have HR : Hid (Row w a len cap zs) := h
  have HL : Hid (zs.length = len) := h.1
  clear h
  go_enter Try.func13, Try.ntmps13
  go_wp2_with fail
  go_loop [3] (fun si => ∃ m : Nat, m ≤ len ∧ si = .int .i64 ((m + 1 : Nat) : Int) ∧ Hid (DqAt zs (m + 1))) (fun si => len + 1 - (intOf si).toNat)
  case atStart => exact ⟨0, by omega, rfl, dq_start zs⟩
  case round =>
    obtain ⟨m, hmm, rfl, HD⟩ := hrel
    by_cases hlt : m + 1 < len
    · obtain ⟨b, o, hao, hb, hc⟩ := HR.out.at (m + 1) hlt
      cases hao
      obtain ⟨x, hx⟩ : ∃ x, x = zs[m + 1]?.getD 0 := ⟨_, rfl⟩
      have c0 : w.cell? ⟨b, o + (m + 1), none⟩ = some (.int .u8 x) := by rw [hx]; exact hc (m + 1) hlt
      have HH : Hid (zs[m + 1]?.getD 0 = x) := hx.symm
      have HC : Hid (∀ t, t < len → w.cell? ⟨b, o + t, none⟩ = some (.int .u8 (zs[t]?.getD 0))) := hc
      clear hx hc
      by_cases h34 : x = 34
      · subst h34
        go_wp2_with fail
        go_loop [4, 5] (fun sr sk => ∃ r k : Nat, sr = .int .i64 r ∧ sk = .int .i64 k ∧ k ≤ m ∧ r ≤ m - k ∧ Hid (r + runAt zs (k + 1) = runAt zs (m + 1))) (fun _ sk => (intOf sk).toNat)
        case atStart => exact ⟨0, m, rfl, by go_num, Nat.le_refl _, Nat.zero_le _, Nat.zero_add _⟩
        case round =>
          obtain ⟨r, k, rfl, rfl, hk, hr, HU⟩ := hrel
          by_cases hk1 : 1 ≤ k
          · obtain ⟨y, hy⟩ : ∃ y, y = zs[k]?.getD 0 := ⟨_, rfl⟩
            have c1 : w.cell? ⟨b, o + k, none⟩ = some (.int .u8 y) := by rw [hy]; exact HC.out k (by omega)
            have HY : Hid (zs[k]?.getD 0 = y) := hy.symm
            clear hy
            by_cases h92 : y = 92
            · subst h92
              obtain ⟨k', rfl⟩ : ∃ k', k = k' + 1 := ⟨k - 1, by omega⟩
              go_wp2_with fail
              go_round
              case rel => exact ⟨r + 1, k', by go_num, by go_num, by omega, by omega, by have := HU.out; rw [runAt_yes hk1 HY.out] at this; show _ = _; omega⟩
              case measure => simp [intOf] <;> omega
            · have hne := beq_of_ne h92
              have HF : Hid (r = runAt zs (m + 1)) := by have := HU.out; rw [runAt_no (by rw [HY.out]; exact h92)] at this; exact this
              by_cases hp : r % 2 = 0
              · have hpe : ((r : Int).tmod 2 == 0) = true := by rw [Int.tmod_eq_emod_of_nonneg (by omega)]; simp; omega
                go_wp2_with fail
                go_ret
                exact ⟨by have e := HTT.out; rw [dq_hit (by rw [HL.out]; exact hlt) HD.out HH.out (by rw [← HF.out]; exact hp)] at e; rw [← e]; rfl, Below.refl _ _⟩
              · have hpe : ((r : Int).tmod 2 == 0) = false := by rw [Int.tmod_eq_emod_of_nonneg (by omega)]; simp; omega
                go_wp2_with fail
                go_round
                case rel => exact ⟨m + 1, by omega, by go_num, dq_next (by rw [HL.out]; exact hlt) (by omega) HD.out (.inr (by rw [← HF.out]; omega))⟩
                case measure => simp [intOf] <;> omega
          · have e : k = 0 := by omega
            subst e
            have HF : Hid (r = runAt zs (m + 1)) := by have := HU.out; rw [runAt_one] at this; exact this
            by_cases hp : r % 2 = 0
            · have hpe : ((r : Int).tmod 2 == 0) = true := by rw [Int.tmod_eq_emod_of_nonneg (by omega)]; simp; omega
              go_wp2_with fail
              go_ret
              exact ⟨by have e := HTT.out; rw [dq_hit (by rw [HL.out]; exact hlt) HD.out HH.out (by rw [← HF.out]; exact hp)] at e; rw [← e]; rfl, Below.refl _ _⟩
            · have hpe : ((r : Int).tmod 2 == 0) = false := by rw [Int.tmod_eq_emod_of_nonneg (by omega)]; simp; omega
              go_wp2_with fail
              go_round
              case rel => exact ⟨m + 1, by omega, by go_num, dq_next (by rw [HL.out]; exact hlt) (by omega) HD.out (.inr (by rw [← HF.out]; omega))⟩
              case measure => simp [intOf] <;> omega
      · have hne := bne_of h34
        go_wp2_with fail
        go_round
        case rel => exact ⟨m + 1, by omega, by go_num, dq_next (by rw [HL.out]; exact hlt) (by omega) HD.out (.inl (by rw [HH.out]; exact h34))⟩
        case measure => simp [intOf] <;> omega
    · go_wp2_with fail
      go_ret
      exact ⟨by have e := HTT.out; rw [dq_end (by rw [HL.out]; omega) HD.out] at e; rw [← e]; rfl, Below.refl _ _⟩
end Go.Proofs.Qxb6606438a
