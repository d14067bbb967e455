import Derived.Test.Qxb6003669aView
import Derived.WalkSpells
namespace Go.Proofs.Qxb6003669a
open Go.RowKit

theorem data_inj {s s' : ByteArray} (h : s.data.toList = s'.data.toList) : s = s' := by
  obtain ⟨⟨l⟩⟩ := s
  obtain ⟨⟨l'⟩⟩ := s'
  simp at h
  rw [h]
theorem toList_inj {s s' : ByteArray} (h : s.toList = s'.toList) : s = s' := by
  rw [ByteArray.toList_eq, ByteArray.toList_eq] at h
  exact data_inj h
theorem ne_beq {q s : ByteArray} (h : q ≠ s) : (q.toList == s.toList) = false := by
  simp only [beq_eq_false_iff_ne, ne_eq]
  exact fun e => h (toList_inj e)
theorem ne_bne {q s : ByteArray} (h : q ≠ s) : (q.toList != s.toList) = true := by
  simp only [bne_iff_ne, ne_eq]
  exact fun e => h (toList_inj e)

/-- A bool came back: true just if p. -/
def Says (e : Ending) (p : Prop) : Prop := ∃ r, e = .returned (.bool r) ∧ (r = true ↔ p)
/-- Some bool came back. -/
def SomeBool (e : Ending) : Prop := ∃ x, e = .returned (.bool x)

set_option maxHeartbeats 800000 in
/-- contains. -/
theorem contains_any (a : Option Addr) (len cap : Nat) (zs : List ByteArray) (x : ByteArray) (w : World) (h : SRow w a len cap zs) (hm : len ≤ 9223372036854775807) :
    Calls Try.prog 17 #[.slice a len cap, .string x] w fun e w' => Says e (x ∈ zs) ∧ w' = w := by
  have HW : Hid (SRow w a len cap zs) := h
  clear h
  go_enter Try.func17, Try.ntmps17
  go_wp2_with fail
  go_loop [5] (fun si => ∃ k : Nat, k ≤ len ∧ si = .int .i64 k ∧ Hid (∀ j, j < k → zs[j]?.getD ByteArray.empty ≠ x)) (fun si => len - (intOf si).toNat)
  case atStart => exact ⟨0, Nat.zero_le _, rfl, fun j hj => absurd hj (Nat.not_lt_zero _)⟩
  case round =>
    obtain ⟨k, hk, rfl, HK⟩ := hrel
    by_cases hlt : k < len
    · obtain ⟨b, o, hao, hb, hc⟩ := HW.out.at k hlt
      cases hao
      obtain ⟨y, hy⟩ : ∃ y, y = zs[k]?.getD ByteArray.empty := ⟨_, rfl⟩
      have c0 : w.cell? ⟨b, o + k, none⟩ = some (.string y) := by rw [hy]; exact hc k hlt
      have HY : Hid (zs[k]?.getD ByteArray.empty = y) := hy.symm
      clear hy hc
      by_cases hxy : y = x
      · subst hxy
        go_wp2_with fail
        go_ret
        refine ⟨⟨true, rfl, fun _ => ?_, fun _ => rfl⟩, rfl⟩
        have hl := HW.out.1
        rw [← HY.out, List.getElem?_eq_getElem (by omega)]
        exact List.getElem_mem _
      · have hne := ne_beq hxy
        go_wp2_with fail
        go_round
        case rel => exact ⟨k + 1, by omega, by go_num, fun j hj => if e : j = k then by rw [e, HY.out]; exact hxy else HK.out j (by omega)⟩
        case measure => simp [intOf]; omega
    · go_wp2_with fail
      go_ret
      refine ⟨⟨false, rfl, Iff.intro (fun h => absurd h (by decide)) (fun hmem => ?_)⟩, rfl⟩
      obtain ⟨j, hj, e⟩ := List.getElem_of_mem hmem
      have := HK.out j (by have := HW.out.1; omega)
      rw [List.getElem?_eq_getElem hj] at this
      exact absurd e this

set_option maxHeartbeats 400000 in
/-- compatible. -/
theorem compatible_any (m n : Int) (w : World) : Calls Try.prog 29 #[.int .i64 m, .int .i64 n] w fun e w' => e = .returned (.bool (decide (m = 1 ∧ n = 1))) ∧ w' = w := by
  by_cases hm : m = 1
  · subst hm
    by_cases hn : n = 1
    · subst hn
      go_enter Try.func29, Try.ntmps29
      go_wp2
      go_ret
      exact ⟨rfl, rfl⟩
    · have e := beq_of_ne' hn
      have e2 : decide ((1 : Int) = 1 ∧ n = 1) = false := decide_eq_false (fun h => hn h.2)
      rw [e2]
      go_enter Try.func29, Try.ntmps29
      go_wp2
      go_ret
      exact ⟨rfl, rfl⟩
  · have e := beq_of_ne' hm
    have e2 : decide (m = 1 ∧ n = 1) = false := decide_eq_false (fun h => hm h.1)
    rw [e2]
    go_enter Try.func29, Try.ntmps29
    go_wp2
    go_ret
    exact ⟨rfl, rfl⟩

/-- What nearestExclusive finds. -/
def Near (bs : List Bool) (i : Nat) (e : Int) : Prop := e < i ∧ -1 ≤ e ∧ (∀ j : Nat, e < j → j < i → bs[j]?.getD false = true) ∧ (0 ≤ e → bs[e.toNat]?.getD false = false)

set_option maxHeartbeats 800000 in
/-- nearestExclusive. -/
theorem near_any (a : Option Addr) (len cap : Nat) (bs : List Bool) (i : Nat) (w : World) (h : BRow w a len cap bs) (hm : len ≤ 65536) (hi : i < len) :
    Calls Try.prog 9 #[.slice a len cap, .int .i64 (i : Int)] w fun e w' => (∃ n : Int, e = .returned (.int .i64 n) ∧ Near bs i n) ∧ w' = w := by
  obtain ⟨b, o, hao, hb, hc⟩ := h.at 0 (by omega)
  cases hao
  have HC : Hid (∀ t, t < len → w.cell? ⟨b, o + t, none⟩ = some (.bool (bs[t]?.getD false))) := hc
  clear h hc
  go_enter Try.func9, Try.ntmps9
  go_wp2_with fail
  go_loop [5] (fun si => ∃ k : Nat, k ≤ i ∧ si = .int .i64 ((k : Int) - 1) ∧ Hid (∀ j : Nat, k ≤ j → j < i → bs[j]?.getD false = true)) (fun si => (intOf si + 1).toNat)
  case atStart => exact ⟨i, Nat.le_refl _, by go_num, fun j h1 h2 => absurd h2 (by omega)⟩
  case round =>
    obtain ⟨k, hk, rfl, HK⟩ := hrel
    by_cases hk0 : 0 < k
    · obtain ⟨k', rfl⟩ : ∃ k', k = k' + 1 := ⟨k - 1, by omega⟩
      have e1 : ((k' + 1 : Nat) : Int) - 1 = (k' : Int) := by omega
      rw [e1]
      obtain ⟨y, hy⟩ : ∃ y, y = bs[k']?.getD false := ⟨_, rfl⟩
      have c0 : w.cell? ⟨b, o + k', none⟩ = some (.bool y) := by rw [hy]; exact HC.out k' (by omega)
      have HY : Hid (bs[k']?.getD false = y) := hy.symm
      clear hy e1
      cases y with
      | true =>
        go_wp2_with fail
        go_round
        case rel => exact ⟨k', by omega, by go_num, fun j h1 h2 => if e : j = k' then by rw [e]; exact HY.out else HK.out j (by omega) h2⟩
        case measure => simp [intOf]
      | false =>
        go_wp2_with fail
        go_ret
        exact ⟨⟨k', rfl, by omega, by omega, fun j h1 h2 => HK.out j (by omega) h2, fun _ => HY.out⟩, rfl⟩
    · have e : k = 0 := by omega
      subst e
      go_wp2_with fail
      go_ret
      exact ⟨⟨-1, rfl, by omega, by omega, fun j h1 h2 => HK.out j (by omega) h2, fun hh => absurd hh (by omega)⟩, rfl⟩
end Go.Proofs.Qxb6003669a
