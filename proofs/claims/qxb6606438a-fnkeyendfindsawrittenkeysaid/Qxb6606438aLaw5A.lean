import Derived.Test.Qxb6606438aOwn
import Derived.Test.Qxb6606438aLawF
namespace Go.Proofs.Qxb6606438a
open Go.RowKit

set_option maxRecDepth 100000 in
set_option maxHeartbeats 4000000 in
theorem law5_0 (a : Option Addr) (len cap : Nat) (s : List Int) (a2 : Option Addr) (len2 cap2 : Nat) (v : List Int) (sp : Bool) (st : Int) (w : World) (h : Row w a len cap s) (h2 : Row w a2 len2 cap2 v) (hm : len ≤ maxLen) (hm2 : len2 ≤ maxLen) (hst : st = 0) :
    Calls Try.prog 5 #[.slice a len cap, .slice a2 len2 cap2, .bool sp, .int .u8 st] w fun e w' => e = .returned (.bool true) ∧ Below w.heap.size w w' := by
  unfold maxLen at hm hm2
  obtain ⟨i0, hi, hz0, hz1, hz2⟩ := info_parts Try.info5
  go_enter Try.func5, Try.ntmps5
  go_wp2_with fail
  refine (bytes11_any _ _ _ _ _ _ _ _ _ hm hm2).mono ?_
  rintro e w' ⟨⟨x, rfl⟩, rfl⟩
  cases x with
  | false =>
    go_wp2_with fail
    go_ret
    exact ⟨rfl, Below.refl _ _⟩
  | true =>
  by_cases h0 : 262144 < len
  · go_wp2_with fail
    go_ret
    exact ⟨rfl, Below.refl _ _⟩
  have hd0 : decide ((262144 : Int) < (len : Int)) = false := decide_eq_false (by omega)
  by_cases h1 : 262144 < len2
  · go_wp2_with fail
    go_ret
    exact ⟨rfl, Below.refl _ _⟩
  have hd1 : decide ((262144 : Int) < (len2 : Int)) = false := decide_eq_false (by omega)
  subst hst
  by_cases hlen : 0 < len
  · obtain ⟨b, o, hao, hb, hc⟩ := h.at 0 hlen
    cases hao
    obtain ⟨x, hx⟩ : ∃ x, x = s[0]?.getD 0 := ⟨_, rfl⟩
    have c0 : w'.cell? ⟨b, o, none⟩ = some (.int .u8 x) := by rw [hx]; exact hc 0 hlen
    have hlp : (0 : Int) < (len : Int) := by omega
    have HX : Hid (x = s[0]?.getD 0) := hx
    clear hx hc
    by_cases h39 : x = 39
    · subst h39
      go_wp2_with fail
      go_ret
      exact ⟨rfl, Below.refl _ _⟩
    have hne39 := beq_of_ne h39
    by_cases h34 : x = 34
    · subst h34
      go_wp2_with fail
      go_ret
      exact ⟨rfl, Below.refl _ _⟩
    have hne34 := beq_of_ne h34
    have HQ : Hid (∀ c, s.head? = some c → isQuote c = false) := by
      intro c hc
      have : c = x := by
        rw [HX.out]
        cases s with
        | nil => simp at hc
        | cons y r => simp at hc ⊢; exact hc.symm
      subst this
      simp [isQuote, h34, h39]
    clear HX
    go_wp2_with fail
    go_loop [9] (fun si => ∃ k : Nat, k ≤ len ∧ si = .int .i64 k ∧ Hid (∀ j, j < k → s[j]?.getD 0 ≠ 58)) (fun si => len - (intOf si).toNat)
    case atStart => exact ⟨0, Nat.zero_le _, rfl, fun j hj => absurd hj (Nat.not_lt_zero _)⟩
    case round =>
      obtain ⟨k, hk, rfl, HK⟩ := hrel
      by_cases hlt : k < len
      · obtain ⟨b, o, hao, hb, hc⟩ := h.at k hlt
        cases hao
        have c0 := hc k hlt
        obtain ⟨x, hx⟩ : ∃ x, x = s[k]?.getD 0 := ⟨_, rfl⟩
        rw [← hx] at c0
        have HH : Hid (x = s[k]?.getD 0) := hx
        clear hx hc
        by_cases h58 : x = 58
        · subst h58
          go_wp2_with fail
          go_ret
          exact ⟨rfl, Below.refl _ _⟩
        · have hne := beq_of_ne h58
          go_wp2_with fail
          go_round
          case rel => exact ⟨k + 1, by omega, by go_num, fun j hj => if e : j = k then by rw [e, ← HH.out]; exact h58 else HK.out j (by omega)⟩
          case measure => simp [intOf]; omega
      · have HC58 : Hid (∀ c ∈ s, c ≠ 58) := by
          intro c hc
          obtain ⟨j, hj, rfl⟩ := List.getElem_of_mem hc
          have := HK.out j (by have := h.1; omega)
          rwa [List.getElem?_eq_getElem hj] at this
        clear HK
        go_wp2_with fail
        refine (clone_any _ len cap s w' h (by omega)).mono ?_
        rintro e w1 ⟨a3, c3, rfl, hr1, hb1⟩
        have ht1 := h2.below hb1
        clear h h2
        go_wp2_with fail
        refine (clone_any _ len2 cap2 v w1 ht1 (by omega)).mono ?_
        rintro e w2 ⟨a4, c4, rfl, ht2, hb2⟩
        have HR : Hid (Row w2 a3 len c3 s) := hr1.below hb2
        have HT : Hid (Row w2 a4 len2 c4 v) := ht2
        have HB2 : Hid (Below w'.heap.size w' w2) := hb1.trans (hb2.mono hb1.size)
        clear hr1 ht1 ht2 hb1 hb2

        have HW : Hid (∀ t : List Int, (t = [] ∨ t.head? = some 32) → ke (s ++ 58 :: t) = if 1000 < len then -1 else (len : Int)) := by
          intro t ht
          have hh := ke_written (style := 0) (s := s) (t := t) (fun _ => ⟨HC58.out, HQ.out⟩) ht
          simp only [written, if_true] at hh
          rw [hh, HR.out.1]
        by_cases hbig : 1000 < len
        · cases sp with
          | false =>
            go_wp2_with (first
              | (at_make; refine wpList_make_own _ rfl _ (.tmp 64) 22 rfl w2.heap.size 5 i0 (.int .u8 0) 1 Try.underlying22 hi hz0 hz1 _ _ _ (2 * len + 2) rfl rfl (by omega) (by rw [hz2]; omega) (by unfold maxLen; omega) (Nat.le_refl _) ?_; intro w3 hown3 hgrow3; have HO3 : Hid (Own w2 w3 w2.heap.size 0 (2 * len + 2) []) := Own.made hown3 hgrow3; clear hown3 hgrow3)
              | (at_builtin; refine wpList_pushAll rfl (.tmp 103) (.tmp 104) rfl w2 w2.heap.size 0 (2 * len + 2) [] rfl HO3.out _ len c3 s HR.out rfl (by omega) ?_; intro w4 h4; simp only [Nat.zero_add, List.nil_append] at h4; have HO4 : Hid (Own w2 w4 w2.heap.size len (2 * len + 2) s) := h4; clear h4)
              | (at_make; refine wpList_make_own _ rfl _ (.tmp 144) 22 rfl w4.heap.size 5 i0 (.int .u8 0) 1 Try.underlying22 hi hz0 hz1 _ _ _ (len + 2 + len2) rfl rfl (by omega) (by rw [hz2]; omega) (by unfold maxLen; omega) (Nat.le_refl _) ?_; intro w5 hown5 hgrow5; have HO5 : Hid (Own w4 w5 w4.heap.size 0 (len + 2 + len2) []) := Own.made hown5 hgrow5; clear hown5 hgrow5)
              | (at_builtin; refine wpList_pushAll rfl (.tmp 146) (.tmp 147) rfl w4 w4.heap.size 0 (len + 2 + len2) [] rfl HO5.out _ len (2 * len + 2) (s) HO4.out.row rfl (by omega) ?_; intro w6 h6; simp only [Nat.zero_add, List.nil_append] at h6; have HO6 : Hid (Own w4 w6 w4.heap.size len (len + 2 + len2) (s)) := h6; clear h6)
              | (at_builtin; refine wpList_push rfl (.tmp 149) (.tmp 150) rfl w4 w4.heap.size (len) (len + 2 + len2) (s) rfl HO6.out 58 rfl (by omega) ?_; intro w7 hw7; have HO7 : Hid (Own w4 w7 w4.heap.size (len + 1) (len + 2 + len2) (s ++ [58])) := hw7; clear hw7))
            have k8 := zzKeyEnd_any _ _ _ _ w7 HO7.out.row (by omega)
            rw [show s ++ [58] = s ++ 58 :: ([]) from by simp, HW.out ([]) (by simp), if_pos hbig] at k8
            refine k8.mono ?_
            rintro e w10 ⟨rfl, hb10⟩
            have HBZ : Hid (Below w'.heap.size w' w10) := tail_below HB2.out HO4.out HO7.out hb10
            clear k8 hb10
            go_wp2_with fail
            go_ret
            exact ⟨by simp, HBZ.out⟩
          | true =>
            go_wp2_with (first
              | (at_make; refine wpList_make_own _ rfl _ (.tmp 64) 22 rfl w2.heap.size 5 i0 (.int .u8 0) 1 Try.underlying22 hi hz0 hz1 _ _ _ (2 * len + 2) rfl rfl (by omega) (by rw [hz2]; omega) (by unfold maxLen; omega) (Nat.le_refl _) ?_; intro w3 hown3 hgrow3; have HO3 : Hid (Own w2 w3 w2.heap.size 0 (2 * len + 2) []) := Own.made hown3 hgrow3; clear hown3 hgrow3)
              | (at_builtin; refine wpList_pushAll rfl (.tmp 103) (.tmp 104) rfl w2 w2.heap.size 0 (2 * len + 2) [] rfl HO3.out _ len c3 s HR.out rfl (by omega) ?_; intro w4 h4; simp only [Nat.zero_add, List.nil_append] at h4; have HO4 : Hid (Own w2 w4 w2.heap.size len (2 * len + 2) s) := h4; clear h4)
              | (at_make; refine wpList_make_own _ rfl _ (.tmp 144) 22 rfl w4.heap.size 5 i0 (.int .u8 0) 1 Try.underlying22 hi hz0 hz1 _ _ _ (len + 2 + len2) rfl rfl (by omega) (by rw [hz2]; omega) (by unfold maxLen; omega) (Nat.le_refl _) ?_; intro w5 hown5 hgrow5; have HO5 : Hid (Own w4 w5 w4.heap.size 0 (len + 2 + len2) []) := Own.made hown5 hgrow5; clear hown5 hgrow5)
              | (at_builtin; refine wpList_pushAll rfl (.tmp 146) (.tmp 147) rfl w4 w4.heap.size 0 (len + 2 + len2) [] rfl HO5.out _ len (2 * len + 2) (s) HO4.out.row rfl (by omega) ?_; intro w6 h6; simp only [Nat.zero_add, List.nil_append] at h6; have HO6 : Hid (Own w4 w6 w4.heap.size len (len + 2 + len2) (s)) := h6; clear h6)
              | (at_builtin; refine wpList_push rfl (.tmp 149) (.tmp 150) rfl w4 w4.heap.size (len) (len + 2 + len2) (s) rfl HO6.out 58 rfl (by omega) ?_; intro w7 hw7; have HO7 : Hid (Own w4 w7 w4.heap.size (len + 1) (len + 2 + len2) (s ++ [58])) := hw7; clear hw7)
              | (at_builtin; refine wpList_push rfl (.tmp 153) (.tmp 154) rfl w4 w4.heap.size (len + 1) (len + 2 + len2) (s ++ [58]) rfl HO7.out 32 rfl (by omega) ?_; intro w8 hw8; have HO8 : Hid (Own w4 w8 w4.heap.size (len + 1 + 1) (len + 2 + len2) (s ++ [58] ++ [32])) := hw8; clear hw8)
              | (at_builtin; refine wpList_pushAll rfl (.tmp 156) (.tmp 157) rfl w4 w4.heap.size (len + 1 + 1) (len + 2 + len2) (s ++ [58] ++ [32]) rfl HO8.out _ len2 c4 v (HT.out.below HO4.out.2.1) rfl (by omega) ?_; intro w9 h9; have HO9 : Hid (Own w4 w9 w4.heap.size (len + 1 + 1 + len2) (len + 2 + len2) (s ++ [58] ++ [32] ++ v)) := h9; clear h9))
            have k8 := zzKeyEnd_any _ _ _ _ w9 HO9.out.row (by omega)
            rw [show s ++ [58] ++ [32] ++ v = s ++ 58 :: (32 :: v) from by simp, HW.out (32 :: v) (by simp), if_pos hbig] at k8
            refine k8.mono ?_
            rintro e w10 ⟨rfl, hb10⟩
            have HBZ : Hid (Below w'.heap.size w' w10) := tail_below HB2.out HO4.out HO9.out hb10
            clear k8 hb10
            go_wp2_with fail
            go_ret
            exact ⟨by simp, HBZ.out⟩
        · cases sp with
          | false =>
            go_wp2_with (first
              | (at_make; refine wpList_make_own _ rfl _ (.tmp 64) 22 rfl w2.heap.size 5 i0 (.int .u8 0) 1 Try.underlying22 hi hz0 hz1 _ _ _ (2 * len + 2) rfl rfl (by omega) (by rw [hz2]; omega) (by unfold maxLen; omega) (Nat.le_refl _) ?_; intro w3 hown3 hgrow3; have HO3 : Hid (Own w2 w3 w2.heap.size 0 (2 * len + 2) []) := Own.made hown3 hgrow3; clear hown3 hgrow3)
              | (at_builtin; refine wpList_pushAll rfl (.tmp 103) (.tmp 104) rfl w2 w2.heap.size 0 (2 * len + 2) [] rfl HO3.out _ len c3 s HR.out rfl (by omega) ?_; intro w4 h4; simp only [Nat.zero_add, List.nil_append] at h4; have HO4 : Hid (Own w2 w4 w2.heap.size len (2 * len + 2) s) := h4; clear h4)
              | (at_make; refine wpList_make_own _ rfl _ (.tmp 144) 22 rfl w4.heap.size 5 i0 (.int .u8 0) 1 Try.underlying22 hi hz0 hz1 _ _ _ (len + 2 + len2) rfl rfl (by omega) (by rw [hz2]; omega) (by unfold maxLen; omega) (Nat.le_refl _) ?_; intro w5 hown5 hgrow5; have HO5 : Hid (Own w4 w5 w4.heap.size 0 (len + 2 + len2) []) := Own.made hown5 hgrow5; clear hown5 hgrow5)
              | (at_builtin; refine wpList_pushAll rfl (.tmp 146) (.tmp 147) rfl w4 w4.heap.size 0 (len + 2 + len2) [] rfl HO5.out _ len (2 * len + 2) (s) HO4.out.row rfl (by omega) ?_; intro w6 h6; simp only [Nat.zero_add, List.nil_append] at h6; have HO6 : Hid (Own w4 w6 w4.heap.size len (len + 2 + len2) (s)) := h6; clear h6)
              | (at_builtin; refine wpList_push rfl (.tmp 149) (.tmp 150) rfl w4 w4.heap.size (len) (len + 2 + len2) (s) rfl HO6.out 58 rfl (by omega) ?_; intro w7 hw7; have HO7 : Hid (Own w4 w7 w4.heap.size (len + 1) (len + 2 + len2) (s ++ [58])) := hw7; clear hw7))
            have k8 := zzKeyEnd_any _ _ _ _ w7 HO7.out.row (by omega)
            rw [show s ++ [58] = s ++ 58 :: ([]) from by simp, HW.out ([]) (by simp), if_neg hbig] at k8
            refine k8.mono ?_
            rintro e w10 ⟨rfl, hb10⟩
            have HBZ : Hid (Below w'.heap.size w' w10) := tail_below HB2.out HO4.out HO7.out hb10
            clear k8 hb10
            go_wp2_with fail
            go_ret
            exact ⟨by simp, HBZ.out⟩
          | true =>
            go_wp2_with (first
              | (at_make; refine wpList_make_own _ rfl _ (.tmp 64) 22 rfl w2.heap.size 5 i0 (.int .u8 0) 1 Try.underlying22 hi hz0 hz1 _ _ _ (2 * len + 2) rfl rfl (by omega) (by rw [hz2]; omega) (by unfold maxLen; omega) (Nat.le_refl _) ?_; intro w3 hown3 hgrow3; have HO3 : Hid (Own w2 w3 w2.heap.size 0 (2 * len + 2) []) := Own.made hown3 hgrow3; clear hown3 hgrow3)
              | (at_builtin; refine wpList_pushAll rfl (.tmp 103) (.tmp 104) rfl w2 w2.heap.size 0 (2 * len + 2) [] rfl HO3.out _ len c3 s HR.out rfl (by omega) ?_; intro w4 h4; simp only [Nat.zero_add, List.nil_append] at h4; have HO4 : Hid (Own w2 w4 w2.heap.size len (2 * len + 2) s) := h4; clear h4)
              | (at_make; refine wpList_make_own _ rfl _ (.tmp 144) 22 rfl w4.heap.size 5 i0 (.int .u8 0) 1 Try.underlying22 hi hz0 hz1 _ _ _ (len + 2 + len2) rfl rfl (by omega) (by rw [hz2]; omega) (by unfold maxLen; omega) (Nat.le_refl _) ?_; intro w5 hown5 hgrow5; have HO5 : Hid (Own w4 w5 w4.heap.size 0 (len + 2 + len2) []) := Own.made hown5 hgrow5; clear hown5 hgrow5)
              | (at_builtin; refine wpList_pushAll rfl (.tmp 146) (.tmp 147) rfl w4 w4.heap.size 0 (len + 2 + len2) [] rfl HO5.out _ len (2 * len + 2) (s) HO4.out.row rfl (by omega) ?_; intro w6 h6; simp only [Nat.zero_add, List.nil_append] at h6; have HO6 : Hid (Own w4 w6 w4.heap.size len (len + 2 + len2) (s)) := h6; clear h6)
              | (at_builtin; refine wpList_push rfl (.tmp 149) (.tmp 150) rfl w4 w4.heap.size (len) (len + 2 + len2) (s) rfl HO6.out 58 rfl (by omega) ?_; intro w7 hw7; have HO7 : Hid (Own w4 w7 w4.heap.size (len + 1) (len + 2 + len2) (s ++ [58])) := hw7; clear hw7)
              | (at_builtin; refine wpList_push rfl (.tmp 153) (.tmp 154) rfl w4 w4.heap.size (len + 1) (len + 2 + len2) (s ++ [58]) rfl HO7.out 32 rfl (by omega) ?_; intro w8 hw8; have HO8 : Hid (Own w4 w8 w4.heap.size (len + 1 + 1) (len + 2 + len2) (s ++ [58] ++ [32])) := hw8; clear hw8)
              | (at_builtin; refine wpList_pushAll rfl (.tmp 156) (.tmp 157) rfl w4 w4.heap.size (len + 1 + 1) (len + 2 + len2) (s ++ [58] ++ [32]) rfl HO8.out _ len2 c4 v (HT.out.below HO4.out.2.1) rfl (by omega) ?_; intro w9 h9; have HO9 : Hid (Own w4 w9 w4.heap.size (len + 1 + 1 + len2) (len + 2 + len2) (s ++ [58] ++ [32] ++ v)) := h9; clear h9))
            have k8 := zzKeyEnd_any _ _ _ _ w9 HO9.out.row (by omega)
            rw [show s ++ [58] ++ [32] ++ v = s ++ 58 :: (32 :: v) from by simp, HW.out (32 :: v) (by simp), if_neg hbig] at k8
            refine k8.mono ?_
            rintro e w10 ⟨rfl, hb10⟩
            have HBZ : Hid (Below w'.heap.size w' w10) := tail_below HB2.out HO4.out HO9.out hb10
            clear k8 hb10
            go_wp2_with fail
            go_ret
            exact ⟨by simp, HBZ.out⟩
  · have hdl : decide ((0 : Int) < (len : Int)) = false := decide_eq_false (by omega)
    have HQ : Hid (∀ c, s.head? = some c → isQuote c = false) := by
      intro c hc
      have hs : s = [] := List.eq_nil_of_length_eq_zero (by have := h.1; omega)
      rw [hs] at hc
      simp at hc
    go_wp2_with fail
    go_loop [9] (fun si => ∃ k : Nat, k ≤ len ∧ si = .int .i64 k ∧ Hid (∀ j, j < k → s[j]?.getD 0 ≠ 58)) (fun si => len - (intOf si).toNat)
    case atStart => exact ⟨0, Nat.zero_le _, rfl, fun j hj => absurd hj (Nat.not_lt_zero _)⟩
    case round =>
      obtain ⟨k, hk, rfl, HK⟩ := hrel
      by_cases hlt : k < len
      · obtain ⟨b, o, hao, hb, hc⟩ := h.at k hlt
        cases hao
        have c0 := hc k hlt
        obtain ⟨x, hx⟩ : ∃ x, x = s[k]?.getD 0 := ⟨_, rfl⟩
        rw [← hx] at c0
        have HH : Hid (x = s[k]?.getD 0) := hx
        clear hx hc
        by_cases h58 : x = 58
        · subst h58
          go_wp2_with fail
          go_ret
          exact ⟨rfl, Below.refl _ _⟩
        · have hne := beq_of_ne h58
          go_wp2_with fail
          go_round
          case rel => exact ⟨k + 1, by omega, by go_num, fun j hj => if e : j = k then by rw [e, ← HH.out]; exact h58 else HK.out j (by omega)⟩
          case measure => simp [intOf]; omega
      · have HC58 : Hid (∀ c ∈ s, c ≠ 58) := by
          intro c hc
          obtain ⟨j, hj, rfl⟩ := List.getElem_of_mem hc
          have := HK.out j (by have := h.1; omega)
          rwa [List.getElem?_eq_getElem hj] at this
        clear HK
        go_wp2_with fail
        refine (clone_any _ len cap s w' h (by omega)).mono ?_
        rintro e w1 ⟨a3, c3, rfl, hr1, hb1⟩
        have ht1 := h2.below hb1
        clear h h2
        go_wp2_with fail
        refine (clone_any _ len2 cap2 v w1 ht1 (by omega)).mono ?_
        rintro e w2 ⟨a4, c4, rfl, ht2, hb2⟩
        have HR : Hid (Row w2 a3 len c3 s) := hr1.below hb2
        have HT : Hid (Row w2 a4 len2 c4 v) := ht2
        have HB2 : Hid (Below w'.heap.size w' w2) := hb1.trans (hb2.mono hb1.size)
        clear hr1 ht1 ht2 hb1 hb2

        have HW : Hid (∀ t : List Int, (t = [] ∨ t.head? = some 32) → ke (s ++ 58 :: t) = if 1000 < len then -1 else (len : Int)) := by
          intro t ht
          have hh := ke_written (style := 0) (s := s) (t := t) (fun _ => ⟨HC58.out, HQ.out⟩) ht
          simp only [written, if_true] at hh
          rw [hh, HR.out.1]
        by_cases hbig : 1000 < len
        · omega
        · cases sp with
          | false =>
            go_wp2_with (first
              | (at_make; refine wpList_make_own _ rfl _ (.tmp 64) 22 rfl w2.heap.size 5 i0 (.int .u8 0) 1 Try.underlying22 hi hz0 hz1 _ _ _ (2 * len + 2) rfl rfl (by omega) (by rw [hz2]; omega) (by unfold maxLen; omega) (Nat.le_refl _) ?_; intro w3 hown3 hgrow3; have HO3 : Hid (Own w2 w3 w2.heap.size 0 (2 * len + 2) []) := Own.made hown3 hgrow3; clear hown3 hgrow3)
              | (at_builtin; refine wpList_pushAll rfl (.tmp 103) (.tmp 104) rfl w2 w2.heap.size 0 (2 * len + 2) [] rfl HO3.out _ len c3 s HR.out rfl (by omega) ?_; intro w4 h4; simp only [Nat.zero_add, List.nil_append] at h4; have HO4 : Hid (Own w2 w4 w2.heap.size len (2 * len + 2) s) := h4; clear h4)
              | (at_make; refine wpList_make_own _ rfl _ (.tmp 144) 22 rfl w4.heap.size 5 i0 (.int .u8 0) 1 Try.underlying22 hi hz0 hz1 _ _ _ (len + 2 + len2) rfl rfl (by omega) (by rw [hz2]; omega) (by unfold maxLen; omega) (Nat.le_refl _) ?_; intro w5 hown5 hgrow5; have HO5 : Hid (Own w4 w5 w4.heap.size 0 (len + 2 + len2) []) := Own.made hown5 hgrow5; clear hown5 hgrow5)
              | (at_builtin; refine wpList_pushAll rfl (.tmp 146) (.tmp 147) rfl w4 w4.heap.size 0 (len + 2 + len2) [] rfl HO5.out _ len (2 * len + 2) (s) HO4.out.row rfl (by omega) ?_; intro w6 h6; simp only [Nat.zero_add, List.nil_append] at h6; have HO6 : Hid (Own w4 w6 w4.heap.size len (len + 2 + len2) (s)) := h6; clear h6)
              | (at_builtin; refine wpList_push rfl (.tmp 149) (.tmp 150) rfl w4 w4.heap.size (len) (len + 2 + len2) (s) rfl HO6.out 58 rfl (by omega) ?_; intro w7 hw7; have HO7 : Hid (Own w4 w7 w4.heap.size (len + 1) (len + 2 + len2) (s ++ [58])) := hw7; clear hw7))
            have k8 := zzKeyEnd_any _ _ _ _ w7 HO7.out.row (by omega)
            rw [show s ++ [58] = s ++ 58 :: ([]) from by simp, HW.out ([]) (by simp), if_neg hbig] at k8
            refine k8.mono ?_
            rintro e w10 ⟨rfl, hb10⟩
            have HBZ : Hid (Below w'.heap.size w' w10) := tail_below HB2.out HO4.out HO7.out hb10
            clear k8 hb10
            go_wp2_with fail
            go_ret
            exact ⟨by simp, HBZ.out⟩
          | true =>
            go_wp2_with (first
              | (at_make; refine wpList_make_own _ rfl _ (.tmp 64) 22 rfl w2.heap.size 5 i0 (.int .u8 0) 1 Try.underlying22 hi hz0 hz1 _ _ _ (2 * len + 2) rfl rfl (by omega) (by rw [hz2]; omega) (by unfold maxLen; omega) (Nat.le_refl _) ?_; intro w3 hown3 hgrow3; have HO3 : Hid (Own w2 w3 w2.heap.size 0 (2 * len + 2) []) := Own.made hown3 hgrow3; clear hown3 hgrow3)
              | (at_builtin; refine wpList_pushAll rfl (.tmp 103) (.tmp 104) rfl w2 w2.heap.size 0 (2 * len + 2) [] rfl HO3.out _ len c3 s HR.out rfl (by omega) ?_; intro w4 h4; simp only [Nat.zero_add, List.nil_append] at h4; have HO4 : Hid (Own w2 w4 w2.heap.size len (2 * len + 2) s) := h4; clear h4)
              | (at_make; refine wpList_make_own _ rfl _ (.tmp 144) 22 rfl w4.heap.size 5 i0 (.int .u8 0) 1 Try.underlying22 hi hz0 hz1 _ _ _ (len + 2 + len2) rfl rfl (by omega) (by rw [hz2]; omega) (by unfold maxLen; omega) (Nat.le_refl _) ?_; intro w5 hown5 hgrow5; have HO5 : Hid (Own w4 w5 w4.heap.size 0 (len + 2 + len2) []) := Own.made hown5 hgrow5; clear hown5 hgrow5)
              | (at_builtin; refine wpList_pushAll rfl (.tmp 146) (.tmp 147) rfl w4 w4.heap.size 0 (len + 2 + len2) [] rfl HO5.out _ len (2 * len + 2) (s) HO4.out.row rfl (by omega) ?_; intro w6 h6; simp only [Nat.zero_add, List.nil_append] at h6; have HO6 : Hid (Own w4 w6 w4.heap.size len (len + 2 + len2) (s)) := h6; clear h6)
              | (at_builtin; refine wpList_push rfl (.tmp 149) (.tmp 150) rfl w4 w4.heap.size (len) (len + 2 + len2) (s) rfl HO6.out 58 rfl (by omega) ?_; intro w7 hw7; have HO7 : Hid (Own w4 w7 w4.heap.size (len + 1) (len + 2 + len2) (s ++ [58])) := hw7; clear hw7)
              | (at_builtin; refine wpList_push rfl (.tmp 153) (.tmp 154) rfl w4 w4.heap.size (len + 1) (len + 2 + len2) (s ++ [58]) rfl HO7.out 32 rfl (by omega) ?_; intro w8 hw8; have HO8 : Hid (Own w4 w8 w4.heap.size (len + 1 + 1) (len + 2 + len2) (s ++ [58] ++ [32])) := hw8; clear hw8)
              | (at_builtin; refine wpList_pushAll rfl (.tmp 156) (.tmp 157) rfl w4 w4.heap.size (len + 1 + 1) (len + 2 + len2) (s ++ [58] ++ [32]) rfl HO8.out _ len2 c4 v (HT.out.below HO4.out.2.1) rfl (by omega) ?_; intro w9 h9; have HO9 : Hid (Own w4 w9 w4.heap.size (len + 1 + 1 + len2) (len + 2 + len2) (s ++ [58] ++ [32] ++ v)) := h9; clear h9))
            have k8 := zzKeyEnd_any _ _ _ _ w9 HO9.out.row (by omega)
            rw [show s ++ [58] ++ [32] ++ v = s ++ 58 :: (32 :: v) from by simp, HW.out (32 :: v) (by simp), if_neg hbig] at k8
            refine k8.mono ?_
            rintro e w10 ⟨rfl, hb10⟩
            have HBZ : Hid (Below w'.heap.size w' w10) := tail_below HB2.out HO4.out HO9.out hb10
            clear k8 hb10
            go_wp2_with fail
            go_ret
            exact ⟨by simp, HBZ.out⟩
end Go.Proofs.Qxb6606438a
