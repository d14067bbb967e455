import Derived.Test.Qxb6606438aOwn
import Derived.Test.Qxb6606438aLawF
namespace Go.Proofs.Qxb6606438a
open Go.RowKit

set_option maxRecDepth 100000 in
set_option maxHeartbeats 4000000 in
theorem law5_2 (a : Option Addr) (len cap : Nat) (s : List Int) (a2 : Option Addr) (len2 cap2 : Nat) (v : List Int) (sp : Bool) (st : Int) (w : World) (h : Row w a len cap s) (h2 : Row w a2 len2 cap2 v) (hm : len ≤ maxLen) (hm2 : len2 ≤ maxLen) (hst : st ≠ 0) (hst1 : st ≠ 1) :
    Calls Try.prog 5 #[.slice a len cap, .slice a2 len2 cap2, .bool sp, .int .u8 st] w fun e w' => e = .returned (.bool true) ∧ Below w.heap.size w w' := by
  unfold maxLen at hm hm2
  obtain ⟨i0, hi, hz0, hz1, hz2⟩ := info_parts Try.info5
  go_enter Try.func5, Try.ntmps5
  go_wp2_with fail
  refine (bytes11_any _ _ _ _ _ _ _ _ _ hm hm2).mono ?_
  rintro e w' ⟨⟨x, rfl⟩, rfl⟩
  cases x with
  | false =>
    go_wp2_with fail
    go_ret
    exact ⟨rfl, Below.refl _ _⟩
  | true =>
  by_cases h0 : 262144 < len
  · go_wp2_with fail
    go_ret
    exact ⟨rfl, Below.refl _ _⟩
  have hd0 : decide ((262144 : Int) < (len : Int)) = false := decide_eq_false (by omega)
  by_cases h1 : 262144 < len2
  · go_wp2_with fail
    go_ret
    exact ⟨rfl, Below.refl _ _⟩
  have hd1 : decide ((262144 : Int) < (len2 : Int)) = false := decide_eq_false (by omega)
  have hs0 := beq_of_ne hst
  have hs1 := beq_of_ne hst1
  go_wp2_with fail
  refine (clone_any _ len cap s w' h (by omega)).mono ?_
  rintro e w1 ⟨a3, c3, rfl, hr1, hb1⟩
  have ht1 := h2.below hb1
  clear h h2
  go_wp2_with fail
  refine (clone_any _ len2 cap2 v w1 ht1 (by omega)).mono ?_
  rintro e w2 ⟨a4, c4, rfl, ht2, hb2⟩
  have HR : Hid (Row w2 a3 len c3 s) := hr1.below hb2
  have HT : Hid (Row w2 a4 len2 c4 v) := ht2
  have HB2 : Hid (Below w'.heap.size w' w2) := hb1.trans (hb2.mono hb1.size)
  clear hr1 ht1 ht2 hb1 hb2
  go_wp2_with (first
    | (at_make; refine wpList_make_own _ rfl _ (.tmp 64) 22 rfl w2.heap.size 5 i0 (.int .u8 0) 1 Try.underlying22 hi hz0 hz1 _ _ _ (2 * len + 2) rfl rfl (by omega) (by rw [hz2]; omega) (by unfold maxLen; omega) (Nat.le_refl _) ?_; intro w3 hown3 hgrow3; have HO3 : Hid (Own w2 w3 w2.heap.size 0 (2 * len + 2) []) := Own.made hown3 hgrow3; clear hown3 hgrow3)
    | (at_builtin; refine wpList_push rfl (.tmp 67) (.tmp 68) rfl w2 w2.heap.size (0) (2 * len + 2) ([]) rfl HO3.out 34 rfl (by omega) ?_; intro w4 hw4; have HO4 : Hid (Own w2 w4 w2.heap.size (0 + 1) (2 * len + 2) ([] ++ [34])) := hw4; clear hw4)
    | fail)
  go_loopw [10, 12] (fun out si wr => ∃ k n : Nat, k ≤ len ∧ si = .int .i64 k ∧ n ≤ 1 + 2 * k ∧ out = .slice (some ⟨w2.heap.size, 0, none⟩) n (2 * len + 2) ∧ Hid (Own w2 wr w2.heap.size n (2 * len + 2) (34 :: esc2 (s.take k)))) (fun _ si _ => len - (intOf si).toNat)
  case atStart => exact ⟨0, 1, Nat.zero_le _, rfl, by omega, rfl, HO4.out⟩
  case round =>
    clear HO4
    obtain ⟨k, n, hk, rfl, hn, rfl, HO⟩ := hrel
    by_cases hlt : k < len
    · obtain ⟨b, o, hao, hb, hc⟩ := HR.out.at k hlt
      cases hao
      obtain ⟨x, hx⟩ : ∃ x, x = s[k]?.getD 0 := ⟨_, rfl⟩
      have HC : Hid (∀ W, Below w2.heap.size w2 W → W.cell? ⟨b, o + k, none⟩ = some (.int .u8 x)) := fun W hW => by rw [hx]; exact (hW.cell (by exact hb)).trans (hc k hlt)
      have c0 := HC.out wr HO.out.2.1
      have HH : Hid (s[k]?.getD 0 = x) := hx.symm
      have HL : Hid (k < s.length) := by have := HR.out.1; show k < s.length; omega
      clear hx hc
      by_cases h34 : x = 34
      · subst h34
        go_wp2_with (first
          | (at_builtin; refine wpList_push rfl (.tmp 88) (.tmp 89) rfl w2 w2.heap.size (n) (2 * len + 2) (34 :: esc2 (s.take k)) rfl HO.out 92 rfl (by omega) ?_; intro w5 hw5; have HO5 : Hid (Own w2 w5 w2.heap.size (n + 1) (2 * len + 2) (34 :: esc2 (s.take k) ++ [92])) := hw5; have c1 := HC.out w5 hw5.2.1; clear hw5)
          | (at_builtin; refine wpList_push rfl (.tmp 91) (.tmp 96) rfl w2 w2.heap.size (n + 1) (2 * len + 2) (34 :: esc2 (s.take k) ++ [92]) rfl HO5.out 34 rfl (by omega) ?_; intro w6 hw6; have HO6 : Hid (Own w2 w6 w2.heap.size (n + 1 + 1) (2 * len + 2) (34 :: esc2 (s.take k) ++ [92] ++ [34])) := hw6; clear hw6))
        go_roundw
        case rel => exact ⟨k + 1, n + 1 + 1, by omega, by go_num, by omega, rfl, by have hh := HO6.out; rw [esc2_q HL.out (.inl HH.out), HH.out]; show Own _ _ _ _ _ _; simpa using hh⟩
        case measure => simp [intOf]; omega
      · have hne := beq_of_ne h34
        by_cases h92 : x = 92
        · subst h92
          go_wp2_with (first
            | (at_builtin; refine wpList_push rfl (.tmp 88) (.tmp 89) rfl w2 w2.heap.size (n) (2 * len + 2) (34 :: esc2 (s.take k)) rfl HO.out 92 rfl (by omega) ?_; intro w5 hw5; have HO5 : Hid (Own w2 w5 w2.heap.size (n + 1) (2 * len + 2) (34 :: esc2 (s.take k) ++ [92])) := hw5; have c1 := HC.out w5 hw5.2.1; clear hw5)
            | (at_builtin; refine wpList_push rfl (.tmp 91) (.tmp 96) rfl w2 w2.heap.size (n + 1) (2 * len + 2) (34 :: esc2 (s.take k) ++ [92]) rfl HO5.out 92 rfl (by omega) ?_; intro w6 hw6; have HO6 : Hid (Own w2 w6 w2.heap.size (n + 1 + 1) (2 * len + 2) (34 :: esc2 (s.take k) ++ [92] ++ [92])) := hw6; clear hw6))
          go_roundw
          case rel => exact ⟨k + 1, n + 1 + 1, by omega, by go_num, by omega, rfl, by have hh := HO6.out; rw [esc2_q HL.out (.inr HH.out), HH.out]; show Own _ _ _ _ _ _; simpa using hh⟩
          case measure => simp [intOf]; omega
        · have hne2 := beq_of_ne h92
          go_wp2_with (at_builtin; refine wpList_push rfl (.tmp 91) (.tmp 96) rfl w2 w2.heap.size (n) (2 * len + 2) (34 :: esc2 (s.take k)) rfl HO.out x rfl (by omega) ?_; intro w6 hw6; have HO6 : Hid (Own w2 w6 w2.heap.size (n + 1) (2 * len + 2) (34 :: esc2 (s.take k) ++ [x])) := hw6; clear hw6)
          go_roundw
          case rel => exact ⟨k + 1, n + 1, by omega, by go_num, by omega, rfl, by have hh := HO6.out; rw [esc2_o HL.out (by rw [HH.out]; omega), HH.out]; show Own _ _ _ _ _ _; simpa using hh⟩
          case measure => simp [intOf]; omega
    · have e : k = len := by omega
      subst e
      have HOE : Hid (Own w2 wr w2.heap.size n (2 * k + 2) (34 :: esc2 s)) := by
        have hh := HO.out
        rw [List.take_of_length_le (by have := HR.out.1; omega)] at hh
        exact hh
      clear HO
      have HW : Hid (∀ t : List Int, (t = [] ∨ t.head? = some 32) → ke ((34 :: esc2 s ++ [34]) ++ 58 :: t) = if 1000 < n + 1 then -1 else ((n + 1 : Nat) : Int)) := by
        intro t ht
        have hh := ke_written (style := 2) (s := s) (t := t) (fun e => absurd e (by decide)) ht
        have hl := HOE.out.len
        rw [written_2] at hh
        rw [List.cons_append, hh]
        simp only [List.length_cons, List.length_append, List.length_nil] at hl ⊢
        rw [show (esc2 s).length + (0 + 1) + 1 = n + 1 by omega]
      by_cases hbig : 1000 < (n + 1)
      · cases sp with
        | false =>
          go_wp2_with (first
            | (at_builtin; refine wpList_push rfl (.tmp 98) (.tmp 99) rfl w2 w2.heap.size n (2 * k + 2) (34 :: esc2 s) rfl HOE.out 34 rfl (by omega) ?_; intro w4 hw4; have HO4 : Hid (Own w2 w4 w2.heap.size (n + 1) (2 * k + 2) (34 :: esc2 s ++ [34])) := hw4; clear hw4)
            | (at_make; refine wpList_make_own _ rfl _ (.tmp 144) 22 rfl w4.heap.size 5 i0 (.int .u8 0) 1 Try.underlying22 hi hz0 hz1 _ _ _ ((n + 1) + 2 + len2) rfl rfl (by omega) (by rw [hz2]; omega) (by unfold maxLen; omega) (Nat.le_refl _) ?_; intro w5 hown5 hgrow5; have HO5 : Hid (Own w4 w5 w4.heap.size 0 ((n + 1) + 2 + len2) []) := Own.made hown5 hgrow5; clear hown5 hgrow5)
            | (at_builtin; refine wpList_pushAll rfl (.tmp 146) (.tmp 147) rfl w4 w4.heap.size 0 ((n + 1) + 2 + len2) [] rfl HO5.out _ (n + 1) (2 * k + 2) (34 :: esc2 s ++ [34]) HO4.out.row rfl (by omega) ?_; intro w6 h6; simp only [Nat.zero_add, List.nil_append] at h6; have HO6 : Hid (Own w4 w6 w4.heap.size (n + 1) ((n + 1) + 2 + len2) (34 :: esc2 s ++ [34])) := h6; clear h6)
            | (at_builtin; refine wpList_push rfl (.tmp 149) (.tmp 150) rfl w4 w4.heap.size ((n + 1)) ((n + 1) + 2 + len2) (34 :: esc2 s ++ [34]) rfl HO6.out 58 rfl (by omega) ?_; intro w7 hw7; have HO7 : Hid (Own w4 w7 w4.heap.size ((n + 1) + 1) ((n + 1) + 2 + len2) (34 :: esc2 s ++ [34] ++ [58])) := hw7; clear hw7))
          have k8 := zzKeyEnd_any _ _ _ _ w7 HO7.out.row (by omega)
          rw [show 34 :: esc2 s ++ [34] ++ [58] = 34 :: esc2 s ++ [34] ++ 58 :: ([]) from by simp, HW.out ([]) (by simp), if_pos hbig] at k8
          refine k8.mono ?_
          rintro e w10 ⟨rfl, hb10⟩
          have HBZ : Hid (Below w'.heap.size w' w10) := tail_below HB2.out HO4.out HO7.out hb10
          clear k8 hb10
          go_wp2_with fail
          go_ret
          exact ⟨by simp, HBZ.out⟩
        | true =>
          go_wp2_with (first
            | (at_builtin; refine wpList_push rfl (.tmp 98) (.tmp 99) rfl w2 w2.heap.size n (2 * k + 2) (34 :: esc2 s) rfl HOE.out 34 rfl (by omega) ?_; intro w4 hw4; have HO4 : Hid (Own w2 w4 w2.heap.size (n + 1) (2 * k + 2) (34 :: esc2 s ++ [34])) := hw4; clear hw4)
            | (at_make; refine wpList_make_own _ rfl _ (.tmp 144) 22 rfl w4.heap.size 5 i0 (.int .u8 0) 1 Try.underlying22 hi hz0 hz1 _ _ _ ((n + 1) + 2 + len2) rfl rfl (by omega) (by rw [hz2]; omega) (by unfold maxLen; omega) (Nat.le_refl _) ?_; intro w5 hown5 hgrow5; have HO5 : Hid (Own w4 w5 w4.heap.size 0 ((n + 1) + 2 + len2) []) := Own.made hown5 hgrow5; clear hown5 hgrow5)
            | (at_builtin; refine wpList_pushAll rfl (.tmp 146) (.tmp 147) rfl w4 w4.heap.size 0 ((n + 1) + 2 + len2) [] rfl HO5.out _ (n + 1) (2 * k + 2) (34 :: esc2 s ++ [34]) HO4.out.row rfl (by omega) ?_; intro w6 h6; simp only [Nat.zero_add, List.nil_append] at h6; have HO6 : Hid (Own w4 w6 w4.heap.size (n + 1) ((n + 1) + 2 + len2) (34 :: esc2 s ++ [34])) := h6; clear h6)
            | (at_builtin; refine wpList_push rfl (.tmp 149) (.tmp 150) rfl w4 w4.heap.size ((n + 1)) ((n + 1) + 2 + len2) (34 :: esc2 s ++ [34]) rfl HO6.out 58 rfl (by omega) ?_; intro w7 hw7; have HO7 : Hid (Own w4 w7 w4.heap.size ((n + 1) + 1) ((n + 1) + 2 + len2) (34 :: esc2 s ++ [34] ++ [58])) := hw7; clear hw7)
            | (at_builtin; refine wpList_push rfl (.tmp 153) (.tmp 154) rfl w4 w4.heap.size ((n + 1) + 1) ((n + 1) + 2 + len2) (34 :: esc2 s ++ [34] ++ [58]) rfl HO7.out 32 rfl (by omega) ?_; intro w8 hw8; have HO8 : Hid (Own w4 w8 w4.heap.size ((n + 1) + 1 + 1) ((n + 1) + 2 + len2) (34 :: esc2 s ++ [34] ++ [58] ++ [32])) := hw8; clear hw8)
            | (at_builtin; refine wpList_pushAll rfl (.tmp 156) (.tmp 157) rfl w4 w4.heap.size ((n + 1) + 1 + 1) ((n + 1) + 2 + len2) (34 :: esc2 s ++ [34] ++ [58] ++ [32]) rfl HO8.out _ len2 c4 v (HT.out.below HO4.out.2.1) rfl (by omega) ?_; intro w9 h9; have HO9 : Hid (Own w4 w9 w4.heap.size ((n + 1) + 1 + 1 + len2) ((n + 1) + 2 + len2) (34 :: esc2 s ++ [34] ++ [58] ++ [32] ++ v)) := h9; clear h9))
          have k8 := zzKeyEnd_any _ _ _ _ w9 HO9.out.row (by omega)
          rw [show 34 :: esc2 s ++ [34] ++ [58] ++ [32] ++ v = 34 :: esc2 s ++ [34] ++ 58 :: (32 :: v) from by simp, HW.out (32 :: v) (by simp), if_pos hbig] at k8
          refine k8.mono ?_
          rintro e w10 ⟨rfl, hb10⟩
          have HBZ : Hid (Below w'.heap.size w' w10) := tail_below HB2.out HO4.out HO9.out hb10
          clear k8 hb10
          go_wp2_with fail
          go_ret
          exact ⟨by simp, HBZ.out⟩
      · cases sp with
        | false =>
          go_wp2_with (first
            | (at_builtin; refine wpList_push rfl (.tmp 98) (.tmp 99) rfl w2 w2.heap.size n (2 * k + 2) (34 :: esc2 s) rfl HOE.out 34 rfl (by omega) ?_; intro w4 hw4; have HO4 : Hid (Own w2 w4 w2.heap.size (n + 1) (2 * k + 2) (34 :: esc2 s ++ [34])) := hw4; clear hw4)
            | (at_make; refine wpList_make_own _ rfl _ (.tmp 144) 22 rfl w4.heap.size 5 i0 (.int .u8 0) 1 Try.underlying22 hi hz0 hz1 _ _ _ ((n + 1) + 2 + len2) rfl rfl (by omega) (by rw [hz2]; omega) (by unfold maxLen; omega) (Nat.le_refl _) ?_; intro w5 hown5 hgrow5; have HO5 : Hid (Own w4 w5 w4.heap.size 0 ((n + 1) + 2 + len2) []) := Own.made hown5 hgrow5; clear hown5 hgrow5)
            | (at_builtin; refine wpList_pushAll rfl (.tmp 146) (.tmp 147) rfl w4 w4.heap.size 0 ((n + 1) + 2 + len2) [] rfl HO5.out _ (n + 1) (2 * k + 2) (34 :: esc2 s ++ [34]) HO4.out.row rfl (by omega) ?_; intro w6 h6; simp only [Nat.zero_add, List.nil_append] at h6; have HO6 : Hid (Own w4 w6 w4.heap.size (n + 1) ((n + 1) + 2 + len2) (34 :: esc2 s ++ [34])) := h6; clear h6)
            | (at_builtin; refine wpList_push rfl (.tmp 149) (.tmp 150) rfl w4 w4.heap.size ((n + 1)) ((n + 1) + 2 + len2) (34 :: esc2 s ++ [34]) rfl HO6.out 58 rfl (by omega) ?_; intro w7 hw7; have HO7 : Hid (Own w4 w7 w4.heap.size ((n + 1) + 1) ((n + 1) + 2 + len2) (34 :: esc2 s ++ [34] ++ [58])) := hw7; clear hw7))
          have k8 := zzKeyEnd_any _ _ _ _ w7 HO7.out.row (by omega)
          rw [show 34 :: esc2 s ++ [34] ++ [58] = 34 :: esc2 s ++ [34] ++ 58 :: ([]) from by simp, HW.out ([]) (by simp), if_neg hbig] at k8
          refine k8.mono ?_
          rintro e w10 ⟨rfl, hb10⟩
          have HBZ : Hid (Below w'.heap.size w' w10) := tail_below HB2.out HO4.out HO7.out hb10
          clear k8 hb10
          go_wp2_with fail
          go_ret
          exact ⟨by simp, HBZ.out⟩
        | true =>
          go_wp2_with (first
            | (at_builtin; refine wpList_push rfl (.tmp 98) (.tmp 99) rfl w2 w2.heap.size n (2 * k + 2) (34 :: esc2 s) rfl HOE.out 34 rfl (by omega) ?_; intro w4 hw4; have HO4 : Hid (Own w2 w4 w2.heap.size (n + 1) (2 * k + 2) (34 :: esc2 s ++ [34])) := hw4; clear hw4)
            | (at_make; refine wpList_make_own _ rfl _ (.tmp 144) 22 rfl w4.heap.size 5 i0 (.int .u8 0) 1 Try.underlying22 hi hz0 hz1 _ _ _ ((n + 1) + 2 + len2) rfl rfl (by omega) (by rw [hz2]; omega) (by unfold maxLen; omega) (Nat.le_refl _) ?_; intro w5 hown5 hgrow5; have HO5 : Hid (Own w4 w5 w4.heap.size 0 ((n + 1) + 2 + len2) []) := Own.made hown5 hgrow5; clear hown5 hgrow5)
            | (at_builtin; refine wpList_pushAll rfl (.tmp 146) (.tmp 147) rfl w4 w4.heap.size 0 ((n + 1) + 2 + len2) [] rfl HO5.out _ (n + 1) (2 * k + 2) (34 :: esc2 s ++ [34]) HO4.out.row rfl (by omega) ?_; intro w6 h6; simp only [Nat.zero_add, List.nil_append] at h6; have HO6 : Hid (Own w4 w6 w4.heap.size (n + 1) ((n + 1) + 2 + len2) (34 :: esc2 s ++ [34])) := h6; clear h6)
            | (at_builtin; refine wpList_push rfl (.tmp 149) (.tmp 150) rfl w4 w4.heap.size ((n + 1)) ((n + 1) + 2 + len2) (34 :: esc2 s ++ [34]) rfl HO6.out 58 rfl (by omega) ?_; intro w7 hw7; have HO7 : Hid (Own w4 w7 w4.heap.size ((n + 1) + 1) ((n + 1) + 2 + len2) (34 :: esc2 s ++ [34] ++ [58])) := hw7; clear hw7)
            | (at_builtin; refine wpList_push rfl (.tmp 153) (.tmp 154) rfl w4 w4.heap.size ((n + 1) + 1) ((n + 1) + 2 + len2) (34 :: esc2 s ++ [34] ++ [58]) rfl HO7.out 32 rfl (by omega) ?_; intro w8 hw8; have HO8 : Hid (Own w4 w8 w4.heap.size ((n + 1) + 1 + 1) ((n + 1) + 2 + len2) (34 :: esc2 s ++ [34] ++ [58] ++ [32])) := hw8; clear hw8)
            | (at_builtin; refine wpList_pushAll rfl (.tmp 156) (.tmp 157) rfl w4 w4.heap.size ((n + 1) + 1 + 1) ((n + 1) + 2 + len2) (34 :: esc2 s ++ [34] ++ [58] ++ [32]) rfl HO8.out _ len2 c4 v (HT.out.below HO4.out.2.1) rfl (by omega) ?_; intro w9 h9; have HO9 : Hid (Own w4 w9 w4.heap.size ((n + 1) + 1 + 1 + len2) ((n + 1) + 2 + len2) (34 :: esc2 s ++ [34] ++ [58] ++ [32] ++ v)) := h9; clear h9))
          have k8 := zzKeyEnd_any _ _ _ _ w9 HO9.out.row (by omega)
          rw [show 34 :: esc2 s ++ [34] ++ [58] ++ [32] ++ v = 34 :: esc2 s ++ [34] ++ 58 :: (32 :: v) from by simp, HW.out (32 :: v) (by simp), if_neg hbig] at k8
          refine k8.mono ?_
          rintro e w10 ⟨rfl, hb10⟩
          have HBZ : Hid (Below w'.heap.size w' w10) := tail_below HB2.out HO4.out HO9.out hb10
          clear k8 hb10
          go_wp2_with fail
          go_ret
          exact ⟨by simp, HBZ.out⟩
end Go.Proofs.Qxb6606438a
