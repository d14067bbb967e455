import Derived.Test.Qxb6003669aLeads
import Derived.Test.Qxb6003669aWalkC
import Derived.Test.Qxb6003669aWalkE
namespace Go.Proofs.Qxb6003669a
open Go.RowKit Go.Maps Go.WideMaps

/-- Whoever blocks i leads i or blocks the nearest exclusive one ahead. -/
theorem cover {f : ByteArray → Option Value} {ts : List ByteArray} {bs : List Bool} {i e : Nat} (hs : ∀ j, e < j → j < i → bs.getD j false = true) (hx : bs.getD e false = false) {x : ByteArray} (h : Blk f ts bs i x) : Lead ts bs i e x ∨ Blk f ts bs e x := by
  have hme : modeOf (bs.getD e false) = 0 := by rw [hx]; rfl
  rcases h with ⟨hsz, c, hc, hne, hcm⟩ | ⟨j, hj, hxj, hcm⟩
  · by_cases e1 : x = ts.getD e ByteArray.empty
    · exact .inl (.inr e1)
    · exact .inr (.inl ⟨hsz, c, hc, e1, fun k => by rw [hme] at k; exact absurd k.2 (by decide)⟩)
  · by_cases e1 : j < e
    · exact .inr (.inr ⟨j, e1, hxj, fun k => by rw [hme] at k; exact absurd k.2 (by decide)⟩)
    · by_cases e2 : j = e
      · exact .inl (.inr (by rw [← e2]; exact hxj))
      · refine .inl (.inl ⟨?_, j, by omega, hj, hxj⟩)
        have hmj : modeOf (bs.getD j false) = 1 := by rw [hs j (by omega) hj]; rfl
        cases hb : bs.getD i false with
        | false => rfl
        | true => rw [hb] at hcm; exact absurd ⟨hmj, rfl⟩ hcm

set_option maxRecDepth 100000 in
set_option maxHeartbeats 3200000 in
/-- The law. -/
theorem law3 (a0 : Option Addr) (len0 cap0 : Nat) (hs : List ByteArray) (a1 : Option Addr) (len1 cap1 : Nat) (hb : List Bool) (a2 : Option Addr) (len2 cap2 : Nat) (ts : List ByteArray) (a3 : Option Addr) (len3 cap3 : Nat) (bs : List Bool) (z : Int) (w : World)
    (r0 : SRow w a0 len0 cap0 hs) (r1 : BRow w a1 len1 cap1 hb) (r2 : SRow w a2 len2 cap2 ts) (r3 : BRow w a3 len3 cap3 bs) (m0 : len0 ≤ maxLen) (m1 : len1 ≤ maxLen) (m2 : len2 ≤ maxLen) (m3 : len3 ≤ maxLen) (hk : ∀ s ∈ hs, s.size ≤ maxLen) :
    Calls Try.prog 3 #[.slice a0 len0 cap0, .slice a1 len1 cap1, .slice a2 len2 cap2, .slice a3 len3 cap3, .int .i64 z] w fun e w' => e = .returned (.bool true) ∧ Below w.heap.size w w' := by
  unfold maxLen at m0 m1 m2 m3
  have R : Hid (SRow w a0 len0 cap0 hs ∧ BRow w a1 len1 cap1 hb ∧ SRow w a2 len2 cap2 ts ∧ BRow w a3 len3 cap3 bs ∧ ∀ s ∈ hs, s.size ≤ maxLen) := ⟨r0, r1, r2, r3, hk⟩
  clear r0 r1 r2 r3 hk
  go_enter Try.func3, Try.ntmps3
  go_wp2_with fail
  refine (bytes7_any a0 len0 cap0 hs a1 len1 cap1 a2 len2 cap2 ts a3 len3 cap3 z w R.out.1 R.out.2.2.1 (by omega) (by omega) (by omega) (by omega)).mono ?_
  rintro e w' ⟨⟨x, rfl⟩, hw⟩
  replace hw := hw.symm
  subst hw
  cases x with
  | false =>
    go_wp2_with fail
    go_ret
    exact ⟨rfl, Below.refl _ _⟩
  | true =>
  go_wp2_with fail
  refine (tooBig_any a0 len0 cap0 hs a1 len1 cap1 a2 len2 cap2 ts a3 len3 cap3 w R.out.1 R.out.2.2.1 (by omega) (by omega) (by omega) (by omega)).mono ?_
  rintro e w' ⟨⟨x, rfl, hfit⟩, hw⟩
  replace hw := hw.symm
  subst hw
  cases x with
  | true =>
    clear hfit
    go_wp2_with fail
    go_ret
    exact ⟨rfl, Below.refl _ _⟩
  | false =>
  obtain ⟨l0, l1, l2, l3⟩ := hfit rfl
  clear hfit m0 m1 m2 m3
  by_cases e01 : len0 = len1
  case neg =>
    have e01' : decide ((len0 : Int) = (len1 : Int)) = false := decide_eq_false (by omega)
    go_wp2_with fail
    go_ret
    exact ⟨rfl, Below.refl _ _⟩
  by_cases e23 : len2 = len3
  case neg =>
    have e23' : decide ((len2 : Int) = (len3 : Int)) = false := decide_eq_false (by omega)
    subst e01
    go_wp2_with fail
    go_ret
    exact ⟨rfl, Below.refl _ _⟩
  subst e01
  subst e23
  by_cases hz0 : z < 0
  · go_wp2_with fail
    go_ret
    exact ⟨rfl, Below.refl _ _⟩
  by_cases hz1 : z < len2
  case neg =>
    go_wp2_with fail
    go_ret
    exact ⟨rfl, Below.refl _ _⟩
  obtain ⟨i, rfl⟩ : ∃ i : Nat, z = (i : Int) := ⟨z.toNat, by omega⟩
  have hi : i < len2 := by omega
  clear hz0 hz1
  go_wp2_with fail
  refine (near_any a3 len2 cap3 bs i w R.out.2.2.2.1 l2 hi).mono ?_
  rintro r w' ⟨⟨n, rfl, hN⟩, hw⟩
  replace hw := hw.symm
  subst hw
  by_cases hn0 : n < 0
  · clear hN
    go_wp2_with fail
    go_ret
    exact ⟨rfl, Below.refl _ _⟩
  obtain ⟨e, rfl⟩ : ∃ e : Nat, n = (e : Int) := ⟨n.toNat, by omega⟩
  have he : e < i := by have := hN.1; omega
  have HS : Hid ((∀ j, e < j → j < i → bs.getD j false = true) ∧ bs.getD e false = false) := ⟨fun j h1 h2 => hN.2.2.1 j (by omega) h2, by have := hN.2.2.2 (by omega); simpa using this⟩
  clear hN hn0
  go_wp2_with fail
  refine (cloneS_any a0 len0 cap0 hs w R.out.1 (by omega)).mono ?_
  rintro r w1 ⟨b0, c0, rfl, q0, hb1⟩
  have R1 : Hid (SRow w1 b0 len0 c0 hs ∧ BRow w1 a1 len0 cap1 hb ∧ SRow w1 a2 len2 cap2 ts ∧ BRow w1 a3 len2 cap3 bs ∧ (∀ s ∈ hs, s.size ≤ maxLen) ∧ Below w.heap.size w w1) := ⟨q0, R.out.2.1.below hb1, R.out.2.2.1.below hb1, R.out.2.2.2.1.below hb1, R.out.2.2.2.2, hb1⟩
  clear q0 hb1 R
  go_wp2_with fail
  refine (cloneB_any a1 len0 cap1 hb w1 R1.out.2.1 (by omega)).mono ?_
  rintro r w2 ⟨b1, c1, rfl, q1, hb2⟩
  have R2 : Hid (SRow w2 b0 len0 c0 hs ∧ BRow w2 b1 len0 c1 hb ∧ SRow w2 a2 len2 cap2 ts ∧ BRow w2 a3 len2 cap3 bs ∧ (∀ s ∈ hs, s.size ≤ maxLen) ∧ Below w.heap.size w w2) := ⟨R1.out.1.below hb2, q1, R1.out.2.2.1.below hb2, R1.out.2.2.2.1.below hb2, R1.out.2.2.2.2.1, R1.out.2.2.2.2.2.trans (hb2.mono R1.out.2.2.2.2.2.size)⟩
  clear q1 hb2 R1
  go_wp2_with fail
  refine (cloneS_any a2 len2 cap2 ts w2 R2.out.2.2.1 (by omega)).mono ?_
  rintro r w3 ⟨b2, c2, rfl, q2, hb3⟩
  have R3 : Hid (SRow w3 b0 len0 c0 hs ∧ BRow w3 b1 len0 c1 hb ∧ SRow w3 b2 len2 c2 ts ∧ BRow w3 a3 len2 cap3 bs ∧ (∀ s ∈ hs, s.size ≤ maxLen) ∧ Below w.heap.size w w3) := ⟨R2.out.1.below hb3, R2.out.2.1.below hb3, q2, R2.out.2.2.2.1.below hb3, R2.out.2.2.2.2.1, R2.out.2.2.2.2.2.trans (hb3.mono R2.out.2.2.2.2.2.size)⟩
  clear q2 hb3 R2
  go_wp2_with fail
  refine (cloneB_any a3 len2 cap3 bs w3 R3.out.2.2.2.1 (by omega)).mono ?_
  rintro r w4 ⟨b3, c3, rfl, q3, hb4⟩
  have R4 : Hid (SRow w4 b0 len0 c0 hs ∧ BRow w4 b1 len0 c1 hb ∧ SRow w4 b2 len2 c2 ts ∧ BRow w4 b3 len2 c3 bs ∧ (∀ s ∈ hs, s.size ≤ maxLen) ∧ Below w.heap.size w w4) := ⟨R3.out.1.below hb4, R3.out.2.1.below hb4, R3.out.2.2.1.below hb4, q3, R3.out.2.2.2.2.1, R3.out.2.2.2.2.2.trans (hb4.mono R3.out.2.2.2.2.2.size)⟩
  clear q3 hb4 R3
  go_wp2_with fail
  refine (new_any b0 len0 c0 hs b1 c1 hb b2 len2 c2 ts b3 c3 bs w4 R4.out.1 R4.out.2.1 R4.out.2.2.1 R4.out.2.2.2.1 l0 l2 R4.out.2.2.2.2.1).mono ?_
  rintro r w5 ⟨q, ps, f, N, hr, HM, hNN, HR, HQ, hb5⟩
  obtain ⟨g, cap, rfl⟩ : ∃ g cap, q = .slice (some ⟨g, 0, none⟩) len2 cap := by
    obtain ⟨n', hn'⟩ : ∃ n', len2 = n' + 1 := ⟨len2 - 1, by omega⟩
    rw [hn'] at HQ ⊢
    exact own_succ HQ.own
  obtain ⟨rb, hrb⟩ : ∃ rb, rb = w4.heap.size + 1 := ⟨_, rfl⟩
  rw [← hrb] at hr HR
  simp only [ptr] at hr
  subst hr
  have A5 : Hid (All w5 w4.heap.size rb w4.heap.size N len2 g cap f ps ts bs (fun _ => 0) ∧ SRow w5 b2 len2 c2 ts ∧ Below w.heap.size w w5 ∧ w4.heap.size ≤ w5.heap.size ∧ w.heap.size ≤ w4.heap.size ∧ Below w4.heap.size w4 w5 ∧ SRow w4 b2 len2 c2 ts) := ⟨⟨HM, HR, HQ, by omega, Nat.le_refl _⟩, R4.out.2.2.1.below hb5, R4.out.2.2.2.2.2.trans (hb5.mono R4.out.2.2.2.2.2.size), hb5.size, R4.out.2.2.2.2.2.size, hb5, R4.out.2.2.1⟩
  clear HM HR HQ hb5 R4 hrb
  go_wp2_with fail
  refine (zzNumber_any w4.heap.size rb w4.heap.size N len2 g cap f ps ts bs w5 A5.out.1 l2).mono ?_
  rintro r w6 ⟨rfl, hA6, hb6⟩
  obtain ⟨base, hbase⟩ : ∃ base, base = w4.heap.size := ⟨_, rfl⟩
  have A6 : Hid (All w6 base rb base N len2 g cap f ps ts bs (fun j => (j : Int)) ∧ SRow w6 b2 len2 c2 ts ∧ Below w.heap.size w w6) := by
    refine ⟨by rw [hbase]; exact hA6, A5.out.2.2.2.2.2.2.below (A5.out.2.2.2.2.2.1.trans hb6), A5.out.2.2.1.trans (hb6.mono A5.out.2.2.2.2.1)⟩
  clear hA6 hb6 A5 hbase
  obtain ⟨p, hp⟩ : ∃ p, p = ps.getD i 0 := ⟨_, rfl⟩
  have K1 := queueAt_any base rb base N len2 g cap f ps ts bs _ i w6 A6.out.1 hi
  have K2 := zzBlockers_any base rb base N len2 g cap f ps ts bs i w6 A6.out.1 hi l2 hNN
  rw [← hp] at K1 K2
  have HP : Hid (p = ps.getD i 0) := hp
  clear hp
  go_wp2_with fail
  refine K1.mono ?_
  rintro r w' ⟨rfl, hw⟩
  replace hw := hw.symm
  subst hw
  clear K1
  go_wp2_with fail
  refine K2.mono ?_
  rintro r w7 ⟨a7, m7, cap7, us7, rfl, hm7, hr7, hb7, hx7⟩
  have A7 : Hid (All w7 base rb base N len2 g cap f ps ts bs (fun j => (j : Int)) ∧ SRow w7 b2 len2 c2 ts ∧ Below w.heap.size w w7 ∧ SRow w7 a7 m7 cap7 us7 ∧ ∀ x, x ∈ us7 ↔ Blk f ts bs i x) := ⟨A6.out.1.below hb7, A6.out.2.1.below hb7, A6.out.2.2.trans (hb7.mono A6.out.2.2.size), hr7, hx7⟩
  clear K2 hr7 hb7 hx7 A6
  have K3 := zzLeads_any base rb base N len2 g cap f ps ts bs i e w7 A7.out.1 hi he l2 HS.out.1 HS.out.2
  rw [← HP.out] at K3
  go_wp2_with fail
  refine K3.mono ?_
  rintro r w8 ⟨a8, m8, cap8, us8, rfl, hm8, hr8, hb8, hx8⟩
  have A8 : Hid (All w8 base rb base N len2 g cap f ps ts bs (fun j => (j : Int)) ∧ SRow w8 b2 len2 c2 ts ∧ Below w.heap.size w w8 ∧ SRow w8 a7 m7 cap7 us7 ∧ (∀ x, x ∈ us7 ↔ Blk f ts bs i x) ∧ SRow w8 a8 m8 cap8 us8 ∧ ∀ x, x ∈ us8 ↔ Lead ts bs i e x) := ⟨A7.out.1.below hb8, A7.out.2.1.below hb8, A7.out.2.2.1.trans (hb8.mono A7.out.2.2.1.size), A7.out.2.2.2.1.below hb8, A7.out.2.2.2.2, hr8, hx8⟩
  clear K3 hr8 hb8 hx8 A7 HP
  obtain ⟨p2, hp2⟩ : ∃ p, p = ps.getD e 0 := ⟨_, rfl⟩
  have K4 := queueAt_any base rb base N len2 g cap f ps ts bs _ e w8 A8.out.1 (by omega)
  have K5 := zzBlockers_any base rb base N len2 g cap f ps ts bs e w8 A8.out.1 (by omega) l2 hNN
  rw [← hp2] at K4 K5
  clear hp2
  go_wp2_with fail
  refine K4.mono ?_
  rintro r w' ⟨rfl, hw⟩
  replace hw := hw.symm
  subst hw
  clear K4
  go_wp2_with fail
  refine K5.mono ?_
  rintro r w9 ⟨a9, m9, cap9, us9, rfl, hm9, hr9, hb9, hx9⟩
  have A9 : Hid (SRow w9 b2 len2 c2 ts ∧ Below w.heap.size w w9 ∧ SRow w9 a7 m7 cap7 us7 ∧ (∀ x, x ∈ us7 → x ∈ us8 ∨ x ∈ us9) ∧ SRow w9 a8 m8 cap8 us8 ∧ SRow w9 a9 m9 cap9 us9 ∧ ts.getD e ByteArray.empty ∈ us8) := ⟨A8.out.2.1.below hb9, A8.out.2.2.1.trans (hb9.mono A8.out.2.2.1.size), A8.out.2.2.2.1.below hb9, fun x hx => by rw [A8.out.2.2.2.2.2.2 x, hx9 x]; exact cover HS.out.1 HS.out.2 ((A8.out.2.2.2.2.1 x).1 hx), A8.out.2.2.2.2.2.1.below hb9, hr9, (A8.out.2.2.2.2.2.2 _).2 (.inr rfl)⟩
  clear K5 hr9 hb9 hx9 A8 HS
  obtain ⟨te, hte⟩ : ∃ te, te = ts[e]?.getD ByteArray.empty := ⟨_, rfl⟩
  obtain ⟨bb, bo, rfl, hbb, hcb⟩ := A9.out.1.at e (by omega)
  have ce := hcb e (by omega)
  have K6 : Calls Try.prog 17 #[.slice a8 m8 cap8, .string te] w9 fun e w' => e = .returned (.bool true) ∧ w' = w9 :=
    (contains_any a8 m8 cap8 us8 te w9 A9.out.2.2.2.2.1 (by omega)).mono (fun r w' ⟨⟨x, h1, h2⟩, hw⟩ => ⟨by rw [h1, h2.2 (by rw [hte]; exact A9.out.2.2.2.2.2.2)], hw⟩)
  rw [← hte] at ce
  clear hbb hcb hte
  go_wp2_with fail
  refine K6.mono ?_
  rintro r w' ⟨rfl, hw⟩
  replace hw := hw.symm
  subst hw
  clear K6 ce
  go_wp2_with fail
  go_loop [17] (fun si => ∃ k : Nat, k ≤ m7 ∧ si = .int .i64 (k : Int)) (fun si => m7 - (intOf si).toNat)
  case atStart => exact ⟨0, Nat.zero_le _, rfl⟩
  case round =>
    obtain ⟨k, hk, rfl⟩ := hrel
    by_cases hlt : k < m7
    · obtain ⟨b7, o7, rfl, hb7, hc7⟩ := A9.out.2.2.1.at k hlt
      have c7 := hc7 k hlt
      obtain ⟨y, hy⟩ : ∃ y, y = us7[k]?.getD ByteArray.empty := ⟨_, rfl⟩
      have hmem : y ∈ us8 ∨ y ∈ us9 := by
        refine A9.out.2.2.2.1 y ?_
        have hl : k < us7.length := by have := A9.out.2.2.1.1; omega
        rw [hy, List.getElem?_eq_getElem hl]
        exact List.getElem_mem hl
      rw [← hy] at c7
      clear hb7 hc7 hy
      by_cases h8 : y ∈ us8
      · have HK : Hid (Calls Try.prog 17 #[.slice a8 m8 cap8, .string y] w9 fun e w' => e = .returned (.bool true) ∧ w' = w9) :=
          (contains_any a8 m8 cap8 us8 y w9 A9.out.2.2.2.2.1 (by omega)).mono (fun r w' ⟨⟨x, h1, h2⟩, hw⟩ => ⟨by rw [h1, h2.2 h8], hw⟩)
        clear hmem h8
        go_wp2_with fail
        refine HK.out.mono ?_
        rintro r w' ⟨rfl, hw⟩
        replace hw := hw.symm
        subst hw
        clear HK
        go_wp2_with fail
        go_round
        case rel => exact ⟨k + 1, by omega, by go_num⟩
        case measure => simp [intOf]; omega
      · have h9 : y ∈ us9 := hmem.resolve_left h8
        have HK : Hid (Calls Try.prog 17 #[.slice a8 m8 cap8, .string y] w9 fun e w' => e = .returned (.bool false) ∧ w' = w9) :=
          (contains_any a8 m8 cap8 us8 y w9 A9.out.2.2.2.2.1 (by omega)).mono (fun r w' ⟨⟨x, h1, h2⟩, hw⟩ => ⟨by
            cases x with
            | false => exact h1
            | true => exact absurd (h2.1 rfl) h8, hw⟩)
        have HK2 : Hid (Calls Try.prog 17 #[.slice a9 m9 cap9, .string y] w9 fun e w' => e = .returned (.bool true) ∧ w' = w9) :=
          (contains_any a9 m9 cap9 us9 y w9 A9.out.2.2.2.2.2.1 (by omega)).mono (fun r w' ⟨⟨x, h1, h2⟩, hw⟩ => ⟨by rw [h1, h2.2 h9], hw⟩)
        clear hmem h8 h9
        go_wp2_with fail
        refine HK.out.mono ?_
        rintro r w' ⟨rfl, hw⟩
        replace hw := hw.symm
        subst hw
        clear HK
        go_wp2_with fail
        refine HK2.out.mono ?_
        rintro r w' ⟨rfl, hw⟩
        replace hw := hw.symm
        subst hw
        clear HK2
        go_wp2_with fail
        go_round
        case rel => exact ⟨k + 1, by omega, by go_num⟩
        case measure => simp [intOf]; omega
    · have ek : k = m7 := by omega
      subst ek
      go_wp2_with fail
      go_ret
      exact ⟨rfl, A9.out.2.1⟩
end Go.Proofs.Qxb6003669a
