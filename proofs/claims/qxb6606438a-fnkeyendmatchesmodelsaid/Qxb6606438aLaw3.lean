import Derived.Test.Qxb6606438aWalkM
import Derived.Test.Qxb6606438aWalkN
import Derived.Test.Qxb6606438aWalkB
namespace Go.Proofs.Qxb6606438a
open Go.RowKit

theorem toI_map_none {q : Int} {r : List Int} (h : cq q r = none) : toI ((cq q r).map (· + 1)) = -1 := by rw [h]; rfl
theorem toI_map_some {q : Int} {r : List Int} {n : Nat} (h : cq q r = some n) : toI ((cq q r).map (· + 1)) = ((n + 1 : Nat) : Int) := by rw [h]; rfl
theorem ke0_quote {x : Int} {r : List Int} (hq : isQuote x = true) {n : Nat} (h : cq x r = some n) : ke0 (x :: r) = if r[n + 1]? = some 58 then some (n + 2) else none := by
  simp only [ke0, hq, if_true, h]
theorem ke0_plain {x : Int} {r : List Int} (hq : isQuote x = false) : ke0 (x :: r) = pk (x :: r) := by
  simp only [ke0, hq]; rfl

set_option maxRecDepth 100000 in
set_option maxHeartbeats 4000000 in
/-- keyEndModel: it says what keyEnd says. -/
theorem model_any (a : Option Addr) (len cap : Nat) (zs : List Int) (w : World) (h : Row w a len cap zs) (hm : len ≤ 4194304) :
    Calls Try.prog 9 #[.slice a len cap] w fun e w' => e = .returned (.int .i64 (ke zs)) ∧ Below w.heap.size w w' := by
  have k15 := ics_any a len cap zs w h hm
  by_cases hpos : 0 < len
  · obtain ⟨b, o, hao, hb, hc⟩ := h.at 0 hpos
    cases hao
    obtain ⟨x, r, rfl⟩ : ∃ x r, zs = x :: r := by
      cases zs with
      | nil => have := h.1; simp at this; omega
      | cons x r => exact ⟨x, r, rfl⟩
    have c0 : w.cell? ⟨b, o, none⟩ = some (.int .u8 x) := by have := hc 0 hpos; simpa using this
    have hlp : (0 : Int) < (len : Int) := by omega
    have HC : Hid (∀ W t, Below w.heap.size w W → t < len → W.cell? ⟨b, o + t, none⟩ = some (.int .u8 ((x :: r)[t]?.getD 0))) := fun W t hW ht => (hW.cell (by exact hb)).trans (hc t ht)
    have HL : Hid ((x :: r).length = len) := h.1
    by_cases hqx : x = 34 ∨ x = 39
    · have kq : ∃ K, (K = 13 ∧ x = 34 ∨ K = 14 ∧ x = 39) ∧ Calls Try.prog K #[.slice (some ⟨b, o, none⟩) len cap] w fun e w' => e = .returned (.int .i64 (toI ((cq x r).map (· + 1)))) ∧ Below w.heap.size w w' := by
        rcases hqx with rfl | rfl
        · exact ⟨13, .inl ⟨rfl, rfl⟩, dquote_any _ len cap _ w h hm _ rfl⟩
        · exact ⟨14, .inr ⟨rfl, rfl⟩, squote_any _ len cap _ w h hm hpos _ rfl⟩
      obtain ⟨K, hK, kq⟩ := kq
      have HQ : Hid (isQuote x = true) := by rcases hqx with rfl | rfl <;> rfl
      clear k15 hc h hqx
      cases hcq : cq x r with
      | none =>
        rw [toI_map_none hcq] at kq
        have KQ : Hid (Calls Try.prog K #[.slice (some ⟨b, o, none⟩) len cap] w fun e w' => e = .returned (.int .i64 (-1)) ∧ Below w.heap.size w w') := kq
        have H0 : Hid (ke0 (x :: r) = none) := by simp only [Hid, ke0, HQ.out, if_true, hcq]
        clear kq hcq
        rcases hK with ⟨rfl, rfl⟩ | ⟨rfl, rfl⟩
        all_goals
          go_enter Try.func9, Try.ntmps9
          go_wp2_with fail
          refine KQ.out.mono ?_
          rintro e w1 ⟨rfl, hb1⟩
          go_wp2_with fail
          go_ret
          exact ⟨by rw [ke_none H0.out]; rfl, hb1⟩
      | some n =>
        rw [toI_map_some hcq] at kq
        have KQ : Hid (Calls Try.prog K #[.slice (some ⟨b, o, none⟩) len cap] w fun e w' => e = .returned (.int .i64 ((n + 1 : Nat) : Int)) ∧ Below w.heap.size w w') := kq
        have hnl : n + 1 < len := by have := cq_lt x r n hcq; have := HL.out; simp at this; omega
        have H0 : Hid (ke0 (x :: r) = if r[n + 1]? = some 58 then some (n + 2) else none) := ke0_quote HQ.out hcq
        clear kq hcq
        by_cases hq2 : n + 2 < len
        · obtain ⟨y, hy⟩ : ∃ y, y = (x :: r)[n + 2]?.getD 0 := ⟨_, rfl⟩
          have hry : r[n + 1]? = some y := by
            have hl := HL.out
            have : n + 1 < r.length := by simp at hl; omega
            rw [hy]
            simp [List.getElem?_eq_getElem this]
          have HCy : Hid (∀ W, Below w.heap.size w W → W.cell? ⟨b, o + (n + 2), none⟩ = some (.int .u8 y)) := fun W hW => by rw [hy]; exact HC.out W (n + 2) hW hq2
          have H1 : Hid (ke0 (x :: r) = if y = 58 then some (n + 2) else none) := by have := H0.out; rw [hry] at this; simpa [Hid] using this
          clear H0 hry hy
          by_cases h58 : y = 58
          · subst h58
            have H2 : Hid (ke0 (x :: r) = some (n + 2)) := by have := H1.out; simpa [Hid] using this
            clear H1
            by_cases hq3 : n + 3 < len
            · obtain ⟨z, hz⟩ : ∃ z, z = (x :: r)[n + 3]?.getD 0 := ⟨_, rfl⟩
              have HCz : Hid (∀ W, Below w.heap.size w W → W.cell? ⟨b, o + (n + 3), none⟩ = some (.int .u8 z)) := fun W hW => by rw [hz]; exact HC.out W (n + 3) hW hq3
              have HZ : Hid ((x :: r)[n + 3]?.getD 0 = z) := hz.symm
              clear hz
              by_cases h32 : z = 32
              · subst h32
                by_cases hbig : 1000 < n + 2
                · rcases hK with ⟨rfl, rfl⟩ | ⟨rfl, rfl⟩
                  all_goals
                    go_enter Try.func9, Try.ntmps9
                    go_wp2_with fail
                    refine KQ.out.mono ?_
                    rintro e w1 ⟨rfl, hb1⟩
                    have cy := HCy.out w1 hb1
                    have cz := HCz.out w1 hb1
                    go_wp2_with fail
                    go_ret
                    exact ⟨by rw [ke_big H2.out hbig]; rfl, hb1⟩
                · rcases hK with ⟨rfl, rfl⟩ | ⟨rfl, rfl⟩
                  all_goals
                    go_enter Try.func9, Try.ntmps9
                    go_wp2_with fail
                    refine KQ.out.mono ?_
                    rintro e w1 ⟨rfl, hb1⟩
                    have cy := HCy.out w1 hb1
                    have cz := HCz.out w1 hb1
                    go_wp2_with fail
                    go_ret
                    exact ⟨by rw [ke_yes H2.out (by omega) (fun _ => HZ.out)]; go_num, hb1⟩
              · have hne := bne_of h32
                rcases hK with ⟨rfl, rfl⟩ | ⟨rfl, rfl⟩
                all_goals
                  go_enter Try.func9, Try.ntmps9
                  go_wp2_with fail
                  refine KQ.out.mono ?_
                  rintro e w1 ⟨rfl, hb1⟩
                  have cy := HCy.out w1 hb1
                  have cz := HCz.out w1 hb1
                  go_wp2_with fail
                  go_ret
                  exact ⟨by rw [ke_ns H2.out (by rw [HL.out]; exact hq3) (by rw [HZ.out]; exact h32)]; rfl, hb1⟩
            · by_cases hbig : 1000 < n + 2
              · rcases hK with ⟨rfl, rfl⟩ | ⟨rfl, rfl⟩
                all_goals
                  go_enter Try.func9, Try.ntmps9
                  go_wp2_with fail
                  refine KQ.out.mono ?_
                  rintro e w1 ⟨rfl, hb1⟩
                  have cy := HCy.out w1 hb1
                  go_wp2_with fail
                  go_ret
                  exact ⟨by rw [ke_big H2.out hbig]; rfl, hb1⟩
              · rcases hK with ⟨rfl, rfl⟩ | ⟨rfl, rfl⟩
                all_goals
                  go_enter Try.func9, Try.ntmps9
                  go_wp2_with fail
                  refine KQ.out.mono ?_
                  rintro e w1 ⟨rfl, hb1⟩
                  have cy := HCy.out w1 hb1
                  go_wp2_with fail
                  go_ret
                  exact ⟨by rw [ke_yes H2.out (by omega) (fun hh => by rw [HL.out] at hh; omega)]; go_num, hb1⟩
          · have hne := bne_of h58
            have H2 : Hid (ke0 (x :: r) = none) := by have := H1.out; rw [if_neg h58] at this; exact this
            rcases hK with ⟨rfl, rfl⟩ | ⟨rfl, rfl⟩
            all_goals
              go_enter Try.func9, Try.ntmps9
              go_wp2_with fail
              refine KQ.out.mono ?_
              rintro e w1 ⟨rfl, hb1⟩
              have cy := HCy.out w1 hb1
              go_wp2_with fail
              go_ret
              exact ⟨by rw [ke_none H2.out]; rfl, hb1⟩
        · have H2 : Hid (ke0 (x :: r) = none) := by
            have := H0.out
            rw [if_neg (by have hl := HL.out; simp at hl; rw [List.getElem?_eq_none (by omega)]; simp)] at this
            exact this
          rcases hK with ⟨rfl, rfl⟩ | ⟨rfl, rfl⟩
          all_goals
            go_enter Try.func9, Try.ntmps9
            go_wp2_with fail
            refine KQ.out.mono ?_
            rintro e w1 ⟨rfl, hb1⟩
            go_wp2_with fail
            go_ret
            exact ⟨by rw [ke_none H2.out]; rfl, hb1⟩
    · have hn34 : (x == 34) = false := beq_of_ne (by omega)
      have hn39 : (x == 39) = false := beq_of_ne (by omega)
      have HK0 : Hid (ke0 (x :: r) = pk (x :: r)) := ke0_plain (by simp [isQuote, hn34, hn39])
      clear hc h hqx
      cases hi : ics (x :: r) with
      | some n =>
        rw [hi] at k15
        obtain ⟨h1, h2, h3⟩ := ics_some _ _ hi
        have K15 : Hid (Calls Try.prog 15 #[.slice (some ⟨b, o, none⟩) len cap] w fun e w' => e = .returned (.int .i64 (n : Int)) ∧ Below w.heap.size w w') := k15
        have H2 : Hid (ke0 (x :: r) = some n) := HK0.out.trans h3
        have HZ : Hid ((x :: r)[n + 1]?.getD 0 = 32) := h2
        have hnl : n + 1 < len := by rw [← HL.out]; exact h1
        clear k15 hi h1 h2 h3 HK0
        by_cases hbig : 1000 < n
        · go_enter Try.func9, Try.ntmps9
          go_wp2_with fail
          refine K15.out.mono ?_
          rintro e w1 ⟨rfl, hb1⟩
          go_wp2_with fail
          go_ret
          exact ⟨by rw [ke_big H2.out hbig]; rfl, hb1⟩
        · go_enter Try.func9, Try.ntmps9
          go_wp2_with fail
          refine K15.out.mono ?_
          rintro e w1 ⟨rfl, hb1⟩
          go_wp2_with fail
          go_ret
          exact ⟨by rw [ke_yes H2.out (by omega) (fun _ => HZ.out)]; rfl, hb1⟩
      | none =>
        rw [hi] at k15
        have K15 : Hid (Calls Try.prog 15 #[.slice (some ⟨b, o, none⟩) len cap] w fun e w' => e = .returned (.int .i64 (-1)) ∧ Below w.heap.size w w') := k15
        have HN : Hid (((x :: r)[(x :: r).length - 1]?.getD 0 = 58 → pk (x :: r) = some ((x :: r).length - 1)) ∧ ((x :: r)[(x :: r).length - 1]?.getD 0 ≠ 58 → pk (x :: r) = none)) := ics_none _ hi (by simp)
        obtain ⟨l', rfl⟩ : ∃ l', len = l' + 1 := ⟨len - 1, by omega⟩
        obtain ⟨y, hy⟩ : ∃ y, y = (x :: r)[l']?.getD 0 := ⟨_, rfl⟩
        have HCy : Hid (∀ W, Below w.heap.size w W → W.cell? ⟨b, o + l', none⟩ = some (.int .u8 y)) := fun W hW => by rw [hy]; exact HC.out W l' hW (by omega)
        have HN2 : Hid ((y = 58 → pk (x :: r) = some l') ∧ (y ≠ 58 → pk (x :: r) = none)) := by
          have := HN.out
          rw [HL.out, Nat.add_sub_cancel, ← hy] at this
          exact this
        have hsub : ((l' + 1 : Nat) : Int) - 1 = (l' : Int) := by omega
        clear k15 hi HN hy
        by_cases h58 : y = 58
        · subst h58
          have H2 : Hid (ke0 (x :: r) = some l') := HK0.out.trans (HN2.out.1 rfl)
          by_cases hbig : 1000 < l'
          · go_enter Try.func9, Try.ntmps9
            go_wp2_with fail
            refine K15.out.mono ?_
            rintro e w1 ⟨rfl, hb1⟩
            have cy := HCy.out w1 hb1
            go_wp2_with fail
            go_ret
            exact ⟨by rw [ke_big H2.out hbig]; rfl, hb1⟩
          · go_enter Try.func9, Try.ntmps9
            go_wp2_with fail
            refine K15.out.mono ?_
            rintro e w1 ⟨rfl, hb1⟩
            have cy := HCy.out w1 hb1
            go_wp2_with fail
            go_ret
            exact ⟨by rw [ke_yes H2.out (by omega) (fun hh => by rw [HL.out] at hh; omega)]; go_num, hb1⟩
        · have hne := beq_of_ne h58
          have H2 : Hid (ke0 (x :: r) = none) := HK0.out.trans (HN2.out.2 h58)
          go_enter Try.func9, Try.ntmps9
          go_wp2_with fail
          refine K15.out.mono ?_
          rintro e w1 ⟨rfl, hb1⟩
          have cy := HCy.out w1 hb1
          go_wp2_with fail
          go_ret
          exact ⟨by rw [ke_none H2.out]; rfl, hb1⟩
  · have e : len = 0 := by omega
    subst e
    have hz : zs = [] := List.eq_nil_of_length_eq_zero h.1
    subst hz
    have K15 : Hid (Calls Try.prog 15 #[.slice a 0 cap] w fun e w' => e = .returned (.int .i64 (-1)) ∧ Below w.heap.size w w') := k15
    clear k15
    go_enter Try.func9, Try.ntmps9
    go_wp2_with fail
    refine K15.out.mono ?_
    rintro e w1 ⟨rfl, hb1⟩
    go_wp2_with fail
    go_ret
    exact ⟨rfl, hb1⟩

set_option maxHeartbeats 400000 in
theorem bytes6_any (a : Option Addr) (len cap : Nat) (w : World) (hm : len ≤ 9223372036854775807) :
    Calls Try.prog 6 #[.slice a len cap] w fun e w' => (∃ x, e = .returned (.bool x)) ∧ w' = w := by
  go_enter Try.func6, Try.ntmps6
  go_wp2
  all_goals
    go_ret
    exact ⟨⟨_, rfl⟩, rfl⟩

set_option maxHeartbeats 1600000 in
theorem law3 (a : Option Addr) (len cap : Nat) (zs : List Int) (w : World) (h : Row w a len cap zs) (hm : len ≤ maxLen) :
    Calls Try.prog 3 #[.slice a len cap] w fun e w' => e = .returned (.bool true) ∧ Below w.heap.size w w' := by
  unfold maxLen at hm
  go_enter Try.func3, Try.ntmps3
  go_wp2_with fail
  refine (bytes6_any _ _ _ _ hm).mono ?_
  rintro e w' ⟨⟨x, rfl⟩, rfl⟩
  cases x with
  | false =>
    go_wp2_with fail
    go_ret
    exact ⟨rfl, Below.refl _ _⟩
  | true =>
  by_cases h0 : 1048576 < len
  · go_wp2_with fail
    go_ret
    exact ⟨rfl, Below.refl _ _⟩
  go_wp2_with fail
  refine (clone_any a len cap zs w' h (by omega)).mono ?_
  rintro e w1 ⟨a3, c3, rfl, hr1, hb1⟩
  have HB1 : Hid (Below w'.heap.size w' w1) := hb1
  clear h hb1
  go_wp2_with fail
  refine (zzKeyEnd_any a3 len c3 zs w1 hr1 (by omega)).mono ?_
  rintro e w2 ⟨rfl, hb2⟩
  have hr2 := hr1.below hb2
  have HB2 : Hid (Below w'.heap.size w' w2) := HB1.out.trans (hb2.mono HB1.out.size)
  clear hr1 hb2 HB1
  obtain ⟨z, hz⟩ : ∃ z, z = ke zs := ⟨_, rfl⟩
  have k9 := model_any a3 len c3 zs w2 hr2 (by omega)
  rw [← hz] at k9 ⊢
  have K9 : Hid (Calls Try.prog 9 #[.slice a3 len c3] w2 fun e w' => e = .returned (.int .i64 z) ∧ Below w2.heap.size w2 w') := k9
  clear k9 hz hr2
  go_wp2_with fail
  refine K9.out.mono ?_
  rintro e w3 ⟨rfl, hb3⟩
  have HB3 : Hid (Below w'.heap.size w' w3) := HB2.out.trans (hb3.mono HB2.out.size)
  clear hb3 K9
  go_wp2_with fail
  go_ret
  exact ⟨by simp, HB3.out⟩
end Go.Proofs.Qxb6606438a
