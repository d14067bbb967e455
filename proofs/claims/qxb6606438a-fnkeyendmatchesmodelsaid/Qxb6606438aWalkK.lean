import Derived.Test.Qxb6606438aView
import Derived.Test.Qxb6606438aMath
import Derived.WalkSpells
import Derived.Deep.RegionHeld3
namespace Go.Proofs.Qxb6606438a
open Go.RowKit

theorem Row.at {w : World} {a : Option Addr} {len cap : Nat} {zs : List Int} (h : Row w a len cap zs) (k : Nat) (hk : k < len) :
    ∃ b o, a = some ⟨b, o, none⟩ ∧ b < w.heap.size ∧ ∀ t, t < len → w.cell? ⟨b, o + t, none⟩ = some (.int .u8 (zs[t]?.getD 0)) := by
  obtain ⟨b, o, rfl, hb, hc⟩ := h.2.2.2 (by omega)
  exact ⟨b, o, rfl, hb, hc⟩

/-- Where 'a[i:]' begins. -/
def cutAt (a : Option Addr) (c i : Nat) : Option Addr := if c = i then a else a.map (·.add (i * 1))
theorem elem22 : Try.prog.elem 22 = 5 := by kernel_rfl
theorem slice_cut (a : Option Addr) (len cap : Nat) (W : World) (i : Nat) (hi : i ≤ len) : (Instr.slice 22 (.slice a len cap) (some (.int .i64 (i : Int))) none none).run Try.prog W = .ok (.slice (cutAt a cap i) (len - i) (cap - i)) W := by
  rw [run_slice_l W 22 _ len cap (by rw [elem22]; exact Try.underlying22) .i64 _ (by omega) (by omega)]
  simp [go_sem, cutAt]
theorem Row.cut {w : World} {a : Option Addr} {len cap : Nat} {zs : List Int} (h : Row w a len cap zs) (i : Nat) (hi : i ≤ len) : Row w (cutAt a cap i) (len - i) (cap - i) (zs.drop i) := by
  obtain ⟨h1, h2, h3, h4⟩ := h
  refine ⟨by simp; omega, by omega, fun e => ?_, fun hp => ?_⟩
  · have : a = none := by
      unfold cutAt at e
      split at e
      · exact e
      · simpa using e
    have := h3 this
    omega
  · obtain ⟨b, o, e, hlt, hc⟩ := h4 (by omega)
    subst e
    refine ⟨b, o + i, by simp [cutAt, show ¬ cap = i by omega, Addr.add], hlt, fun t ht => ?_⟩
    rw [Nat.add_assoc, hc (i + t) (by omega)]
    simp [List.getD]
theorem Row.news {w : World} {a : Option Addr} {len cap : Nat} {zs : List Int} (h : Row w a len cap zs) : ∀ ad, a = some ad → ∀ j u, (zs.map (Value.int .u8))[j]? = some u → w.cell? (ad.add j) = some u := by
  intro ad ha j u hj
  have hjl : j < len := by have := (List.getElem?_eq_some_iff.1 hj).1; have := h.1; simp at *; omega
  obtain ⟨b', o', e, _, hc⟩ := h.2.2.2 (by omega)
  rw [ha] at e
  cases e
  rw [Addr.add_lit, hc j hjl]
  have e : (zs.map (Value.int .u8))[j]? = some (.int .u8 (zs.getD j 0)) := by
    have := h.1
    simp [List.getD, show j < zs.length by omega]
  rw [e] at hj; exact hj
theorem Row.none' {w : World} {a : Option Addr} {len cap : Nat} {zs : List Int} (h : Row w a len cap zs) (e : a = none) : len = 0 ∧ cap = 0 := by
  have := h.2.2.1 e; have := h.2.1; omega

theorem bne_of {x y : Int} (h : x ≠ y) : (x != y) = true := by simp [h]
theorem beq_of_ne {x y : Int} (h : x ≠ y) : (x == y) = false := by simp [h]

set_option maxHeartbeats 1600000 in
/-- closingQuote. -/
theorem closing_any (a : Option Addr) (len cap : Nat) (zs : List Int) (q : Int) (w : World) (h : Row w a len cap zs) (hm : len ≤ 4194304) (hq : q = 34 ∨ q = 39) :
    Calls Try.prog 17 #[.slice a len cap, .int .u8 q] w fun e w' => e = .returned (.int .i64 (toI (cq q zs))) ∧ w' = w := by
  have HR : Hid (Row w a len cap zs) := h
  have HL : Hid (zs.length = len) := h.1
  clear h
  go_enter Try.func17, Try.ntmps17
  go_wp2
  go_loop [5] (fun si => ∃ k : Nat, k ≤ len + 1 ∧ si = .int .i64 k ∧ Hid (cq q zs = (cq q (zs.drop k)).map (· + k))) (fun si => len + 1 - (intOf si).toNat)
  case atStart => exact ⟨0, by omega, rfl, by simp [Hid]⟩
  case round =>
    obtain ⟨k, hk, rfl, HX⟩ := hrel
    by_cases hlt : k < len
    · obtain ⟨b, o, rfl, hb, hc⟩ := HR.out.at k hlt
      have c0 := hc k hlt
      obtain ⟨x, hx⟩ : ∃ x, x = zs[k]?.getD 0 := ⟨_, rfl⟩
      rw [← hx] at c0
      have HH : Hid (x = zs[k]?.getD 0) := hx
      have HC : Hid (∀ t, t < len → w.cell? ⟨b, o + t, none⟩ = some (.int .u8 (zs[t]?.getD 0))) := hc
      clear hx hc
      rcases hq with rfl | rfl
      · by_cases h92 : x = 92
        · subst h92
          go_wp2
          go_round
          case rel => exact ⟨k + 2, by omega, by go_num, by rw [HX.out, cq_esc (by rw [HL.out]; exact hlt) HH.out.symm, map_map_add]; show _ = _; congr 1; funext n; simp; omega⟩
          case measure => simp [intOf]; omega
        · have e1 := beq_of_ne h92
          have HN : Hid (¬ x = 92) := h92
          clear h92
          by_cases h34 : x = 34
          · subst h34
            go_wp2
            go_ret
            refine ⟨?_, rfl⟩
            rw [HX.out, cq_hit (by rw [HL.out]; exact hlt) (fun hh => by rw [← HH.out] at hh; omega) HH.out.symm (by omega)]
            simp [toI]
          · have e2 := bne_of h34
            have HN2 : Hid (¬ x = 34) := h34
            clear h34
            go_wp2
            go_round
            case rel => exact ⟨k + 1, by omega, by go_num, by rw [HX.out, cq_other (by rw [HL.out]; exact hlt) (fun hh => HN.out (HH.out.trans hh.2)) (fun hh => HN2.out (HH.out.trans hh)), map_map_add]; show _ = _; congr 1; funext n; simp; omega⟩
            case measure => simp [intOf]; omega
      · by_cases h39 : x = 39
        · subst h39
          by_cases hlt2 : k + 1 < len
          · have c1 := HC.out (k + 1) hlt2
            obtain ⟨y, hy⟩ : ∃ y, y = zs[k + 1]?.getD 0 := ⟨_, rfl⟩
            rw [← hy] at c1
            have HY : Hid (y = zs[k + 1]?.getD 0) := hy
            clear hy
            by_cases hy39 : y = 39
            · subst hy39
              go_wp2
              go_round
              case rel => exact ⟨k + 2, by omega, by go_num, by rw [HX.out, cq_dbl (by rw [HL.out]; exact hlt2) HH.out.symm HY.out.symm, map_map_add]; show _ = _; congr 1; funext n; simp; omega⟩
              case measure => simp [intOf]; omega
            · have e1 := beq_of_ne hy39
              have HN : Hid (¬ y = 39) := hy39
              clear hy39
              go_wp2
              go_ret
              refine ⟨?_, rfl⟩
              rw [HX.out, cq_hit (by rw [HL.out]; exact hlt) (by omega) HH.out.symm (fun hh => HN.out (HY.out.trans hh.2.2))]
              simp [toI]
          · go_wp2
            go_ret
            refine ⟨?_, rfl⟩
            rw [HX.out, cq_hit (by rw [HL.out]; exact hlt) (by omega) HH.out.symm (fun hh => by have := HL.out; omega)]
            simp [toI]
        · have e2 := bne_of h39
          have HN2 : Hid (¬ x = 39) := h39
          clear h39
          go_wp2
          go_round
          case rel => exact ⟨k + 1, by omega, by go_num, by rw [HX.out, cq_other (by rw [HL.out]; exact hlt) (by omega) (fun hh => HN2.out (HH.out.trans hh)), map_map_add]; show _ = _; congr 1; funext n; simp; omega⟩
          case measure => simp [intOf]; omega
    · go_wp2
      go_ret
      refine ⟨?_, rfl⟩
      rw [HX.out, List.drop_eq_nil_of_le (by rw [HL.out]; omega), cq_nil]
      rfl

set_option maxHeartbeats 800000 in
/-- quotedEnd of what begins with a quote. -/
theorem quoted_any (a : Option Addr) (len cap : Nat) (x : Int) (r : List Int) (w : World) (h : Row w a len cap (x :: r)) (hm : len ≤ 4194304) (hq : x = 34 ∨ x = 39) :
    Calls Try.prog 16 #[.slice a len cap] w fun e w' => e = .returned (.int .i64 (toI ((cq x r).map (· + 2)))) ∧ Below w.heap.size w w' := by
  have hpos : 0 < len := by have := h.1; simp at this; omega
  have hlc := h.2.1
  obtain ⟨b, o, rfl, hb, hc⟩ := h.at 0 hpos
  have c0 : w.cell? ⟨b, o, none⟩ = some (.int .u8 x) := by have := hc 0 hpos; simpa using this
  have hcut : Row w (cutAt (some ⟨b, o, none⟩) cap 1) (len - 1) (cap - 1) r := by have := h.cut 1 (by omega); simpa using this
  have hs : ∀ W, (Instr.slice 22 (.slice (some ⟨b, o, none⟩) len cap) (some (.int .i64 1)) none none).run Try.prog W = .ok (.slice (cutAt (some ⟨b, o, none⟩) cap 1) (len - 1) (cap - 1)) W := fun W => slice_cut (some ⟨b, o, none⟩) len cap W 1 (by omega)
  have hlp : (0 : Int) < (len : Int) := by omega
  obtain ⟨a1, ha1⟩ : ∃ a1, a1 = cutAt (some ⟨b, o, none⟩) cap 1 := ⟨_, rfl⟩
  rw [← ha1] at hcut hs
  have HC : Hid (∀ W, Below w.heap.size w W → Calls Try.prog 17 #[.slice a1 (len - 1) (cap - 1), .int .u8 x] W fun e w' => e = .returned (.int .i64 (toI (cq x r))) ∧ w' = W) := fun W hW => closing_any a1 (len - 1) (cap - 1) r x W (hcut.below hW) (by omega) hq
  have hcl : ∀ n, cq x r = some n → n < len - 1 := fun n hn => by have := cq_lt x r n hn; have := hcut.1; omega
  clear ha1 hcut hc h hq
  go_enter Try.func16, Try.ntmps16
  go_wp2_with fail
  go_region_held3 (fun w' => w'.cell? ⟨b, o, none⟩ = some (.int .u8 x)) (go_keep) (first
    | (go_at_call 17; refine (HC.out _ ?_).mono ?_; exact (Below.refl _ _).drew; rintro e w1 ⟨rfl, rfl⟩))
  cases hcq : cq x r with
  | none =>
    rw [show toI none = -1 from rfl]
    have HQ : Hid (cq x r = none) := hcq
    clear hcl hcq
    go_wp2_with fail
    go_ret
    exact ⟨by rw [HQ.out]; rfl, (Below.refl _ _).drew⟩
  | some n =>
    have hn := hcl n hcq
    rw [show toI (some n) = (n : Int) from rfl]
    have HQ : Hid (cq x r = some n) := hcq
    clear hcl hcq
    go_wp2_with fail
    go_ret
    refine ⟨?_, (Below.refl _ _).drew⟩
    rw [HQ.out]
    show Ending.returned (Value.int .i64 (1 + (n : Int) + 1)) = _
    simp [toI]
    omega

theorem ke_none {zs : List Int} (h : ke0 zs = none) : ke zs = -1 := by unfold ke; rw [h]
theorem ke_big {zs : List Int} {e : Nat} (h : ke0 zs = some e) (h1 : 1000 < e) : ke zs = -1 := by unfold ke; rw [h]; simp; omega
theorem ke_yes {zs : List Int} {e : Nat} (h : ke0 zs = some e) (h1 : e ≤ 1000) (h2 : e + 1 < zs.length → zs[e + 1]?.getD 0 = 32) : ke zs = e := by
  unfold ke; rw [h]
  refine if_pos ⟨h1, fun hl => ?_⟩
  have := h2 hl
  rw [List.getElem?_eq_getElem hl] at this ⊢
  simpa using this
theorem ke_ns {zs : List Int} {e : Nat} (h : ke0 zs = some e) (hl : e + 1 < zs.length) (h2 : zs[e + 1]?.getD 0 ≠ 32) : ke zs = -1 := by
  unfold ke; rw [h]
  refine if_neg (fun hh => ?_)
  have := hh.2 hl
  rw [this] at h2
  simp at h2

set_option maxHeartbeats 1600000 in
set_option maxRecDepth 100000 in
/-- keyEnd. -/
theorem keyEnd_any (a : Option Addr) (len cap : Nat) (zs : List Int) (w : World) (h : Row w a len cap zs) (hm : len ≤ 4194304) :
    Calls Try.prog 12 #[.slice a len cap] w fun e w' => e = .returned (.int .i64 (ke zs)) ∧ Below w.heap.size w w' := by
  by_cases hpos : 0 < len
  case neg =>
    have h0 : len = 0 := by omega
    subst h0
    have : zs = [] := List.eq_nil_of_length_eq_zero h.1
    subst this
    go_enter Try.func12, Try.ntmps12
    go_wp2
    refine wp_loop_rounds 1 ?_
    rw [rounds_succ]
    go_wp2
    go_ret
    exact ⟨rfl, Below.refl _ _⟩
  obtain ⟨b, o, rfl, hb, hc⟩ := h.at 0 hpos
  obtain ⟨x, r, rfl⟩ : ∃ x r, zs = x :: r := by
    cases zs with
    | nil => have := h.1; simp at this; omega
    | cons x r => exact ⟨x, r, rfl⟩
  have c0 : w.cell? ⟨b, o, none⟩ = some (.int .u8 x) := by have := hc 0 hpos; simpa using this
  have hlp : (0 : Int) < (len : Int) := by omega
  have HC : Hid (∀ W t, Below w.heap.size w W → t < len → W.cell? ⟨b, o + t, none⟩ = some (.int .u8 ((x :: r)[t]?.getD 0))) := fun W t hW ht => (hW.cell (by exact hb)).trans (hc t ht)
  have HL : Hid ((x :: r).length = len) := h.1
  by_cases hqx : x = 34 ∨ x = 39
  · have k16 := quoted_any (some ⟨b, o, none⟩) len cap x r w h hm hqx
    have HQ : Hid (isQuote x = true) := by rcases hqx with rfl | rfl <;> rfl
    have hg : (x == 39) = true ∨ ((x == 39) = false ∧ (x == 34) = true) := by rcases hqx with rfl | rfl <;> simp
    cases hcq : cq x r with
    | none =>
      rw [hcq] at k16
      have K16 : Hid (Calls Try.prog 16 #[.slice (some ⟨b, o, none⟩) len cap] w fun e w' => e = .returned (.int .i64 (-1)) ∧ Below w.heap.size w w') := k16
      have H0 : Hid (ke0 (x :: r) = none) := by simp only [Hid, ke0, HQ.out, if_true, hcq]
      clear k16 hc h hqx hcq
      rcases hg with hg | ⟨hg1, hg2⟩
      all_goals
        go_enter Try.func12, Try.ntmps12
        go_wp2_with fail
        refine K16.out.mono ?_
        rintro e w1 ⟨rfl, hb1⟩
        go_wp2_with fail
        go_ret
        exact ⟨by rw [ke_none H0.out]; rfl, hb1⟩
    | some n =>
      rw [hcq] at k16
      have K16 : Hid (Calls Try.prog 16 #[.slice (some ⟨b, o, none⟩) len cap] w fun e w' => e = .returned (.int .i64 ((n + 2 : Nat) : Int)) ∧ Below w.heap.size w w') := k16
      have hnl : n + 1 < len := by have := cq_lt x r n hcq; have := HL.out; simp at this; omega
      have HCQ : Hid (cq x r = some n) := hcq
      clear k16 hc h hqx hcq
      by_cases hq2 : n + 2 < len
      · have cy := HC.out w (n + 2) (Below.refl _ _) hq2
        have hB : ∀ w1, Below w.heap.size w w1 → w1.cell? ⟨b, o + (n + 2), none⟩ = some (.int .u8 ((x :: r)[n + 2]?.getD 0)) := fun w1 hb1 => HC.out w1 (n + 2) hb1 hq2
        obtain ⟨y, hy⟩ : ∃ y, y = (x :: r)[n + 2]?.getD 0 := ⟨_, rfl⟩
        rw [← hy] at hB
        have HB : Hid (∀ w1, Below w.heap.size w w1 → w1.cell? ⟨b, o + (n + 2), none⟩ = some (.int .u8 y)) := hB
        have hr1 : r[n + 1]? = some y := by
          have hlr : n + 1 < r.length := by have := HL.out; simp at this; omega
          rw [hy, List.getElem?_cons_succ, List.getElem?_eq_getElem hlr]; simp
        have HR1 : Hid (r[n + 1]? = some y) := hr1
        clear hy hB hr1 cy
        by_cases hy58 : y = 58
        · subst hy58
          have H0 : Hid (ke0 (x :: r) = some (n + 2)) := by simp only [Hid, ke0, HQ.out, if_true, HCQ.out, HR1.out]
          rcases hg with hg | ⟨hg1, hg2⟩
          all_goals
            go_enter Try.func12, Try.ntmps12
            go_wp2_with fail
            refine K16.out.mono ?_
            rintro e w1 ⟨rfl, hb1⟩
            have cy1 := HB.out w1 hb1
            by_cases h1000 : 1000 < (n + 2)
            · go_wp2_with fail
              go_ret
              exact ⟨by rw [ke_big H0.out h1000]; rfl, hb1⟩
            · by_cases hl1 : (n + 2) + 1 < len
              · have cz := HC.out w1 ((n + 2) + 1) hb1 hl1
                obtain ⟨z, hz⟩ : ∃ z, z = (x :: r)[(n + 2) + 1]?.getD 0 := ⟨_, rfl⟩
                rw [← hz] at cz
                have HZ : Hid (z = (x :: r)[(n + 2) + 1]?.getD 0) := hz
                clear hz
                by_cases hz32 : z = 32
                · subst hz32
                  go_wp2_with fail
                  go_ret
                  exact ⟨by rw [ke_yes H0.out (by omega) (fun _ => HZ.out.symm)]; rfl, hb1⟩
                · have ez := bne_of hz32
                  have HN : Hid (¬ z = 32) := hz32
                  clear hz32
                  go_wp2_with fail
                  go_ret
                  exact ⟨by rw [ke_ns H0.out (by rw [HL.out]; exact hl1) (fun hh => HN.out (HZ.out.trans hh))]; rfl, hb1⟩
              · go_wp2_with fail
                go_ret
                exact ⟨by rw [ke_yes H0.out (by omega) (fun hh => by rw [HL.out] at hh; omega)]; rfl, hb1⟩
        · have ey := beq_of_ne hy58
          have H0 : Hid (ke0 (x :: r) = none) := by simp only [Hid, ke0, HQ.out, if_true, HCQ.out, HR1.out]; simp [hy58]
          clear hy58
          rcases hg with hg | ⟨hg1, hg2⟩
          all_goals
            go_enter Try.func12, Try.ntmps12
            go_wp2_with fail
            refine K16.out.mono ?_
            rintro e w1 ⟨rfl, hb1⟩
            have cy1 := HB.out w1 hb1
            go_wp2_with fail
            go_ret
            exact ⟨by rw [ke_none H0.out]; rfl, hb1⟩
      · have H0 : Hid (ke0 (x :: r) = none) := by
          have : r[n + 1]? = none := List.getElem?_eq_none (by have := HL.out; simp at this; omega)
          simp only [Hid, ke0, HQ.out, if_true, HCQ.out, this]; simp
        rcases hg with hg | ⟨hg1, hg2⟩
        all_goals
          go_enter Try.func12, Try.ntmps12
          go_wp2_with fail
          refine K16.out.mono ?_
          rintro e w1 ⟨rfl, hb1⟩
          go_wp2_with fail
          go_ret
          exact ⟨by rw [ke_none H0.out]; rfl, hb1⟩
  · have hg1 : (x == 39) = false := beq_of_ne (fun e => hqx (.inr e))
    have hg2 : (x == 34) = false := beq_of_ne (fun e => hqx (.inl e))
    have HK : Hid (ke0 (x :: r) = pk (x :: r)) := by
      have : isQuote x = false := by simp [isQuote, hg1, hg2]
      simp [Hid, ke0, this]
    clear hc h hqx
    go_enter Try.func12, Try.ntmps12
    go_wp2_with fail
    go_loop [3, 41] (fun se si => ∃ k : Nat, k ≤ len ∧ si = .int .i64 k ∧ se = .int .i64 (-1) ∧ Hid (pk (x :: r) = (pk ((x :: r).drop k)).map (· + k))) (fun _ si => len - (intOf si).toNat)
    case atStart => exact ⟨0, by omega, rfl, rfl, by simp [Hid]⟩
    case round =>
      obtain ⟨k, hk, rfl, rfl, HX⟩ := hrel
      by_cases hlt : k < len
      · have ck := HC.out w k (Below.refl _ _) hlt
        obtain ⟨y, hy⟩ : ∃ y, y = (x :: r)[k]?.getD 0 := ⟨_, rfl⟩
        rw [← hy] at ck
        have HY : Hid (y = (x :: r)[k]?.getD 0) := hy
        clear hy
        by_cases hy58 : y = 58
        · subst hy58
          by_cases hl1 : k + 1 = len
          · have H0 : Hid (ke0 (x :: r) = some k) := by
              rw [HK.out, HX.out, pk_hit (by rw [HL.out]; exact hlt) HY.out.symm (.inl (by rw [HL.out]; exact hl1))]; simp [Hid]
            have hbe : ((k : Int) + 1 == (len : Int)) = true := by simp; omega
            by_cases h1000 : 1000 < k
            · go_wp2_with fail
              go_ret
              exact ⟨by rw [ke_big H0.out h1000]; rfl, Below.refl _ _⟩
            · go_wp2_with fail
              go_ret
              exact ⟨by rw [ke_yes H0.out (by omega) (fun hh => by rw [HL.out] at hh; omega)]; rfl, Below.refl _ _⟩
          · have hl2 : k + 1 < len := by omega
            have hbe : ((k : Int) + 1 == (len : Int)) = false := by simp; omega
            have cz := HC.out w (k + 1) (Below.refl _ _) hl2
            obtain ⟨z, hz⟩ : ∃ z, z = (x :: r)[k + 1]?.getD 0 := ⟨_, rfl⟩
            rw [← hz] at cz
            have HZ : Hid (z = (x :: r)[k + 1]?.getD 0) := hz
            clear hz
            by_cases hz32 : z = 32
            · subst hz32
              have H0 : Hid (ke0 (x :: r) = some k) := by
                rw [HK.out, HX.out, pk_hit (by rw [HL.out]; exact hlt) HY.out.symm (.inr HZ.out.symm)]; simp [Hid]
              by_cases h1000 : 1000 < k
              · go_wp2_with fail
                go_ret
                exact ⟨by rw [ke_big H0.out h1000]; rfl, Below.refl _ _⟩
              · go_wp2_with fail
                go_ret
                exact ⟨by rw [ke_yes H0.out (by omega) (fun _ => HZ.out.symm)]; rfl, Below.refl _ _⟩
            · have ez := beq_of_ne hz32
              have HN : Hid (¬ z = 32) := hz32
              clear hz32
              go_wp2_with fail
              go_round
              case rel => exact ⟨k + 1, by omega, by go_num, rfl, by rw [HX.out, pk_next (by rw [HL.out]; exact hlt) (fun hh => by rcases hh.2 with h3 | h3; (· rw [HL.out] at h3; omega); (· exact HN.out (HZ.out.trans h3))), map_map_add]; show _ = _; congr 1; funext n; simp; omega⟩
              case measure => simp [intOf]; omega
        · have ey := beq_of_ne hy58
          have HN : Hid (¬ y = 58) := hy58
          clear hy58
          go_wp2_with fail
          go_round
          case rel => exact ⟨k + 1, by omega, by go_num, rfl, by rw [HX.out, pk_next (by rw [HL.out]; exact hlt) (fun hh => HN.out (HY.out.trans hh.1)), map_map_add]; show _ = _; congr 1; funext n; simp; omega⟩
          case measure => simp [intOf]; omega
      · have H0 : Hid (ke0 (x :: r) = none) := by
          rw [HK.out, HX.out, List.drop_eq_nil_of_le (by rw [HL.out]; omega)]; simp [Hid, pk]
        go_wp2_with fail
        go_ret
        exact ⟨by rw [ke_none H0.out]; rfl, Below.refl _ _⟩

/-- ZZKeyEnd. -/
theorem zzKeyEnd_any (a : Option Addr) (len cap : Nat) (zs : List Int) (w : World) (h : Row w a len cap zs) (hm : len ≤ 4194304) :
    Calls Try.prog 8 #[.slice a len cap] w fun e w' => e = .returned (.int .i64 (ke zs)) ∧ Below w.heap.size w w' := by
  have H : Hid (Calls Try.prog 12 #[.slice a len cap] w fun e w' => e = .returned (.int .i64 (ke zs)) ∧ Below w.heap.size w w') := keyEnd_any a len cap zs w h hm
  clear h
  go_enter Try.func8, Try.ntmps8
  go_wp2_with fail
  refine H.out.mono ?_
  rintro e w' ⟨rfl, hb⟩
  go_wp2_with fail
  go_ret
  exact ⟨rfl, hb⟩
end Go.Proofs.Qxb6606438a
