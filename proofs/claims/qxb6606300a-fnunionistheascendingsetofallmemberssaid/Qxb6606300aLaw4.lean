import Derived.Test.Qxb6606300aWalkA
import Derived.Test.Qxb6606300aWalkE
import Derived.Test.Qxb6606300aWalkF
import Derived.Test.Qxb6606300aWalkG
namespace Go.Proofs.Qxb6606300a
open Go.RowKit

theorem Try.underlying31' : Try.prog.underlying 31 = some (.slice 4) := Try.underlying31

theorem Rows2.at {w : World} {a : Option Addr} {len cap : Nat} {zss : List (List Int)} (h : Rows2 w a len cap zss) (k : Nat) (hk : k < len) :
    ∃ b o a' l' c', a = some ⟨b, o, none⟩ ∧ b < w.heap.size ∧ w.cell? ⟨b, o + k, none⟩ = some (.slice a' l' c') ∧ Row w a' l' c' (zss.getD k []) := by
  obtain ⟨b, o, rfl, hb, hc⟩ := h.2.2.2 (by omega)
  obtain ⟨a', l', c', h1, h2⟩ := hc k hk
  exact ⟨b, o, a', l', c', rfl, hb, h1, h2⟩

set_option maxHeartbeats 3200000 in
theorem law4 (a : Option Addr) (len cap : Nat) (zss : List (List Int)) (w : World) (h : Rows2 w a len cap zss) (hm : len ≤ maxLen) :
    Calls Try.prog 4 #[.slice a len cap] w fun e w' => e = .returned (.bool true) ∧ Below w.heap.size w w' := by
  unfold maxLen at hm
  go_enter Try.func4, Try.ntmps4
  go_wp2_with fail
  refine (bytes13_any _ _ _ zss _ h hm).mono ?_
  rintro e w' ⟨⟨x, rfl⟩, rfl⟩
  cases x with
  | false =>
    go_wp2_with fail
    go_ret
    exact ⟨rfl, Below.refl _ _⟩
  | true =>
  by_cases h0 : 32768 < len
  · go_wp2_with fail
    go_ret
    exact ⟨rfl, Below.refl _ _⟩
  go_wp2_with fail
  go_loop [3, 4] (fun ss si => ∃ k s : Nat, k ≤ len ∧ si = .int .i64 k ∧ ss = .int .i64 s ∧ s ≤ 1048576 ∧ Hid (s = 24 * len + 8 * total (zss.take k))) (fun _ si => len - (intOf si).toNat)
  case atStart => exact ⟨0, 24 * len, Nat.zero_le _, rfl, by go_num, by omega, by simp [Hid, total]⟩
  case round =>
    obtain ⟨k, s, hk, rfl, rfl, hs, HS⟩ := hrel
    by_cases hlt : k < len
    · obtain ⟨b, o, a', l', c', rfl, hb, hcell, hr⟩ := h.at k hlt
      have HL : Hid ((zss.getD k []).length = l') := hr.1
      clear hr
      by_cases hl' : 131072 < l'
      · go_wp2_with fail
        go_ret
        exact ⟨rfl, Below.refl _ _⟩
      · by_cases hs2 : 1048576 < s + 8 * l'
        · go_wp2_with fail
          go_ret
          exact ⟨rfl, Below.refl _ _⟩
        · go_wp2_with fail
          go_round
          case rel => exact ⟨k + 1, s + 8 * l', by omega, by go_num, by go_num, by omega, by have := total_take_succ (zss := zss) (k := k) (by rw [h.1]; exact hlt); have := HS.out; have := HL.out; show s + 8 * l' = _; omega⟩
          case measure => simp [intOf]; omega
    · have htot : total zss ≤ 131072 := by
        have := HS.out
        rw [List.take_of_length_le (by rw [h.1]; omega)] at this
        omega
      have HL : Hid (zss.length = len) := h.1
      go_wp2_with fail
      clear HS hs hk hlt
      go_loopw [5, 6] (fun st si wr => ∃ k t : Nat, k ≤ len ∧ si = .int .i64 k ∧ st = .int .i64 t ∧ t ≤ 131072 ∧ Hid (t = total (zss.take k) ∧ ∀ j, j < k → Asc (zss.getD j [])) ∧ Below w'.heap.size w' wr) (fun _ si _ => len - (intOf si).toNat)
      case atStart => exact ⟨0, 0, Nat.zero_le _, rfl, rfl, by omega, ⟨by simp [total], fun j hj => absurd hj (by omega)⟩, Below.refl _ _⟩
      case round =>
        obtain ⟨k, t, hk, rfl, rfl, ht, HT, hbel⟩ := hrel
        by_cases hlt : k < len
        · obtain ⟨b, o, a', l', c', rfl, hb, hcell, hr⟩ := h.at k hlt
          have hcell' : wr.cell? ⟨b, o + k, none⟩ = some (.slice a' l' c') := (hbel.cell (by exact hb)).trans hcell
          have htk := total_take_succ (zss := zss) (k := k) (by rw [HL.out]; exact hlt)
          have htl := total_take_le zss (k + 1)
          have HR : Hid ((zss.getD k []).length = l') := hr.1
          have hl' : l' ≤ 131072 := by rw [← hr.1]; omega
          have htn : t + l' ≤ 131072 := by have := HT.out.1; have := HR.out; omega
          have hC := asc_any a' l' c' _ wr (hr.below hbel) (by omega)
          by_cases has : ascB (zss.getD k []) = true
          · rw [has] at hC
            have HC : Hid (Calls Try.prog 8 #[.slice a' l' c'] wr fun e w' => e = .returned (.bool true) ∧ Below wr.heap.size wr w') := hC
            have HAs : Hid (Asc (zss.getD k [])) := asc_of_true has
            clear hC hr htk htl has
            go_wp2_with fail
            refine HC.out.mono ?_
            rintro e w1 ⟨rfl, hb1⟩
            have hcell1 : w1.cell? ⟨b, o + k, none⟩ = some (.slice a' l' c') := (hb1.cell (by exact Nat.lt_of_lt_of_le hb hbel.size)).trans hcell'
            go_wp2_with fail
            go_roundw
            case rel =>
              refine ⟨k + 1, t + l', by omega, by go_num, by go_num, by omega, ⟨?_, fun j hj => ?_⟩, hbel.trans (hb1.mono hbel.size)⟩
              · have := total_take_succ (zss := zss) (k := k) (by rw [HL.out]; exact hlt); have := HT.out.1; have := HR.out; omega
              · by_cases e : j = k
                · subst e; exact HAs.out
                · exact HT.out.2 j (by omega)
            case measure => simp [intOf]; omega
          · have e0 : ascB (zss.getD k []) = false := by simpa using has
            rw [e0] at hC
            have HC : Hid (Calls Try.prog 8 #[.slice a' l' c'] wr fun e w' => e = .returned (.bool false) ∧ Below wr.heap.size wr w') := hC
            clear hC hr htk htl has e0
            go_wp2_with fail
            refine HC.out.mono ?_
            rintro e w1 ⟨rfl, hb1⟩
            go_wp2_with fail
            go_ret
            exact ⟨rfl, hbel.trans (hb1.mono hbel.size)⟩
        · have e : k = len := by omega
          subst e
          have HT2 : Hid (t = total zss ∧ ∀ l ∈ zss, Asc l) := by
            refine ⟨?_, fun l hl => ?_⟩
            · have := HT.out.1; rw [List.take_of_length_le (by rw [HL.out]; omega)] at this; exact this
            · obtain ⟨j, hj, rfl⟩ := List.getElem_of_mem hl
              have := HT.out.2 j (by have := HL.out; omega)
              simpa [List.getD, hj] using this
          have hR := h.below hbel
          have hlens : ∀ t, t < k → (zss.getD t []).length ≤ 1048576 := fun t ht => Nat.le_trans (total_ge (by rw [HL.out]; exact ht)) (by omega)
          have hC := cloneLists_any a k cap zss wr hR (by omega) hlens
          clear hR hlens HT h
          go_wp2_with fail
          clear hlt hk
          refine hC.mono ?_
          rintro e w1 ⟨a1, c1, rfl, hR1, hb1⟩
          have HB1 : Hid (Below w'.heap.size w' w1) := hbel.trans (hb1.mono hbel.size)
          clear hC hbel hb1
          have hU := zzUnion_any k a1 k c1 zss w1 hR1 (by omega) (by omega) (by omega)
          have HUm : Hid ((∀ z, z ∈ un k zss ↔ ∃ l ∈ zss, z ∈ l) ∧ Asc (un k zss) ∧ (un k zss).length ≤ total zss) := ⟨un_mem k zss (by rw [HL.out]; exact Nat.le_refl _), un_asc k zss HT2.out.2, un_length k zss⟩
          obtain ⟨u, hu⟩ : ∃ u, u = un k zss := ⟨_, rfl⟩
          rw [← hu] at hU HUm
          clear hu
          go_wp2_with fail
          refine hU.mono ?_
          rintro e w2 ⟨a2, n2, c2, rfl, hr2, hb2⟩
          have hR2 := hR1.below hb2
          have HB2 : Hid (Below w'.heap.size w' w2) := HB1.out.trans (hb2.mono HB1.out.size)
          have hn2 : n2 ≤ t := by rw [← hr2.1, HT2.out.1]; exact HUm.out.2.2
          clear hU hR1 hb2 HB1
          have hC := asc_any a2 n2 c2 u w2 hr2 (by omega)
          rw [ascB_true HUm.out.2.1] at hC
          go_wp2_with fail
          refine hC.mono ?_
          rintro e w3 ⟨rfl, hb3⟩
          have hR3 := hR2.below hb3
          have hr3 := hr2.below hb3
          have HB3 : Hid (Below w'.heap.size w' w3) := HB2.out.trans (hb3.mono HB2.out.size)
          clear hC hR2 hr2 hb3 HB2
          obtain ⟨i0, hi, hz0, hz1, hz2⟩ := info_parts Try.info4
          go_wp2_with (at_make; refine wpList_make_full _ rfl _ _ 31 rfl w3.heap.size 4 i0 (.bool false) 1 Try.underlying31 hi hz0 hz1 _ _ _ _ n2 rfl rfl (by omega) (by omega) (by rw [hz2]; omega) (by unfold maxLen; omega) (Nat.le_refl _) ?_; intro w4 hown4 hgrow4)
          have hown5 : w4.ownsRow w3.heap.size 4 1 (.slice (some ⟨w3.heap.size, 0, none⟩) n2 n2) n2 ((List.replicate u.length false).map Value.bool) := by
            have e : (madeCells (Value.bool false).cells (n2 * 1)).toList = (List.replicate u.length false).map Value.bool := by
              rw [show (Value.bool false).cells = #[Value.bool false] from rfl, toList_madeCells_one]
              simp [hr3.1]
            rw [← e]; exact hown4
          have hbel4 : Below w3.heap.size w3 w4 := (Below.refl _ _).grown hgrow4 (Nat.le_refl _) (fun k h => by cases h)
          have HUl : Hid (u.length = n2) := hr3.1
          clear hown4 hgrow4 hz0 hz1 hz2 hi
          go_loopw [9] (fun si wr => ∃ (j : Nat) (hs : List Bool), j ≤ k ∧ si = .int .i64 j ∧ wr.ownsRow w3.heap.size 4 1 (.slice (some ⟨w3.heap.size, 0, none⟩) n2 n2) n2 (hs.map Value.bool) ∧ Hid (Hit u zss j 0 hs) ∧ Below w3.heap.size w3 wr) (fun si _ => k - (intOf si).toNat)
          case atStart => exact ⟨0, _, Nat.zero_le _, rfl, hown5, Hit.start u zss, hbel4⟩
          case round =>
            clear hown5 hbel4
            obtain ⟨j, hs, hj, rfl, hown, HH, hbel⟩ := hrel
            by_cases hlt : j < k
            · obtain ⟨b, o, a', l', c', rfl, hb, hcell, hr⟩ := hR3.at j hlt
              have HR : Hid ((zss.getD j []).length = l') := hr.1
              have hl' : l' ≤ 131072 := by rw [← hr.1]; exact Nat.le_trans (total_ge (by rw [HL.out]; exact hlt)) htot
              go_wp2_with fail
              go_loopw [10] (fun sm wr2 => ∃ (m : Nat) (hs : List Bool), m ≤ l' ∧ sm = .int .i64 m ∧ wr2.ownsRow w3.heap.size 4 1 (.slice (some ⟨w3.heap.size, 0, none⟩) n2 n2) n2 (hs.map Value.bool) ∧ Hid (Hit u zss j m hs) ∧ Below w3.heap.size w3 wr2) (fun sm _ => l' - (intOf sm).toNat)
              case atStart => exact ⟨0, hs, Nat.zero_le _, rfl, hown, HH, hbel⟩
              case round =>
                clear hown HH hbel hs
                obtain ⟨m, hs, hm2, rfl, hown, HH, hbel⟩ := hrel
                have c1' : wr.cell? ⟨b, o + j, none⟩ = some (.slice a' l' c') := (hbel.cell (by exact hb)).trans hcell
                by_cases hlm : m < l'
                · obtain ⟨b', o', rfl, hb', hc'⟩ := hr.2.2.2 (by omega)
                  obtain ⟨x, hx⟩ : ∃ x, x = (zss.getD j [])[m]?.getD 0 := ⟨_, rfl⟩
                  have c2' : wr.cell? ⟨b', o' + m, none⟩ = some (.int .u64 x) := by rw [hx]; exact (hbel.cell (by exact hb')).trans (hc' m hlm)
                  have hxm : x ∈ zss.getD j [] := by
                    have := HR.out
                    rw [hx, List.getElem?_eq_getElem (by omega)]; exact List.getElem_mem _
                  have hxu : x ∈ u := (HUm.out.1 x).2 ⟨_, by rw [List.getD, List.getElem?_eq_getElem (by rw [HL.out]; exact hlt)]; exact List.getElem_mem _, hxm⟩
                  have hF := find_any a2 n2 c2 u x wr (hr3.below hbel) (by omega) HUm.out.2.1 hxu
                  have HF : Hid (Calls Try.prog 16 #[.slice a2 n2 c2, .int .u64 x] wr fun e w' => ∃ p : Nat, e = .returned (.int .i64 p) ∧ p < n2 ∧ u[p]?.getD 0 = x ∧ w' = wr) := hF
                  have HX : Hid (x = (zss.getD j [])[m]?.getD 0) := hx
                  clear hx hxm hxu hF hc' hr hR3
                  go_wp2_with fail
                  refine HF.out.mono ?_
                  rintro e w5 ⟨p, rfl, hp, hpx, rfl⟩
                  have hsl : hs.length = n2 := by simpa using hown.1
                  obtain ⟨old, k1⟩ : ∃ old, w5.cell? ⟨w3.heap.size, p, none⟩ = some old := by
                    rw [hown.cellAt p (by omega)]
                    exact ⟨_, List.getElem?_eq_getElem (by simp; omega)⟩
                  have k2 := hown.frozenAt p
                  have HS : Hid ((w5.setCell ⟨w3.heap.size, p, none⟩ (.bool true)).ownsRow w3.heap.size 4 1 (.slice (some ⟨w3.heap.size, 0, none⟩) n2 n2) n2 ((hs.set p true).map Value.bool)) := by
                    have := (hown.stored p (.bool true)).1
                    rw [List.map_set]; exact this
                  have HN : Hid (Hit u zss j (m + 1) (hs.set p true)) := HH.out.step (by rw [HR.out]; exact hlm) (by rw [HUl.out]; exact hp) (by rw [hpx]; exact HX.out) HUm.out.2.1
                  clear hown HH HF HX hpx hsl
                  go_wp2_with fail
                  go_roundw
                  case rel => exact ⟨m + 1, hs.set p true, by omega, by go_num, HS.out, HN, hbel.setCell (Nat.le_refl _) _⟩
                  case measure => simp [intOf]; omega
                · have HN : Hid (Hit u zss (j + 1) 0 hs) := HH.out.next (by rw [HR.out]; omega)
                  clear hr hR3 HH
                  go_wp2_with fail
                  go_roundw
                  case rel => exact ⟨j + 1, hs, by omega, by go_num, hown, HN, hbel⟩
                  case measure => simp [intOf]; omega
            · have hall : ∀ p, p < n2 → hs[p]? = some true := fun p hp => HH.out.done (by rw [HL.out]; omega) (fun z hz => (HUm.out.1 z).1 hz) p (by rw [HUl.out]; exact hp)
              have hkc : ∀ p, p < n2 → wr.cell? ⟨w3.heap.size, p, none⟩ = some (.bool true) := fun p hp => by
                rw [hown.cellAt p (by omega), List.getElem?_map, hall p hp]; rfl
              have HK : Hid (∀ p, p < n2 → wr.cell? ⟨w3.heap.size, p, none⟩ = some (.bool true)) := hkc
              clear hall hkc HH hown hR3 hr3
              go_wp2_with fail
              go_loop [12] (fun sq => ∃ q : Nat, q ≤ n2 ∧ sq = .int .i64 q) (fun sq => n2 - (intOf sq).toNat)
              case atStart => exact ⟨0, Nat.zero_le _, rfl⟩
              case round =>
                obtain ⟨q, hq, rfl⟩ := hrel
                by_cases hlq : q < n2
                · have k1 := HK.out q hlq
                  go_wp2_with fail
                  go_round
                  case rel => exact ⟨q + 1, by omega, by go_num⟩
                  case measure => simp [intOf]; omega
                · go_wp2_with fail
                  go_ret
                  exact ⟨rfl, HB3.out.trans (hbel.mono HB3.out.size)⟩
end Go.Proofs.Qxb6606300a
