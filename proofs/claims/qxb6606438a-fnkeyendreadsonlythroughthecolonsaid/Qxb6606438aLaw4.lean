import Derived.Test.Qxb6606438aWalkK
import Derived.Test.Qxb6606438aWalkB
import Derived.Test.Qxb6606438aLawR
namespace Go.Proofs.Qxb6606438a
open Go.RowKit

theorem Row.take {w : World} {a : Option Addr} {len cap : Nat} {zs : List Int} (h : Row w a len cap zs) (n : Nat) (hn : n ≤ len) : Row w a n cap (zs.take n) := by
  obtain ⟨h1, h2, h3, h4⟩ := h
  refine ⟨by simp; omega, by omega, h3, fun hp => ?_⟩
  obtain ⟨b, o, e, hlt, hc⟩ := h4 (by omega)
  refine ⟨b, o, e, hlt, fun t ht => ?_⟩
  rw [hc t (by omega)]
  simp [List.getD, ht]

theorem slice_to (b o len cap : Nat) (h : Int) (n : Nat) (hn : h = (n : Int)) (hc : n ≤ cap) (hp : 0 < cap) (W : World) : (Instr.slice 22 (.slice (some ⟨b, o, none⟩) len cap) none (some (.int .i64 h)) none).run Try.prog W = .ok (.slice (some ⟨b, o, none⟩) n cap) W := by
  subst hn
  rw [run_slice_h W 22 _ len cap (by rw [elem22]; exact Try.underlying22) .i64 _ (by omega) (by omega)]
  have hcap : ¬ cap = 0 := by omega
  simp [go_sem, hcap]

/-- Some bool came back. -/
def AnyBool (e : Ending) : Prop := ∃ x, e = .returned (.bool x)

set_option maxHeartbeats 400000 in
theorem bytes10_any (a a' : Option Addr) (len len' cap cap' : Nat) (w : World) (hm : len ≤ 9223372036854775807) (hm' : len' ≤ 9223372036854775807) :
    Calls Try.prog 10 #[.slice a len cap, .slice a' len' cap'] w fun e w' => AnyBool e ∧ w' = w := by
  go_enter Try.func10, Try.ntmps10
  go_wp2
  all_goals
    go_ret
    exact ⟨⟨_, rfl⟩, rfl⟩

set_option maxHeartbeats 1600000 in
theorem law4 (a : Option Addr) (len cap : Nat) (zs : List Int) (a2 : Option Addr) (len2 cap2 : Nat) (ts : List Int) (w : World) (h : Row w a len cap zs) (h2 : Row w a2 len2 cap2 ts) (hm : len ≤ maxLen) (hm2 : len2 ≤ maxLen) :
    Calls Try.prog 4 #[.slice a len cap, .slice a2 len2 cap2] w fun e w' => e = .returned (.bool true) ∧ Below w.heap.size w w' := by
  unfold maxLen at hm hm2
  obtain ⟨i0, hi, hz0, hz1, hz2⟩ := info_parts Try.info5
  go_enter Try.func4, Try.ntmps4
  go_wp2_with fail
  refine (bytes10_any _ _ _ _ _ _ _ hm hm2).mono ?_
  rintro e w' ⟨⟨x, rfl⟩, rfl⟩
  cases x with
  | false =>
    go_wp2_with fail
    go_ret
    exact ⟨rfl, Below.refl _ _⟩
  | true =>
  by_cases h0 : 524288 < len
  · go_wp2_with fail
    go_ret
    exact ⟨rfl, Below.refl _ _⟩
  have hd0 : decide ((524288 : Int) < (len : Int)) = false := decide_eq_false (by omega)
  by_cases h1 : 524288 < len2
  · go_wp2_with fail
    go_ret
    exact ⟨rfl, Below.refl _ _⟩
  have hd1 : decide ((524288 : Int) < (len2 : Int)) = false := decide_eq_false (by omega)
  go_wp2_with fail
  refine (clone_any a len cap zs w' h (by omega)).mono ?_
  rintro e w1 ⟨a3, c3, rfl, hr1, hb1⟩
  have ht1 := h2.below hb1
  clear h h2
  go_wp2_with fail
  refine (clone_any a2 len2 cap2 ts w1 ht1 (by omega)).mono ?_
  rintro e w2 ⟨a4, c4, rfl, ht2, hb2⟩
  have hr2 := hr1.below hb2
  have HB2 : Hid (Below w'.heap.size w' w2) := hb1.trans (hb2.mono hb1.size)
  clear hr1 ht1 hb1 hb2
  go_wp2_with fail
  refine (zzKeyEnd_any a3 len c3 zs w2 hr2 (by omega)).mono ?_
  rintro e w3 ⟨rfl, hb3⟩
  have hr3 := hr2.below hb3
  have ht3 := ht2.below hb3
  have HB3 : Hid (Below w'.heap.size w' w3) := HB2.out.trans (hb3.mono HB2.out.size)
  clear hr2 ht2 hb3 HB2
  rcases ke_range zs with hke | ⟨r, hke, hrl, hr1000⟩
  · rw [hke]
    clear hke
    go_wp2_with fail
    go_ret
    exact ⟨rfl, HB3.out⟩
  rw [hke]
  have hrl' : r < len := by rw [← hr3.1]; exact hrl
  obtain ⟨b, o, rfl, hbl, _⟩ := hr3.at 0 (by omega)
  have hlc := hr3.2.1
  have hs1 := fun W => slice_to b o len c3 ((r : Int) + 1) (r + 1) (by omega) (by omega) (by omega) W
  have k8 := zzKeyEnd_any (some ⟨b, o, none⟩) (r + 1) c3 (zs.take (r + 1)) w3 (hr3.take (r + 1) (by omega)) (by omega)
  rw [ke_cut hke] at k8
  have K8 : Hid (Calls Try.prog 8 #[.slice (some ⟨b, o, none⟩) (r + 1) c3] w3 fun e w' => e = .returned (.int .i64 (r : Int)) ∧ Below w3.heap.size w3 w') := k8
  have HK : Hid (ke zs = (r : Int)) := hke
  clear k8 hke hrl
  go_wp2_with fail
  refine K8.out.mono ?_
  rintro e w4 ⟨rfl, hb4⟩
  have hr4 := hr3.below hb4
  have ht4 := ht3.below hb4
  have HB4 : Hid (Below w'.heap.size w' w4) := HB3.out.trans (hb4.mono HB3.out.size)
  clear hr3 ht3 hb4 HB3 K8 hs1
  by_cases hl2 : r + 2 ≤ len
  · have hs2 := fun W => slice_to b o len c3 ((r : Int) + 2) (r + 2) (by omega) (by omega) (by omega) W
    have hbt := hr4.take (r + 2) hl2
    have HBT : Hid (Row w4 (some ⟨b, o, none⟩) (r + 2) c3 (zs.take (r + 2))) := hbt
    have HTT : Hid (Row w4 a4 len2 c4 ts) := ht4
    have hlen2 : r + 2 + len2 ≤ 1048578 := by omega
    clear hbt hr4 ht4
    go_wp2_with (first
      | (at_make; refine wpList_make_own _ rfl _ _ 22 rfl w4.heap.size 5 i0 (.int .u8 0) 1 Try.underlying22 hi hz0 hz1 _ _ _ (r + 2 + len2) rfl rfl (by omega) (by rw [hz2]; omega) (by unfold maxLen; omega) (Nat.le_refl _) ?_; intro w5 hown5 hgrow5; have hb5 : Below w4.heap.size w4 w5 := (Below.refl _ _).grown hgrow5 (Nat.le_refl _) (fun k h => by cases h); have HO5 : Hid (w5.ownsRow w4.heap.size 5 1 (.slice (some ⟨w4.heap.size, 0, none⟩) 0 (r + 2 + len2)) 0 []) := hown5; have HB5 : Hid (Below w4.heap.size w4 w5) := hb5; clear hown5 hgrow5 hb5)
      | (at_builtin; refine wpList_append_fits_any _ rfl (.tmp 51) (.tmp 55) 22 rfl w4.heap.size 5 i0 1 Try.underlying22 hi hz1 w4.heap.size 0 (r + 2 + len2) [] rfl HO5.out (some ⟨b, o, none⟩) (r + 2) c3 ((zs.take (r + 2)).map (Value.int .u8)) rfl (by have := HBT.out.1; simpa using this) (fun e => by cases e) (HBT.out.below HB5.out).news (ints_oneCell _ _) (by omega) ?_; intro w6 hown6 hgrow6; simp only [Nat.zero_add, List.nil_append] at hown6; have HO6 : Hid (w6.ownsRow w4.heap.size 5 1 (.slice (some ⟨w4.heap.size, 0, none⟩) (r + 2) (r + 2 + len2)) (r + 2) ((zs.take (r + 2)).map (Value.int .u8))) := hown6; have HB6 : Hid (Below w4.heap.size w4 w6) := HB5.out.grown hgrow6 HB5.out.size (fun k hk => by cases hk; exact Nat.le_refl _); clear hown6 hgrow6)
      | (at_builtin; refine wpList_append_fits_any _ rfl (.tmp 57) (.tmp 58) 22 rfl w4.heap.size 5 i0 1 Try.underlying22 hi hz1 w4.heap.size (r + 2) (r + 2 + len2) _ rfl HO6.out a4 len2 c4 (ts.map (Value.int .u8)) rfl (by have := HTT.out.1; simpa using this) HTT.out.none' (HTT.out.below HB6.out).news (ints_oneCell _ _) (by omega) ?_; intro w7 hown7 hgrow7; have HB7 : Hid (Below w4.heap.size w4 w7) := HB6.out.grown hgrow7 HB6.out.size (fun k hk => by cases hk; exact Nat.le_refl _)))
    rw [← List.map_append] at hown7
    have hrow := Row.of_own hown7
    have k8 := zzKeyEnd_any _ _ _ _ w7 hrow (by omega)
    rw [ke_more HK.out (by rw [← hrow.1] at hlen2; have := HBT.out.1; simp at this; omega) ts] at k8
    refine k8.mono ?_
    rintro e w8 ⟨rfl, hb8⟩
    have HB7' : Hid (Below w'.heap.size w' w7) := HB4.out.trans (HB7.out.mono HB4.out.size)
    have HB8 : Hid (Below w'.heap.size w' w8) := HB7'.out.trans (hb8.mono HB7'.out.size)
    clear k8 hrow hown7 hgrow7 hb8
    go_wp2_with fail
    go_ret
    exact ⟨rfl, HB8.out⟩
  · go_wp2_with fail
    go_ret
    exact ⟨rfl, HB4.out⟩
end Go.Proofs.Qxb6606438a
