import Derived.Test.Qxb6606300aLists
import Derived.WalkSpells
import Derived.Deep.RegionHeld3
import Derived.Laws.AppendOwnNone
namespace Go.Proofs.Qxb6606300a
open Go.RowKit

theorem elem27 : Try.prog.elem 27 = 22 := by kernel_rfl
theorem slice_to (b o len cap : Nat) (h2 : 2 ≤ len) (hc : len ≤ cap) (W : World) : (Instr.slice 27 (.slice (some ⟨b, o, none⟩) len cap) none (some (.int .i64 ((len : Int) / 2))) none).run Try.prog W = .ok (.slice (some ⟨b, o, none⟩) (len / 2) cap) W := by
  rw [run_slice_h W 27 _ len cap (by rw [elem27]; exact Try.underlying27) .i64 _ (by omega) (by omega)]
  have hcap : ¬ cap = 0 := by omega
  have e : ((len : Int) / 2).toNat = len / 2 := by omega
  simp [go_sem, hcap, e]
theorem slice_from (b o len cap : Nat) (h2 : 2 ≤ len) (hc : len ≤ cap) (W : World) : (Instr.slice 27 (.slice (some ⟨b, o, none⟩) len cap) (some (.int .i64 ((len : Int) / 2))) none none).run Try.prog W = .ok (.slice (some ⟨b, o + len / 2, none⟩) (len - len / 2) (cap - len / 2)) W := by
  rw [run_slice_l W 27 _ len cap (by rw [elem27]; exact Try.underlying27) .i64 _ (by omega) (by omega)]
  have e : ((len : Int) / 2).toNat = len / 2 := by omega
  have hcap : ¬ cap = len / 2 := by omega
  simp [go_sem, hcap, e]

/-- Where 'a[i:]' begins. -/
def cutAt (a : Option Addr) (c i : Nat) : Option Addr := if c = i then a else a.map (·.add (i * 1))
theorem elem22 : Try.prog.elem 22 = 33 := by kernel_rfl
theorem slice_cut (a : Option Addr) (len cap : Nat) (W : World) (i : Nat) (hi : i ≤ len) : (Instr.slice 22 (.slice a len cap) (some (.int .i64 (i : Int))) none none).run Try.prog W = .ok (.slice (cutAt a cap i) (len - i) (cap - i)) W := by
  rw [run_slice_l W 22 _ len cap (by rw [elem22]; exact Try.underlying22) .i64 _ (by omega) (by omega)]
  simp [go_sem, cutAt]
theorem Row.cut {w : World} {a : Option Addr} {len cap : Nat} {zs : List Int} (h : Row w a len cap zs) (i : Nat) (hi : i ≤ len) : Row w (cutAt a cap i) (len - i) (cap - i) (zs.drop i) := by
  obtain ⟨h1, h2, h3, h4⟩ := h
  refine ⟨by simp; omega, by omega, fun e => ?_, fun hp => ?_⟩
  · have : a = none := by
      unfold cutAt at e
      split at e
      · exact e
      · simpa using e
    have := h3 this
    omega
  · obtain ⟨b, o, e, hlt, hc⟩ := h4 (by omega)
    subst e
    refine ⟨b, o + i, by simp [cutAt, show ¬ cap = i by omega, Addr.add], hlt, fun t ht => ?_⟩
    rw [Nat.add_assoc, hc (i + t) (by omega)]
    simp [List.getD]
theorem Row.news {w : World} {a : Option Addr} {len cap : Nat} {zs : List Int} (h : Row w a len cap zs) : ∀ ad, a = some ad → ∀ j u, (zs.map (Value.int .u64))[j]? = some u → w.cell? (ad.add j) = some u := by
  intro ad ha j u hj
  have hjl : j < len := by have := (List.getElem?_eq_some_iff.1 hj).1; have := h.1; simp at *; omega
  obtain ⟨b', o', e, _, hc⟩ := h.2.2.2 (by omega)
  rw [ha] at e
  cases e
  rw [Addr.add_lit, hc j hjl]
  have e : (zs.map (Value.int .u64))[j]? = some (.int .u64 (zs.getD j 0)) := by
    have := h.1
    simp [List.getD, show j < zs.length by omega]
  rw [e] at hj; exact hj
theorem Row.none' {w : World} {a : Option Addr} {len cap : Nat} {zs : List Int} (h : Row w a len cap zs) (e : a = none) : len = 0 ∧ cap = 0 := by
  have := h.2.2.1 e; have := h.2.1; omega

/-- What is appended last is as it was behind the first append. -/
theorem union_bs {w2 wr w3 : World} {a2 : Option Addr} {n2 c2 j n m : Nat} {B : List Int} {v : List Value} (hB : Row w2 a2 n2 c2 B) (hbel : Below w2.heap.size w2 wr) (hown : wr.ownsRow w2.heap.size 33 1 (.slice (some ⟨w2.heap.size, 0, none⟩) n m) n v) (hg : wr.grownBy w3 (some w2.heap.size)) (hj : j ≤ n2) :
    ∀ ad, cutAt a2 c2 j = some ad → ∀ t u, ((B.drop j).map (Value.int .u64))[t]? = some u → w3.cell? (ad.add t) = some u := by
  have hb3 : Below w2.heap.size w2 w3 := hbel.grown hg (Nat.le_trans hbel.size (Nat.le_refl _)) (fun k hk => by cases hk; exact (hown.lt _ rfl).1)
  exact ((hB.below hb3).cut j hj).news

theorem union_end {w w2 wr w3 w4 : World} {n1 n2 i j n : Nat} {A B xs : List Int} {v : List Value} (hbase : Below w.heap.size w w2) (hbel : Below w2.heap.size w2 wr) (hown : wr.ownsRow w2.heap.size 33 1 (.slice (some ⟨w2.heap.size, 0, none⟩) n (n1 + n2)) n v)
    (hg3 : wr.grownBy w3 (some w2.heap.size)) (hg4 : w3.grownBy w4 (some w2.heap.size))
    (hown4 : w4.ownsRow w2.heap.size 33 1 (.slice (some ⟨w2.heap.size, 0, none⟩) (n + (n1 - i) + (n2 - j)) (n1 + n2)) (n + (n1 - i) + (n2 - j)) (List.map (Value.int .u64) xs ++ List.map (Value.int .u64) (A.drop i) ++ List.map (Value.int .u64) (B.drop j)))
    (hX : xs ++ mg (A.drop i) (B.drop j) = mg A B) (hnot : ¬ (i < A.length ∧ j < B.length)) :
    ∃ a' n' cap', Ending.returned (.slice (some ⟨w2.heap.size, 0, none⟩) (n + (n1 - i) + (n2 - j)) (n1 + n2)) = Ending.returned (.slice a' n' cap') ∧ Row w4 a' n' cap' (mg A B) ∧ Below w.heap.size w w4 := by
  have hlt := (hown.lt _ rfl).1
  have hb3 : Below w2.heap.size w2 w3 := hbel.grown hg3 hbel.size (fun k hk => by cases hk; exact hlt)
  have hb4 : Below w2.heap.size w2 w4 := hb3.grown hg4 hb3.size (fun k hk => by cases hk; exact hlt)
  refine ⟨_, _, _, rfl, Row.of_own (base := w2.heap.size) ?_, hbase.trans (hb4.mono hbase.size)⟩
  rw [← mg_end hX hnot]
  simpa using hown4

/-- union of no list. -/
theorem union_none (a : Option Addr) (cap : Nat) (w : World) :
    Calls Try.prog 21 #[.slice a 0 cap] w fun e w' => ∃ a' n cap', e = .returned (.slice a' n cap') ∧ Row w' a' n cap' [] ∧ Below w.heap.size w w' := by
  go_enter Try.func21, Try.ntmps21
  go_wp2_with fail
  go_ret
  exact ⟨_, _, _, rfl, Row.nil _, Below.refl _ _⟩

set_option maxHeartbeats 400000 in
/-- union of one list. -/
theorem union_one (a : Option Addr) (cap : Nat) (l : List Int) (w : World) (h : Rows2 w a 1 cap [l]) (hm : l.length ≤ 1048576) :
    Calls Try.prog 21 #[.slice a 1 cap] w fun e w' => ∃ a' n cap', e = .returned (.slice a' n cap') ∧ Row w' a' n cap' l ∧ Below w.heap.size w w' := by
  obtain ⟨i0, hi, hz0, hz1, hz2⟩ := info_parts Try.info33
  obtain ⟨b, o, rfl, hb, hc⟩ := h.2.2.2 (by omega)
  obtain ⟨a', l', c', hcell, hr⟩ := hc 0 (by omega)
  have hcell' : w.cell? ⟨b, o, none⟩ = some (.slice a' l' c') := hcell
  have hr' : Row w a' l' c' l := hr
  clear hcell hr hc h
  cases a' with
  | none =>
    obtain ⟨h1, h2, h3, _⟩ := hr'
    have := h3 rfl
    subst this
    have : l' = 0 := by omega
    subst this
    have : l = [] := List.eq_nil_of_length_eq_zero h1
    subst this
    go_enter Try.func21, Try.ntmps21
    go_wp2_with (at_builtin; refine wpList_append_own_none rfl _ _ 22 rfl w.heap.size 33 i0 1 Try.underlying22 hi _ 0 [] rfl (World.ownsRow_nil _ _ _ _) rfl ?_)
    go_ret
    exact ⟨_, _, _, rfl, Row.nil _, Below.refl _ _⟩
  | some ad =>
    have HL : Hid (l.length = l') := hr'.1
    have hle : l' ≤ 1048576 := by rw [← hr'.1]; exact hm
    have hnews : ∀ j u, (l.map (Value.int .u64))[j]? = some u → w.cell? (ad.add j) = some u := by
      intro j u hj
      have hjl : j < l'  := by have := (List.getElem?_eq_some_iff.1 hj).1; have := HL.out; simp at *; omega
      obtain ⟨b', o', e, _, hc⟩ := hr'.2.2.2 (by omega)
      cases e
      rw [Addr.add_lit, hc j hjl]
      have e : (l.map (Value.int .u64))[j]? = some (.int .u64 (l.getD j 0)) := by
        have := HL.out
        simp [List.getD, show j < l.length by omega]
      rw [e] at hj; exact hj
    have HN : Hid (∀ j u, (l.map (Value.int .u64))[j]? = some u → w.cell? (ad.add j) = some u) := hnews
    clear hnews
    go_enter Try.func21, Try.ntmps21
    go_wp2_with (at_builtin; refine wpList_append_own _ rfl _ _ 22 rfl w.heap.size 33 i0 (.int .u64 0) 1 8 Try.underlying22 hi hz0 hz1 hz2 rfl (by decide) _ 0 [] rfl (World.ownsRow_nil _ _ _ _) ad l' c' (l.map (Value.int .u64)) rfl (by have := HL.out; simp; omega) HN.out (ints_oneCell _ _) (by unfold maxLen; omega) (by omega) (Nat.le_refl _) ?_; intro v' w1 hown1 hgrow1 _)
    go_ret
    simp only [Nat.zero_add, List.nil_append] at hown1
    obtain ⟨a', cap', rfl, hr⟩ := Row.of_owns hown1
    exact ⟨_, _, _, rfl, hr, (Below.refl _ _).grown hgrow1 (Nat.le_refl _) (fun k hk => by cases hk)⟩

set_option maxHeartbeats 1600000 in
theorem union_any (f : Nat) : ∀ (a : Option Addr) (len cap : Nat) (zss : List (List Int)) (w : World), Rows2 w a len cap zss → len ≤ f → len ≤ 1048576 → total zss ≤ 1048576 →
    Calls Try.prog 21 #[.slice a len cap] w fun e w' => ∃ a' n cap', e = .returned (.slice a' n cap') ∧ Row w' a' n cap' (un f zss) ∧ Below w.heap.size w w' := by
  obtain ⟨i0, hi, hz0, hz1, hz2⟩ := info_parts Try.info33
  induction f with
  | zero =>
    intro a len cap zss w h hl hm ht
    have : len = 0 := by omega
    subst this
    exact union_none a cap w
  | succ f ih =>
    intro a len cap zss w h hl hm ht
    by_cases h0 : len = 0
    · subst h0
      have : zss = [] := List.eq_nil_of_length_eq_zero h.1
      subst this
      exact union_none a cap w
    by_cases h1 : len = 1
    · subst h1
      obtain ⟨l, rfl⟩ := List.length_eq_one_iff.1 h.1
      exact union_one a cap l w h (by simp [total] at ht; omega)
    have h2 : 2 ≤ len := by omega
    obtain ⟨b, o, rfl, hb, _⟩ := h.2.2.2 (by omega)
    have hlc := h.2.1
    have HU : Hid (un (f + 1) zss = mg (un f (zss.take (len / 2))) (un f (zss.drop (len / 2)))) := by
      have := un_two f zss (by rw [h.1]; omega)
      rw [h.1] at this
      exact this
    have hts := total_split zss (len / 2)
    have r1 := h.take (len / 2) (by omega)
    have r2 := h.drop (len / 2) (by omega)
    have ih1 : Hid (∀ w', Below w.heap.size w w' → Calls Try.prog 21 #[.slice (some ⟨b, o, none⟩) (len / 2) cap] w' fun e w' => _) := fun w' hb => ih (some ⟨b, o, none⟩) (len / 2) cap (zss.take (len / 2)) w' (r1.below hb) (by omega) (by omega) (by omega)
    have ih2 : Hid (∀ w', Below w.heap.size w w' → Calls Try.prog 21 #[.slice (some ⟨b, o + len / 2, none⟩) (len - len / 2) (cap - len / 2)] w' fun e w' => _) := fun w' hb => ih (some ⟨b, o + len / 2, none⟩) (len - len / 2) (cap - len / 2) (zss.drop (len / 2)) w' (r2.below hb) (by omega) (by omega) (by omega)
    clear r1 r2 hts
    have hs1 := slice_to b o len cap h2 hlc
    have hs2 := slice_from b o len cap h2 hlc
    have hw : IntKind.i64.wrap ((len : Int) / 2) = (len : Int) / 2 := IntWalk.i64_in _ (by omega)
    clear ih h h0 h1
    go_enter Try.func21, Try.ntmps21
    go_wp2_with fail
    go_region_held3 (fun _ => True) (trivial) (first
      | (go_at_call 21; have hb1 := B1.out; refine (ih2.out _ hb1).mono ?_; rintro e w2 ⟨a2, n2, c2, rfl, hr2, hb2⟩; have R2 : Hid (Row w2 a2 n2 c2 (un f (zss.drop (len / 2)))) := hr2; have B2 : Hid (Below w1.heap.size w1 w2) := hb2; clear hr2 hb2 hb1)
      | (go_at_call 21; refine (ih1.out _ ?_).mono ?_; exact (Below.refl _ _).drew; rintro e w1 ⟨a1, n1, c1, rfl, hr1, hb1⟩; have R1 : Hid (Row w1 a1 n1 c1 (un f (zss.take (len / 2)))) := hr1; have B1 : Hid (Below w.heap.size w w1) := (Below.refl _ _).drew.trans hb1; clear hr1 hb1))
    have hts := total_split zss (len / 2)
    have hu1 := un_length f (zss.take (len / 2))
    have hu2 := un_length f (zss.drop (len / 2))
    obtain ⟨A, eA⟩ : ∃ A, A = un f (zss.take (len / 2)) := ⟨_, rfl⟩
    obtain ⟨B, eB⟩ : ∃ B, B = un f (zss.drop (len / 2)) := ⟨_, rfl⟩
    have hA : Row w2 a1 n1 c1 A := by rw [eA]; exact R1.out.below B2.out
    have hB : Row w2 a2 n2 c2 B := by rw [eB]; exact R2.out
    have hbase : Below w.heap.size w w2 := B1.out.trans (B2.out.mono B1.out.size)
    have hn1 : n1 ≤ 1048576 := by rw [← hA.1, eA]; omega
    have hn2 : n2 ≤ 1048576 := by rw [← hB.1, eB]; omega
    have HR : Hid (un (f + 1) zss = mg A B ∧ A.length = n1 ∧ B.length = n2) := ⟨by rw [eA, eB]; exact HU.out, hA.1, hB.1⟩
    have hsa := slice_cut a1 n1 c1
    have hsb := slice_cut a2 n2 c2
    have hca := hA.2.1
    have hcb := hB.2.1
    clear hts hu1 hu2 eA eB R1 B1 R2 B2 HU ih1 ih2 hs1 hs2 hw
    go_wp2_with (at_make; refine wpList_make_own _ rfl _ _ 22 rfl w2.heap.size 33 i0 (.int .u64 0) 1 Try.underlying22 hi hz0 hz1 _ _ _ (n1 + n2) rfl rfl (by omega) (by rw [hz2]; omega) (by unfold maxLen; omega) (Nat.le_refl _) ?_; intro w0 hown0 hgrow0)
    have hbel0 : Below w2.heap.size w2 w0 := (Below.refl _ _).grown hgrow0 (Nat.le_refl _) (fun k h => by cases h)
    clear hgrow0
    go_loopw [5, 6, 7] (fun out si sj wr => ∃ (i j n : Nat) (xs : List Int), i ≤ n1 ∧ j ≤ n2 ∧ si = .int .i64 i ∧ sj = .int .i64 j ∧ out = .slice (some ⟨w2.heap.size, 0, none⟩) n (n1 + n2) ∧ wr.ownsRow w2.heap.size 33 1 (.slice (some ⟨w2.heap.size, 0, none⟩) n (n1 + n2)) n (xs.map (Value.int .u64)) ∧ n ≤ i + j ∧ Hid (xs ++ mg (A.drop i) (B.drop j) = mg A B) ∧ Below w2.heap.size w2 wr)
      (fun _ si sj _ => (n1 - (intOf si).toNat) + (n2 - (intOf sj).toNat))
    case atStart => exact ⟨0, 0, 0, [], Nat.zero_le _, Nat.zero_le _, rfl, rfl, rfl, hown0, Nat.le_refl _, by simp [Hid], hbel0⟩
    case round =>
      clear hown0 hbel0
      obtain ⟨i, j, n, xs, hil, hjl, rfl, rfl, rfl, hown, hn, HX, hbel⟩ := hrel
      by_cases hlt : i < n1 ∧ j < n2
      · obtain ⟨hi', hj'⟩ := hlt
        obtain ⟨ba, oa, rfl, hba, hca⟩ := hA.2.2.2 (by omega)
        obtain ⟨bb, ob, rfl, hbb, hcb⟩ := hB.2.2.2 (by omega)
        obtain ⟨x, hx⟩ : ∃ x, x = A[i]?.getD 0 := ⟨_, rfl⟩
        obtain ⟨y, hy⟩ : ∃ y, y = B[j]?.getD 0 := ⟨_, rfl⟩
        have k1 : wr.cell? ⟨ba, oa + i, none⟩ = some (.int .u64 x) := by rw [hx]; exact (hbel.cell (by exact hba)).trans (hca i hi')
        have k2 : wr.cell? ⟨bb, ob + j, none⟩ = some (.int .u64 y) := by rw [hy]; exact (hbel.cell (by exact hbb)).trans (hcb j hj')
        have HH : Hid (x = A[i]?.getD 0 ∧ y = B[j]?.getD 0) := ⟨hx, hy⟩
        clear hx hy hca hcb hA hB hsa hsb
        rcases (show x < y ∨ y < x ∨ x = y from by omega) with hxy | hxy | hxy
        · go_wp2
          go_region
          all_goals go_wp2_with (at_builtin; refine wpList_append_fits _ rfl _ _ 22 rfl w2.heap.size 33 i0 1 Try.underlying22 hi hz1 w2.heap.size n (n1 + n2) _ rfl (hown.alloc _).drew ⟨wr.heap.size, 0, none⟩ 1 1 [.int .u64 x] rfl rfl (cell_one_new _ _ _) (by intro u hu; simp at hu; subst hu; rfl) (by omega) ?_; intro w3 hown3 hgrow3)
          obtain ⟨hx, hy⟩ := HH.out
          obtain ⟨_, eA, eB⟩ := HR.out
          go_roundw
          case rel => exact ⟨i + 1, j, n + 1, xs ++ [x], by omega, by omega, by go_num, rfl, rfl, by simpa using hown3, by omega, by subst hx; exact mg_lt HX.out (by omega) (by omega) (by omega), (hbel.alloc hbel.size _).drew.grown hgrow3 (by simp; have := hbel.size; omega) (fun k hk => by cases hk; exact Nat.le_refl _)⟩
          case measure => simp [intOf]; omega
        · go_wp2
          go_region
          all_goals go_wp2
          go_region
          all_goals go_wp2_with (at_builtin; refine wpList_append_fits _ rfl _ _ 22 rfl w2.heap.size 33 i0 1 Try.underlying22 hi hz1 w2.heap.size n (n1 + n2) _ rfl (hown.alloc _).drew.drew ⟨wr.heap.size, 0, none⟩ 1 1 [.int .u64 y] rfl rfl (cell_one_new _ _ _) (by intro u hu; simp at hu; subst hu; rfl) (by omega) ?_; intro w3 hown3 hgrow3)
          obtain ⟨hx, hy⟩ := HH.out
          obtain ⟨_, eA, eB⟩ := HR.out
          go_roundw
          case rel => exact ⟨i, j + 1, n + 1, xs ++ [y], by omega, by omega, rfl, by go_num, rfl, by simpa using hown3, by omega, by subst hy; exact mg_gt HX.out (by omega) (by omega) (by omega), (hbel.alloc hbel.size _).drew.drew.grown hgrow3 (by simp; have := hbel.size; omega) (fun k hk => by cases hk; exact Nat.le_refl _)⟩
          case measure => simp [intOf]; omega
        · subst hxy
          go_wp2
          go_region
          all_goals go_wp2
          go_region
          all_goals go_wp2_with (at_builtin; refine wpList_append_fits _ rfl _ _ 22 rfl w2.heap.size 33 i0 1 Try.underlying22 hi hz1 w2.heap.size n (n1 + n2) _ rfl (hown.alloc _).drew.drew ⟨wr.heap.size, 0, none⟩ 1 1 [.int .u64 x] rfl rfl (cell_one_new _ _ _) (by intro u hu; simp at hu; subst hu; rfl) (by omega) ?_; intro w3 hown3 hgrow3)
          obtain ⟨hx, hy⟩ := HH.out
          obtain ⟨_, eA, eB⟩ := HR.out
          go_roundw
          case rel => exact ⟨i + 1, j + 1, n + 1, xs ++ [x], by omega, by omega, by go_num, by go_num, rfl, by simpa using hown3, by omega, by subst hx; exact mg_eq HX.out (by omega) (by omega) hy, (hbel.alloc hbel.size _).drew.drew.grown hgrow3 (by simp; have := hbel.size; omega) (fun k hk => by cases hk; exact Nat.le_refl _)⟩
          case measure => simp [intOf]; omega
      · have hAr := (hA.below hbel).cut i hil
        have hBr := (hB.below hbel).cut j hjl
        have hij : n + (n1 - i) ≤ n1 + n2 := by omega
        have hij2 : n + (n1 - i) + (n2 - j) ≤ n1 + n2 := by omega
        have hsa' := fun W => hsa W i hil
        have hsb' := fun W => hsb W j hjl
        clear hsa hsb
        by_cases hi' : i < n1
        · have hj' : ¬ j < n2 := fun h => hlt ⟨hi', h⟩
          clear hlt
          go_wp2_with (first
            | (at_builtin; refine wpList_append_fits_any _ rfl (.tmp 95) (.tmp 98) 22 rfl w2.heap.size 33 i0 1 Try.underlying22 hi hz1 w2.heap.size n (n1 + n2) _ rfl hown (cutAt a1 c1 i) (n1 - i) (c1 - i) ((A.drop i).map (Value.int .u64)) rfl (by have := hAr.1; simpa using this) hAr.none' hAr.news (ints_oneCell _ _) hij ?_; intro w3 hown3 hgrow3)
            | (at_builtin; refine wpList_append_fits_any _ rfl (.tmp 100) (.tmp 103) 22 rfl w2.heap.size 33 i0 1 Try.underlying22 hi hz1 w2.heap.size (n + (n1 - i)) (n1 + n2) _ rfl hown3 (cutAt a2 c2 j) (n2 - j) (c2 - j) ((B.drop j).map (Value.int .u64)) rfl (by have := hBr.1; simpa using this) hBr.none' (union_bs hB hbel hown hgrow3 hjl) (ints_oneCell _ _) hij2 ?_; intro w4 hown4 hgrow4))
          go_ret
          obtain ⟨eU, eA, eB⟩ := HR.out
          rw [eU]
          exact union_end hbase hbel hown hgrow3 hgrow4 hown4 HX.out (by omega)
        · clear hlt
          go_wp2_with (first
            | (at_builtin; refine wpList_append_fits_any _ rfl (.tmp 95) (.tmp 98) 22 rfl w2.heap.size 33 i0 1 Try.underlying22 hi hz1 w2.heap.size n (n1 + n2) _ rfl hown (cutAt a1 c1 i) (n1 - i) (c1 - i) ((A.drop i).map (Value.int .u64)) rfl (by have := hAr.1; simpa using this) hAr.none' hAr.news (ints_oneCell _ _) hij ?_; intro w3 hown3 hgrow3)
            | (at_builtin; refine wpList_append_fits_any _ rfl (.tmp 100) (.tmp 103) 22 rfl w2.heap.size 33 i0 1 Try.underlying22 hi hz1 w2.heap.size (n + (n1 - i)) (n1 + n2) _ rfl hown3 (cutAt a2 c2 j) (n2 - j) (c2 - j) ((B.drop j).map (Value.int .u64)) rfl (by have := hBr.1; simpa using this) hBr.none' (union_bs hB hbel hown hgrow3 hjl) (ints_oneCell _ _) hij2 ?_; intro w4 hown4 hgrow4))
          go_ret
          obtain ⟨eU, eA, eB⟩ := HR.out
          rw [eU]
          exact union_end hbase hbel hown hgrow3 hgrow4 hown4 HX.out (by omega)

/-- ZZUnion. -/
theorem zzUnion_any (f : Nat) (a : Option Addr) (len cap : Nat) (zss : List (List Int)) (w : World) (h : Rows2 w a len cap zss) (hf : len ≤ f) (hm : len ≤ 1048576) (ht : total zss ≤ 1048576) :
    Calls Try.prog 15 #[.slice a len cap] w fun e w' => ∃ a' n cap', e = .returned (.slice a' n cap') ∧ Row w' a' n cap' (un f zss) ∧ Below w.heap.size w w' := by
  go_enter Try.func15, Try.ntmps15
  go_wp2_with (go_at_call 21; refine (union_any f _ _ _ zss _ h hf hm ht).mono ?_; rintro e w' ⟨a', n, cap', rfl, hr, hb⟩)
  go_ret
  exact ⟨_, _, _, rfl, hr, hb⟩
end Go.Proofs.Qxb6606300a
