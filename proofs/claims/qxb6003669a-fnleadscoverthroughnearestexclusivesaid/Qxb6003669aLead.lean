import Derived.Test.Qxb6003669aBlk
namespace Go.Proofs.Qxb6003669a
open Go.RowKit Go.Maps Go.WideMaps

/-- The leads of the request at i. -/
def Lead (ts : List ByteArray) (bs : List Bool) (i e : Nat) (x : ByteArray) : Prop :=
  (modeOf (bs.getD i false) = 0 ∧ ∃ j, e < j ∧ j < i ∧ x = ts.getD j ByteArray.empty) ∨ x = ts.getD e ByteArray.empty

theorem Next.add {ts : List ByteArray} {e k : Nat} {us : List ByteArray} {t : ByteArray} (h : ∀ x, x ∈ us ↔ ∃ j, e < j ∧ j < e + 1 + k ∧ x = ts.getD j ByteArray.empty) (ht : t = ts.getD (e + 1 + k) ByteArray.empty) : ∀ x, x ∈ us ++ [t] ↔ ∃ j, e < j ∧ j < e + 1 + (k + 1) ∧ x = ts.getD j ByteArray.empty := by
  intro x
  rw [List.mem_append, h x]
  constructor
  · rintro (⟨j, h1, h2, h3⟩ | h)
    · exact ⟨j, h1, by omega, h3⟩
    · have : x = t := by simpa using h
      exact ⟨e + 1 + k, by omega, by omega, this.trans ht⟩
  · rintro ⟨j, h1, h2, h3⟩
    by_cases e' : j = e + 1 + k
    · subst e'
      exact .inr (by rw [h3, ht]; simp)
    · exact .inl ⟨j, h1, by omega, h3⟩

theorem slice41lh (g n cap l i : Nat) (hl : l ≤ i) (hc : i ≤ cap) (hp : l < cap) (W : World) : (Instr.slice 41 (.slice (some ⟨g, 0, none⟩) n cap) (some (.int .i64 (l : Int))) (some (.int .i64 (i : Int))) none).run Try.prog W = .ok (.slice (some ⟨g, l, none⟩) (i - l) (cap - l)) W := by
  rw [run_slice_lh W 41 _ n cap (by rw [elem41]; exact Try.underlying41) .i64 .i64 _ _ (by omega) (by omega) (by omega)]
  have hcap : ¬ cap = l := by omega
  simp [go_sem, hcap]

set_option maxHeartbeats 400000 in
/-- ZZBlockers. -/
theorem zzBlockers_any (base rb mb N n g cap : Nat) (f : ByteArray → Option Value) (ps : List Nat) (ts : List ByteArray) (bs : List Bool) (i : Nat) (w : World) (h : All w base rb mb N n g cap f ps ts bs (fun j => (j : Int))) (hi : i < n) (hn : n ≤ 65536) (hN : N ≤ 65536) :
    Calls Try.prog 15 #[.pointer (some ⟨rb, 0, none⟩), .pointer (some ⟨ps.getD i 0, 0, none⟩)] w fun e w' => ∃ a m cap' us, e = .returned (.slice a m cap') ∧ m ≤ 1048576 ∧ SRow w' a m cap' us ∧ Below w.heap.size w w' ∧ ∀ x, x ∈ us ↔ Blk f ts bs i x := by
  have K := blockers_any base rb mb N n g cap f ps ts bs i w h hi hn hN
  obtain ⟨p, hp⟩ : ∃ p, p = ps.getD i 0 := ⟨_, rfl⟩
  rw [← hp] at K ⊢
  have HK : Hid (Calls Try.prog 26 #[.pointer (some ⟨rb, 0, none⟩), .pointer (some ⟨p, 0, none⟩)] w fun e w' => ∃ a m cap' us, e = .returned (.slice a m cap') ∧ m ≤ 1048576 ∧ SRow w' a m cap' us ∧ Below w.heap.size w w' ∧ ∀ x, x ∈ us ↔ Blk f ts bs i x) := K
  clear h hp K
  go_enter Try.func15, Try.ntmps15
  go_wp2_with fail
  refine HK.out.mono ?_
  rintro e w1 ⟨a, m, cap', us, rfl, H⟩
  have HH : Hid (m ≤ 1048576 ∧ SRow w1 a m cap' us ∧ Below w.heap.size w w1 ∧ ∀ x, x ∈ us ↔ Blk f ts bs i x) := H
  clear H HK
  go_wp2_with fail
  go_ret
  exact ⟨a, m, cap', us, rfl, HH.out⟩

set_option maxRecDepth 100000 in
set_option maxHeartbeats 1600000 in
/-- leadsAt behind an exclusive one. -/
theorem leadsAt_any (base rb mb N n g cap : Nat) (f : ByteArray → Option Value) (ps : List Nat) (ts : List ByteArray) (bs : List Bool) (i e : Nat) (w : World) (h : All w base rb mb N n g cap f ps ts bs (fun j => (j : Int))) (hi : i < n) (he : e < i) (hn : n ≤ 65536) :
    Calls Try.prog 28 #[.pointer (some ⟨rb, 0, none⟩), .int .i64 (i : Int), .int .i64 (e : Int)] w fun r w' => ∃ a m cap' us, r = .returned (.slice a m cap') ∧ m ≤ 1048576 ∧ SRow w' a m cap' us ∧ Below w.heap.size w w' ∧ ∀ x, x ∈ us ↔ Lead ts bs i e x := by
  obtain ⟨i0, hi0, hz0, hz1, hz2⟩ := info9_parts
  have HA : Hid (All w base rb mb N n g cap f ps ts bs (fun j => (j : Int))) := h
  have hcp := h.cap
  have cq := h.res.queue
  have cp := h.cell i hi
  obtain ⟨p, hp⟩ : ∃ p, p = ps.getD i 0 := ⟨_, rfl⟩
  obtain ⟨m, hm⟩ : ∃ m, m = modeOf (bs.getD i false) := ⟨_, rfl⟩
  have cm := (h.que.req i hi).mode
  rw [← hp] at cp cm
  rw [← hm] at cm
  simp only [ptr] at cp
  have HE : Hid (∀ x, Lead ts bs i e x ↔ ((m = 0 ∧ ∃ j, e < j ∧ j < i ∧ x = ts.getD j ByteArray.empty) ∨ x = ts.getD e ByteArray.empty)) := by
    intro x; unfold Lead; rw [hm]
  clear h hp hm
  have hs41 := fun W => slice41lh g n cap (e + 1) i (by omega) (by omega) (by omega) W
  by_cases hm0 : m = 0
  · have HE0 : Hid (∀ x, Lead ts bs i e x ↔ ((∃ j, e < j ∧ j < i ∧ x = ts.getD j ByteArray.empty) ∨ x = ts.getD e ByteArray.empty)) := by
      intro x; rw [HE.out x]; simp [hm0]
    clear HE
    subst hm0
    go_enter Try.func28, Try.ntmps28
    go_wp2_with fail
    go_loopw [8, 34] (fun v si wr => ∃ (k : Nat) (us : List ByteArray), k ≤ i - (e + 1) ∧ si = .int .i64 k ∧ us.length = k ∧ Hid (wr.ownsRow w.heap.size 9 1 v us.length (us.map Value.string) ∧ (∀ x, x ∈ us ↔ ∃ j, e < j ∧ j < e + 1 + k ∧ x = ts.getD j ByteArray.empty) ∧ Below w.heap.size w wr)) (fun _ si _ => (i - (e + 1)) - (intOf si).toNat)
    case atStart => exact ⟨0, [], Nat.zero_le _, rfl, rfl, World.ownsRow_nil _ _ _ _, fun x => ⟨fun k => by simp at k, fun ⟨j, h1, h2, _⟩ => by omega⟩, Below.refl _ _⟩
    case round =>
      obtain ⟨k, us, hk, rfl, hul, HU⟩ := hrel
      by_cases hlt : k < i - (e + 1)
      · have A2 := HA.out.below HU.out.2.2
        have c2 := A2.cell (e + 1 + k) (by omega)
        have hr := A2.que.req (e + 1 + k) (by omega)
        obtain ⟨p2, hp2⟩ : ∃ p2, p2 = ps.getD (e + 1 + k) 0 := ⟨_, rfl⟩
        obtain ⟨t2, ht2⟩ : ∃ t2, t2 = ts.getD (e + 1 + k) ByteArray.empty := ⟨_, rfl⟩
        rw [← hp2] at c2 hr
        rw [← ht2] at hr
        simp only [ptr] at c2
        have ct2 := hr.txn
        have H2 : Hid (t2 = ts.getD (e + 1 + k) ByteArray.empty) := ht2
        have hwz : w.heap.size ≤ wr.heap.size := HU.out.2.2.size
        clear A2 hr hp2 ht2 cq cp cm
        go_wp2_with (at_builtin; refine wpList_append_own _ rfl _ _ 22 rfl w.heap.size 9 i0 (.string ByteArray.empty) 1 16 Try.underlying22 hi0 hz0 hz1 hz2 rfl (by decide) _ _ _ rfl (HU.out.1.alloc _) ⟨_, 0, none⟩ 1 1 [.string t2] rfl rfl (cell_one_new wr _ _) (fun x hx => by simp at hx; subst hx; rfl) (by unfold maxLen; omega) (by omega) (by simp; omega) ?_; intro v' w3 hown' hg3 hnil3)
        have HG3 : Hid (w3.ownsRow w.heap.size 9 1 v' (us ++ [t2]).length ((us ++ [t2]).map Value.string) ∧ Below w.heap.size w w3) :=
          ⟨by simpa using hown', (HU.out.2.2.alloc HU.out.2.2.size _).grown hg3 (by simp; omega) (fun k hk => (HU.out.1.lt k hk).1)⟩
        clear hown' hg3 hnil3
        go_roundw
        case rel => exact ⟨k + 1, us ++ [t2], by omega, by go_num, by simp; omega, HG3.out.1, Next.add HU.out.2.1 H2.out, HG3.out.2⟩
        case measure => simp [intOf]; omega
      · have ek : e + 1 + k = i := by omega
        have HX : Hid (∀ x, x ∈ us ↔ ∃ j, e < j ∧ j < i ∧ x = ts.getD j ByteArray.empty) := by rw [← ek]; exact HU.out.2.1
        have A2 := HA.out.below HU.out.2.2
        have c1 := A2.res.queue
        have c2 := A2.cell e (by omega)
        have hr := A2.que.req e (by omega)
        obtain ⟨p2, hp2⟩ : ∃ p2, p2 = ps.getD e 0 := ⟨_, rfl⟩
        obtain ⟨t2, ht2⟩ : ∃ t2, t2 = ts.getD e ByteArray.empty := ⟨_, rfl⟩
        rw [← hp2] at c2 hr
        rw [← ht2] at hr
        simp only [ptr] at c2
        have ct2 := hr.txn
        have H2 : Hid (t2 = ts.getD e ByteArray.empty) := ht2
        have hwz : w.heap.size ≤ wr.heap.size := HU.out.2.2.size
        clear A2 hr hp2 ht2 cq cp cm ek
        go_wp2_with (at_builtin; refine wpList_append_own _ rfl _ _ 22 rfl w.heap.size 9 i0 (.string ByteArray.empty) 1 16 Try.underlying22 hi0 hz0 hz1 hz2 rfl (by decide) _ _ _ rfl (HU.out.1.alloc _) ⟨_, 0, none⟩ 1 1 [.string t2] rfl rfl (cell_one_new wr _ _) (fun x hx => by simp at hx; subst hx; rfl) (by unfold maxLen; omega) (by omega) (by simp; omega) ?_; intro v' w3 hown' hg3 hnil3)
        have HG3 : Hid (w3.ownsRow w.heap.size 9 1 v' (us ++ [t2]).length ((us ++ [t2]).map Value.string) ∧ Below w.heap.size w w3) :=
          ⟨by simpa using hown', (HU.out.2.2.alloc HU.out.2.2.size _).grown hg3 (by simp; omega) (fun k hk => (HU.out.1.lt k hk).1)⟩
        clear hown' hg3 hnil3
        refine (sort_any w.heap.size v' (us ++ [t2]).length (us ++ [t2]) w3 HG3.out.1 (by simp; omega)).mono ?_
        rintro e w4 ⟨rfl, us1, hm1, ho1, hg1⟩
        have H1 : Hid ((∀ x, x ∈ us1 ↔ x ∈ us ++ [t2]) ∧ w4.ownsRow w.heap.size 9 1 v' (us ++ [t2]).length (us1.map Value.string) ∧ Below w.heap.size w w4) := ⟨hm1, ho1, HG3.out.2.grown hg1 HG3.out.2.size (fun j hj => (HG3.out.1.lt j hj).1)⟩
        clear hm1 ho1 hg1
        go_wp2_with fail
        refine (compact_any w.heap.size v' (us ++ [t2]).length us1 w4 H1.out.2.1 (by simp; omega)).mono ?_
        rintro e w5 ⟨a', m', cap', rfl, hle, us2, hm2, hr2, hb2⟩
        have H3 : Hid ((∀ x, x ∈ us2 ↔ x ∈ us ++ [t2]) ∧ SRow w5 a' m' cap' us2 ∧ Below w.heap.size w w5 ∧ m' ≤ 1048576) := ⟨fun x => (hm2 x).trans (H1.out.1 x), hr2, H1.out.2.2.trans hb2, by simp at hle; omega⟩
        clear hm2 hr2 hb2 H1
        go_wp2_with fail
        go_ret
        exact ⟨a', m', cap', us2, rfl, H3.out.2.2.2, H3.out.2.1, H3.out.2.2.1, fun x => by rw [H3.out.1 x, HE0.out x]; rw [List.mem_append, HX.out x, ← H2.out]; simp⟩
  · have HE0 : Hid (∀ x, Lead ts bs i e x ↔ x = ts.getD e ByteArray.empty) := by
      intro x; rw [HE.out x]; simp [hm0]
    have hm1 : decide (m = 0) = false := decide_eq_false hm0
    clear HE
    have c2 := HA.out.cell e (by omega)
    have hr := HA.out.que.req e (by omega)
    obtain ⟨p2, hp2⟩ : ∃ p2, p2 = ps.getD e 0 := ⟨_, rfl⟩
    obtain ⟨t2, ht2⟩ : ∃ t2, t2 = ts.getD e ByteArray.empty := ⟨_, rfl⟩
    rw [← hp2] at c2 hr
    rw [← ht2] at hr
    simp only [ptr] at c2
    have ct2 := hr.txn
    have H2 : Hid (t2 = ts.getD e ByteArray.empty) := ht2
    clear hr hp2 ht2
    go_enter Try.func28, Try.ntmps28
    go_wp2_with (at_builtin; refine wpList_append_own _ rfl _ _ 22 rfl w.heap.size 9 i0 (.string ByteArray.empty) 1 16 Try.underlying22 hi0 hz0 hz1 hz2 rfl (by decide) _ _ _ rfl (World.ownsRow_nil _ _ _ _) ⟨_, 0, none⟩ 1 1 [.string t2] rfl rfl (cell_one_new w _ _) (fun x hx => by simp at hx; subst hx; rfl) (by unfold maxLen; omega) (by omega) (by simp) ?_; intro v' w3 hown' hg3 hnil3)
    have HG3 : Hid (w3.ownsRow w.heap.size 9 1 v' [t2].length ([t2].map Value.string) ∧ Below w.heap.size w w3) :=
      ⟨by simpa using hown', ((Below.refl _ _).alloc (Nat.le_refl _) _).grown hg3 (by simp) (fun k hk => by cases (show (none : Option Nat) = some k from hk))⟩
    clear hown' hg3 hnil3
    refine (sort_any w.heap.size v' [t2].length [t2] w3 HG3.out.1 (by simp)).mono ?_
    rintro e w4 ⟨rfl, us1, hm1, ho1, hg1⟩
    have H1 : Hid ((∀ x, x ∈ us1 ↔ x ∈ [t2]) ∧ w4.ownsRow w.heap.size 9 1 v' [t2].length (us1.map Value.string) ∧ Below w.heap.size w w4) := ⟨hm1, ho1, HG3.out.2.grown hg1 HG3.out.2.size (fun j hj => (HG3.out.1.lt j hj).1)⟩
    clear hm1 ho1 hg1
    go_wp2_with fail
    refine (compact_any w.heap.size v' [t2].length us1 w4 H1.out.2.1 (by simp)).mono ?_
    rintro e w5 ⟨a', m', cap', rfl, hle, us2, hm2, hr2, hb2⟩
    have H3 : Hid ((∀ x, x ∈ us2 ↔ x ∈ [t2]) ∧ SRow w5 a' m' cap' us2 ∧ Below w.heap.size w w5 ∧ m' ≤ 1048576) := ⟨fun x => (hm2 x).trans (H1.out.1 x), hr2, H1.out.2.2.trans hb2, by simp at hle; omega⟩
    clear hm2 hr2 hb2 H1
    go_wp2_with fail
    go_ret
    exact ⟨a', m', cap', us2, rfl, H3.out.2.2.2, H3.out.2.1, H3.out.2.2.1, fun x => by rw [H3.out.1 x, HE0.out x]; rw [← H2.out]; simp⟩
end Go.Proofs.Qxb6003669a
