import Derived.Test.Qxb6003669aRng
import Derived.Test.Qxb6003669aSorted
import Derived.Deep.RegionHeld3
namespace Go.Proofs.Qxb6003669a
open Go.RowKit Go.Maps Go.WideMaps

/-- A holder that a request of t in mode m waits for. -/
def Held (f : ByteArray → Option Value) (t : ByteArray) (m : Int) (x : ByteArray) : Prop := x.size ≤ maxLen ∧ ∃ c, f x = some (.int .i64 c) ∧ x ≠ t ∧ ¬ (c = 1 ∧ m = 1)
/-- Whom the request at i waits for. -/
def Blk (f : ByteArray → Option Value) (ts : List ByteArray) (bs : List Bool) (i : Nat) (x : ByteArray) : Prop :=
  Held f (ts.getD i ByteArray.empty) (modeOf (bs.getD i false)) x ∨ ∃ j, j < i ∧ x = ts.getD j ByteArray.empty ∧ ¬ (modeOf (bs.getD j false) = 1 ∧ modeOf (bs.getD i false) = 1)

/-- What the first loop has got. -/
def Got (f : ByteArray → Option Value) (t : ByteArray) (m : Int) (seen : ByteArray → Prop) (ss : List ByteArray) : Prop := ∀ x, x ∈ ss ↔ Held f t m x ∧ seen x

theorem Got.skip {f : ByteArray → Option Value} {t : ByteArray} {m : Int} {seen : ByteArray → Prop} {ss : List ByteArray} {s : ByteArray} (h : Got f t m seen ss) (hs : ¬ Held f t m s) : Got f t m (fun x => seen x ∨ x = s) ss := by
  intro x
  rw [h x]
  constructor
  · exact fun k => ⟨k.1, .inl k.2⟩
  · rintro ⟨k1, k2 | rfl⟩
    · exact ⟨k1, k2⟩
    · exact absurd k1 hs
theorem Got.add {f : ByteArray → Option Value} {t : ByteArray} {m : Int} {seen : ByteArray → Prop} {ss : List ByteArray} {s : ByteArray} (h : Got f t m seen ss) (hs : Held f t m s) : Got f t m (fun x => seen x ∨ x = s) (ss ++ [s]) := by
  intro x
  rw [List.mem_append, h x]
  constructor
  · rintro (k | k)
    · exact ⟨k.1, .inl k.2⟩
    · have : x = s := by simpa using k
      subst this
      exact ⟨hs, .inr rfl⟩
  · rintro ⟨k1, k2 | rfl⟩
    · exact .inl ⟨k1, k2⟩
    · exact .inr (by simp)
theorem Got.all {f : ByteArray → Option Value} {t : ByteArray} {m : Int} {seen : ByteArray → Prop} {ss : List ByteArray} (h : Got f t m seen ss) (hd : ∀ s : ByteArray, s.size ≤ maxLen → f s ≠ none → seen s) (x : ByteArray) : x ∈ ss ↔ Held f t m x := by
  rw [h x]
  constructor
  · exact fun k => k.1
  · intro k
    refine ⟨k, hd x k.1 ?_⟩
    obtain ⟨_, c, hc, _⟩ := k
    rw [hc]; simp

theorem Ahead.skip {A : ByteArray → Prop} {C : Nat → Prop} {ts : List ByteArray} {k : Nat} {us : List ByteArray} (h : ∀ x, x ∈ us ↔ A x ∨ ∃ j, j < k ∧ x = ts.getD j ByteArray.empty ∧ C j) (hk : ¬ C k) : ∀ x, x ∈ us ↔ A x ∨ ∃ j, j < k + 1 ∧ x = ts.getD j ByteArray.empty ∧ C j := by
  intro x
  rw [h x]
  constructor
  · rintro (h | ⟨j, h1, h2⟩)
    · exact .inl h
    · exact .inr ⟨j, by omega, h2⟩
  · rintro (h | ⟨j, h1, h2⟩)
    · exact .inl h
    · by_cases e : j = k
      · subst e; exact absurd h2.2 hk
      · exact .inr ⟨j, by omega, h2⟩
theorem Ahead.add {A : ByteArray → Prop} {C : Nat → Prop} {ts : List ByteArray} {k : Nat} {us : List ByteArray} {t : ByteArray} (h : ∀ x, x ∈ us ↔ A x ∨ ∃ j, j < k ∧ x = ts.getD j ByteArray.empty ∧ C j) (ht : t = ts.getD k ByteArray.empty) (hk : C k) : ∀ x, x ∈ us ++ [t] ↔ A x ∨ ∃ j, j < k + 1 ∧ x = ts.getD j ByteArray.empty ∧ C j := by
  intro x
  rw [List.mem_append, h x]
  constructor
  · rintro ((h | ⟨j, h1, h2⟩) | h)
    · exact .inl h
    · exact .inr ⟨j, by omega, h2⟩
    · have : x = t := by simpa using h
      exact .inr ⟨k, by omega, this.trans ht, hk⟩
  · rintro (h | ⟨j, h1, h2⟩)
    · exact .inl (.inl h)
    · by_cases e : j = k
      · subst e
        exact .inr (by rw [h2.1, ht]; simp)
      · exact .inl (.inr ⟨j, by omega, h2⟩)

theorem elem41 : Try.prog.elem 41 = 32 := by kernel_rfl
theorem slice41 (g n cap i : Nat) (hc : i ≤ cap) (hp : 0 < cap) (W : World) : (Instr.slice 41 (.slice (some ⟨g, 0, none⟩) n cap) none (some (.int .i64 (i : Int))) none).run Try.prog W = .ok (.slice (some ⟨g, 0, none⟩) i cap) W := by
  rw [run_slice_h W 41 _ n cap (by rw [elem41]; exact Try.underlying41) .i64 _ (by omega) (by omega)]
  have hcap : ¬ cap = 0 := by omega
  simp [go_sem, hcap]

theorem info9_parts : ∃ i0, Try.prog.info? 9 = some i0 ∧ i0.zero = some (.string ByteArray.empty) ∧ i0.size = 1 ∧ i0.bytes = 16 := info_parts Try.info9

set_option maxRecDepth 100000 in
set_option maxHeartbeats 3200000 in
/-- blockers. -/
theorem blockers_any (base rb mb N n g cap : Nat) (f : ByteArray → Option Value) (ps : List Nat) (ts : List ByteArray) (bs : List Bool) (i : Nat) (w : World) (h : All w base rb mb N n g cap f ps ts bs (fun j => (j : Int))) (hi : i < n) (hn : n ≤ 65536) (hN : N ≤ 65536) :
    Calls Try.prog 26 #[.pointer (some ⟨rb, 0, none⟩), .pointer (some ⟨ps.getD i 0, 0, none⟩)] w fun e w' => ∃ a m cap' us, e = .returned (.slice a m cap') ∧ m ≤ 1048576 ∧ SRow w' a m cap' us ∧ Below w.heap.size w w' ∧ ∀ x, x ∈ us ↔ Blk f ts bs i x := by
  obtain ⟨i0, hi0, hz0, hz1, hz2⟩ := info9_parts
  have HA : Hid (All w base rb mb N n g cap f ps ts bs (fun j => (j : Int))) := h
  have hcp := h.cap
  obtain ⟨p, hp⟩ : ∃ p, p = ps.getD i 0 := ⟨_, rfl⟩
  obtain ⟨t, ht⟩ : ∃ t, t = ts.getD i ByteArray.empty := ⟨_, rfl⟩
  obtain ⟨m, hm⟩ : ∃ m, m = modeOf (bs.getD i false) := ⟨_, rfl⟩
  have HT : Hid (∀ W, Below w.heap.size w W → Req W p t m i) := fun W hW => by
    have := ((HA.out).below hW).que.req i hi
    rw [← hp, ← ht, ← hm] at this
    exact this
  have HE : Hid (∀ x, Blk f ts bs i x ↔ (Held f t m x ∨ ∃ j, j < i ∧ x = ts.getD j ByteArray.empty ∧ ¬ (modeOf (bs.getD j false) = 1 ∧ m = 1))) := by
    intro x; unfold Blk; rw [ht, hm]
  have cm := h.res.map
  rw [← hp]
  have HM : Hid (SMap Try.prog 44 w mb f N) := h.map
  clear h hp ht hm
  go_enter Try.func26, Try.ntmps26
  go_wp2_with (at_range; refine wpList_range_going rfl _ rfl mb N f rfl HM.out ?_; intro w0 cnt0 hG0 hc0 hg0; have H0 : Hid (Going w0 mb w.heap.size N f (fun _ => False) cnt0 ∧ cnt0 ≤ N ∧ Below w.heap.size w w0) := ⟨hG0, hc0, (Below.refl _ _).grown hg0 (Nat.le_refl _) (fun j hj => by cases hj)⟩; clear hG0 hc0 hg0)
  go_frame
  go_loopw [5] (fun v wr => ∃ (cnt : Nat) (seen : ByteArray → Prop) (ss : List ByteArray), Hid (Going wr mb w.heap.size N f seen cnt ∧ ss.length + cnt ≤ N ∧ wr.ownsRow w.heap.size 9 1 v ss.length (ss.map Value.string) ∧ Got f t m seen ss ∧ Below w.heap.size w wr)) (fun _ wr => wr.rangeLeft mb w.heap.size)
  case atStart => exact ⟨cnt0, _, [], H0.out.1, by simpa using H0.out.2.1, World.ownsRow_nil _ _ _ _, fun x => by simp, H0.out.2.2⟩
  case round =>
    clear H0 cm
    obtain ⟨cnt, seen, ss, HX⟩ := hrel
    go_wp2_with (at_next; refine wpList_next_going rfl _ rfl mb w.heap.size N f seen cnt rfl HX.out.1 ?_ ?_)
    · intro hd
      have HF : Hid (wr.ownsRow w.heap.size 9 1 u5 ss.length (ss.map Value.string) ∧ (∀ x, x ∈ ss ↔ Held f t m x) ∧ Below w.heap.size w wr ∧ ss.length ≤ N) := ⟨HX.out.2.2.1, HX.out.2.2.2.1.all hd, HX.out.2.2.2.2, by have := HX.out.2.1; omega⟩
      have cq := (HA.out.below HF.out.2.2.1).res.queue
      have c7 := (HT.out wr HF.out.2.2.1).at7
      have hs41 := fun W => slice41 g n cap i (by omega) (by omega) W
      clear HX hd
      go_wp2_with fail
      go_region
      go_wp2_with fail
      go_loopw [5, 49] (fun v si wx => ∃ (k : Nat) (us : List ByteArray), k ≤ i ∧ si = .int .i64 k ∧ us.length ≤ 65536 + k ∧ Hid (wx.ownsRow w.heap.size 9 1 v us.length (us.map Value.string) ∧ (∀ x, x ∈ us ↔ Held f t m x ∨ ∃ j, j < k ∧ x = ts.getD j ByteArray.empty ∧ ¬ (modeOf (bs.getD j false) = 1 ∧ m = 1)) ∧ Below w.heap.size w wx)) (fun _ si _ => i - (intOf si).toNat)
      case atStart => exact ⟨0, ss, Nat.zero_le _, rfl, by have := HF.out.2.2.2; omega, HF.out.1.drew, fun x => by rw [HF.out.2.1 x]; simp, HF.out.2.2.1.drew⟩
      case round =>
        obtain ⟨k, us, hk, rfl, hul, HU⟩ := hrel
        by_cases hlt : k < i
        · have A2 := HA.out.below HU.out.2.2
          have cp := A2.cell k (by omega)
          have hr := A2.que.req k (by omega)
          obtain ⟨p2, hp2⟩ : ∃ p2, p2 = ps.getD k 0 := ⟨_, rfl⟩
          obtain ⟨t2, ht2⟩ : ∃ t2, t2 = ts.getD k ByteArray.empty := ⟨_, rfl⟩
          obtain ⟨m2, hm2⟩ : ∃ m2, m2 = modeOf (bs.getD k false) := ⟨_, rfl⟩
          rw [← hp2] at cp hr
          rw [← ht2, ← hm2] at hr
          simp only [ptr] at cp
          have ct2 := hr.txn
          have cm2 := hr.mode
          have cmm := (HT.out wr HU.out.2.2).mode
          have H2 : Hid (t2 = ts.getD k ByteArray.empty ∧ m2 = modeOf (bs.getD k false)) := ⟨ht2, hm2⟩
          clear A2 hr hp2 ht2 hm2
          by_cases hcm : m2 = 1 ∧ m = 1
          · have HK29 : Hid (∀ W, Calls Try.prog 29 #[.int .i64 m2, .int .i64 m] W fun e w' => e = .returned (.bool true) ∧ w' = W) := fun W => by have := compatible_any m2 m W; rwa [decide_eq_true hcm] at this
            have HCM : Hid (m2 = 1 ∧ m = 1) := hcm
            clear hcm
            go_wp2_with fail
            go_region_held3 (fun w' => w'.cell? ⟨p2, 2, none⟩ = some (.int .i64 m2) ∧ w'.cell? ⟨p, 2, none⟩ = some (.int .i64 m)) (go_keep) (first
              | (go_at_call 29; refine (HK29.out _).mono ?_; rintro e w9 ⟨rfl, rfl⟩))
            go_wp2_with fail
            go_roundw
            case rel => exact ⟨k + 1, us, by omega, by go_num, by omega, HU.out.1.drew, Ahead.skip HU.out.2.1 (fun k9 => k9 (by rw [← H2.out.2]; exact HCM.out)), HU.out.2.2.drew⟩
            case measure => simp [intOf]; omega
          · have HK29 : Hid (∀ W, Calls Try.prog 29 #[.int .i64 m2, .int .i64 m] W fun e w' => e = .returned (.bool false) ∧ w' = W) := fun W => by have := compatible_any m2 m W; rwa [decide_eq_false hcm] at this
            have HCM : Hid (¬ (m2 = 1 ∧ m = 1)) := hcm
            have hwz : w.heap.size ≤ wr.heap.size := HU.out.2.2.size
            clear hcm
            go_wp2_with fail
            go_region_held3 (fun w' => w'.cell? ⟨p2, 2, none⟩ = some (.int .i64 m2) ∧ w'.cell? ⟨p, 2, none⟩ = some (.int .i64 m)) (go_keep) (first
              | (go_at_call 29; refine (HK29.out _).mono ?_; rintro e w9 ⟨rfl, rfl⟩))
            go_wp2_with (at_builtin; refine wpList_append_own _ rfl _ _ 22 rfl w.heap.size 9 i0 (.string ByteArray.empty) 1 16 Try.underlying22 hi0 hz0 hz1 hz2 rfl (by decide) _ _ _ rfl (HU.out.1.alloc _).drew ⟨_, 0, none⟩ 1 1 [.string t2] rfl rfl (cell_one_new wr _ _) (fun x hx => by simp at hx; subst hx; rfl) (by unfold maxLen; omega) (by omega) (by simp; omega) ?_; intro v' w3 hown' hg3 hnil3)
            have HG3 : Hid (w3.ownsRow w.heap.size 9 1 v' (us ++ [t2]).length ((us ++ [t2]).map Value.string) ∧ Below w.heap.size w w3) :=
              ⟨by simpa using hown', ((HU.out.2.2.alloc HU.out.2.2.size _).drew).grown hg3 (by simp; omega) (fun k hk => (HU.out.1.lt k hk).1)⟩
            clear hown' hg3 hnil3
            go_roundw
            case rel => exact ⟨k + 1, us ++ [t2], by omega, by go_num, by simp; omega, HG3.out.1, Ahead.add HU.out.2.1 H2.out.1 (by rw [← H2.out.2]; exact HCM.out), HG3.out.2⟩
            case measure => simp [intOf]; omega
        · have e : k = i := by omega
          subst e
          go_wp2_with fail
          refine (sort_any w.heap.size u5 us.length us wr HU.out.1 (by omega)).mono ?_
          rintro e w1 ⟨rfl, us1, hm1, ho1, hg1⟩
          have H1 : Hid ((∀ x, x ∈ us1 ↔ x ∈ us) ∧ w1.ownsRow w.heap.size 9 1 u5 us.length (us1.map Value.string) ∧ Below w.heap.size w w1) := ⟨hm1, ho1, HU.out.2.2.grown hg1 HU.out.2.2.size (fun j hj => (HU.out.1.lt j hj).1)⟩
          clear hm1 ho1 hg1
          go_wp2_with fail
          refine (compact_any w.heap.size u5 us.length us1 w1 H1.out.2.1 (by omega)).mono ?_
          rintro e w2 ⟨a', m', cap', rfl, hle, us2, hm2, hr2, hb2⟩
          have H3 : Hid ((∀ x, x ∈ us2 ↔ x ∈ us1) ∧ SRow w2 a' m' cap' us2 ∧ Below w.heap.size w w2) := ⟨hm2, hr2, H1.out.2.2.trans hb2⟩
          clear hm2 hr2 hb2
          go_wp2_with fail
          go_ret
          exact ⟨a', m', cap', us2, rfl, by omega, H3.out.2.1, H3.out.2.2, fun x => by rw [H3.out.1 x, H1.out.1 x, HU.out.2.1 x, HE.out x]⟩
    · intro s c w2 cnt2 hsz hf hG2 hlt hg2 hen
      have HL : Hid (cnt2 < cnt ∧ wr.rangeLeft mb w.heap.size = cnt) := ⟨hlt, HX.out.1.left_eq⟩
      have HB2 : Hid (Below w.heap.size w w2) := HX.out.2.2.2.2.grown hg2 HX.out.2.2.2.2.size (fun j hj => by cases hj; exact Nat.le_refl _)
      have HO2 : Hid (w2.ownsRow w.heap.size 9 1 u5 ss.length (ss.map Value.string)) := HX.out.2.2.1.kept hg2 (.inr (HX.out.1.ne_own HX.out.2.2.1).2.symm)
      have HG2 : Hid (Going w2 mb w.heap.size N f (fun x => seen x ∨ x = s) cnt2 ∧ ss.length + cnt2 < N ∧ Got f t m seen ss) := ⟨hG2, by have := HX.out.2.1; omega, HX.out.2.2.2.1⟩
      have HS : Hid (s.size ≤ maxLen ∧ f s = some (.int .i64 c)) := ⟨hsz, hf⟩
      have ct := (HT.out w2 HB2.out).txn
      have cmd := (HT.out w2 HB2.out).mode
      have hlen : ss.length < 65536 := by have := HG2.out.2.1; omega
      have hwz : w.heap.size ≤ w2.heap.size := HB2.out.size
      clear hsz hf hG2 hlt hg2 HX
      by_cases hst : s = t
      · subst hst
        go_wp2_with fail
        go_roundw
        case rel => exact ⟨cnt2, fun x => seen x ∨ x = s, ss, HG2.out.1, by have := HG2.out.2.1; omega, HO2.out, HG2.out.2.2.skip (fun k => by obtain ⟨_, _, _, k, _⟩ := k; exact k rfl), HB2.out⟩
        case measure => rw [HG2.out.1.left_eq, HL.out.2]; exact HL.out.1
      · have hne := ne_bne hst
        have hne2 := ne_beq hst
        have K29 := compatible_any c m w2
        by_cases hcm : c = 1 ∧ m = 1
        · rw [decide_eq_true hcm] at K29
          have HCM : Hid (c = 1 ∧ m = 1) := hcm
          have HK29 : Hid (Calls Try.prog 29 #[.int .i64 c, .int .i64 m] w2 fun e w' => e = .returned (.bool true) ∧ w' = w2) := K29
          clear hcm K29
          go_wp2_with (go_at_call 29; refine HK29.out.mono ?_; rintro e w' ⟨rfl, rfl⟩)
          go_roundw
          case rel => exact ⟨cnt2, fun x => seen x ∨ x = s, ss, HG2.out.1, by have := HG2.out.2.1; omega, HO2.out, HG2.out.2.2.skip (fun k => by obtain ⟨_, c', e, _, k⟩ := k; rw [HS.out.2] at e; cases e; exact k HCM.out), HB2.out⟩
          case measure => rw [HG2.out.1.left_eq, HL.out.2]; exact HL.out.1
        · rw [decide_eq_false hcm] at K29
          have HCM : Hid (¬ (c = 1 ∧ m = 1)) := hcm
          have HK29 : Hid (Calls Try.prog 29 #[.int .i64 c, .int .i64 m] w2 fun e w' => e = .returned (.bool false) ∧ w' = w2) := K29
          clear hcm K29
          go_wp2_with (first
            | (go_at_call 29; refine HK29.out.mono ?_; rintro e w' ⟨rfl, rfl⟩)
            | (at_builtin; refine wpList_append_own _ rfl _ _ 22 rfl w.heap.size 9 i0 (.string ByteArray.empty) 1 16 Try.underlying22 hi0 hz0 hz1 hz2 rfl (by decide) _ _ _ rfl (HO2.out.alloc _) ⟨_, 0, none⟩ 1 1 [.string s] rfl rfl (cell_one_new _ _ _) (fun x hx => by simp at hx; subst hx; rfl) (by unfold maxLen; omega) (by omega) (by simp; omega) ?_; intro v' w3 hown' hg3 hnil3))
          have HG3 : Hid (Going w3 mb w.heap.size N f (fun x => seen x ∨ x = s) cnt2 ∧ w3.ownsRow w.heap.size 9 1 v' (ss ++ [s]).length ((ss ++ [s]).map Value.string) ∧ Below w.heap.size w w3) := by
            have ne := (HG2.out.1.alloc (.cells #[.string s] 9)).ne_own (HO2.out.alloc (.cells #[.string s] 9))
            exact ⟨(HG2.out.1.alloc _).kept hg3 ne.1 ne.2, by simpa using hown', (HB2.out.alloc HB2.out.size _).grown hg3 (by simp; omega) (fun k hk => (HO2.out.lt k hk).1)⟩
          clear hown' hg3 hnil3
          go_roundw
          case rel => exact ⟨cnt2, fun x => seen x ∨ x = s, ss ++ [s], HG3.out.1, by have := HG2.out.2.1; simp; omega, HG3.out.2.1, HG2.out.2.2.add ⟨HS.out.1, c, HS.out.2, hst, HCM.out⟩, HG3.out.2.2⟩
          case measure => rw [HG3.out.1.left_eq, HL.out.2]; exact HL.out.1
end Go.Proofs.Qxb6003669a
