import Derived.Test.Qxb6003669aRes
namespace Go.Proofs.Qxb6003669a
open Go.RowKit Go.Maps Go.WideMaps

theorem elem44 (m : Int) (hm : m = 0 ∨ m = 1) : ∃ d, plainElem (H := Unit) Try.prog 44 (.int .i64 m) = some (d, []) := by
  rcases hm with rfl | rfl
  · exact ⟨_, rfl⟩
  · exact ⟨_, rfl⟩

theorem grown_setCell (w : World) (a : Addr) (v : Value) : w.grownBy (w.setCell a v) (some a.block) :=
  ⟨rfl, rfl, rfl, by simp [World.setCell], fun k _ hk => Below.heap_setCell _ _ _ _ (fun e => hk (by rw [e]))⟩

def modeOf (b : Bool) : Int := if b then 1 else 0

/-- The queue: n requests, in new memory. -/
structure Que (w : World) (base : Nat) (q : Value) (n : Nat) (ps : List Nat) (ts : List ByteArray) (bs : List Bool) (kf : Nat → Int) : Prop where
  own : w.ownsRow base 32 1 q n (ps.map ptr)
  req : ∀ j, j < n → Req w (ps.getD j 0) (ts.getD j ByteArray.empty) (modeOf (bs.getD j false)) (kf j)
  low : ∀ j, j < n → base ≤ ps.getD j 0
  inj : ∀ i j, i < n → j < n → ps.getD i 0 = ps.getD j 0 → i = j

theorem own_block {w : World} {base e n : Nat} {v : Value} {xs : List Value} (h : w.ownsRow base e 1 v n xs) {g : Nat} (hg : v.ownBlock = some g) : ∃ cur, w.heap[g]? = some (.cells cur e (0, 0)) := by
  rcases h.2 with ⟨h', _⟩ | ⟨g', cap, cur, h', _, hb, _⟩
  · subst h'; simp [Value.ownBlock] at hg
  · subst h'
    have : g' = g := by simpa [Value.ownBlock] using hg
    subst this
    exact ⟨cur, hb⟩

theorem ResB.ne_own {w : World} {rb mb base n : Nat} {q v : Value} {xs : List Value} (h : ResB w rb mb q) (ho : w.ownsRow base 32 1 v n xs) : some rb ≠ v.ownBlock := by
  intro e
  obtain ⟨cur, hc⟩ := own_block ho e.symm
  unfold ResB at h
  rw [h] at hc
  simp at hc
theorem Req.ne_own {w : World} {p base n : Nat} {t : ByteArray} {m k : Int} {v : Value} {xs : List Value} (h : Req w p t m k) (ho : w.ownsRow base 32 1 v n xs) : some p ≠ v.ownBlock := by
  intro e
  obtain ⟨cur, hc⟩ := own_block ho e.symm
  unfold Req at h
  rw [h] at hc
  simp at hc
theorem SMap.ne_own {w : World} {mb base n N : Nat} {f : ByteArray → Option Value} {v : Value} {xs : List Value} (h : SMap Try.prog 44 w mb f N) (ho : w.ownsRow base 32 1 v n xs) : some mb ≠ v.ownBlock := by
  intro e
  obtain ⟨cur, hc⟩ := own_block ho e.symm
  obtain ⟨D, ⟨es, clock, h1, _⟩, _⟩ := h
  rw [h1] at hc
  cases hc
theorem SMap.ne_res {w : World} {mb rb mb' N : Nat} {f : ByteArray → Option Value} {q : Value} (h : SMap Try.prog 44 w mb f N) (hr : ResB w rb mb' q) : mb ≠ rb := by
  rintro rfl
  obtain ⟨D, ⟨es, clock, h1, _⟩, _⟩ := h
  unfold ResB at hr
  rw [h1] at hr
  cases hr
theorem Req.ne_res {w : World} {p rb mb : Nat} {t : ByteArray} {m k : Int} {q : Value} (h : Req w p t m k) (hr : ResB w rb mb q) : p ≠ rb := by
  rintro rfl
  unfold ResB at hr
  unfold Req at h
  rw [h] at hr
  simp at hr
theorem SMap.ne_req {w : World} {mb p N : Nat} {f : ByteArray → Option Value} {t : ByteArray} {m k : Int} (h : SMap Try.prog 44 w mb f N) (hr : Req w p t m k) : mb ≠ p := by
  rintro rfl
  obtain ⟨D, ⟨es, clock, h1, _⟩, _⟩ := h
  unfold Req at hr
  rw [h1] at hr
  cases hr

theorem SMap.grown {w w' : World} {mb N : Nat} {f : ByteArray → Option Value} {row : Option Nat} (h : SMap Try.prog 44 w mb f N) (hg : w.grownBy w' row) (hne : some mb ≠ row) : SMap Try.prog 44 w' mb f N := h.kept hg hne

theorem own_kept_none {w w' : World} {base e n : Nat} {v : Value} {xs : List Value} (h : w.ownsRow base e 1 v n xs) (hg : w.grownBy w' none) : w'.ownsRow base e 1 v n xs := by
  cases hv : v.ownBlock with
  | none => exact h.kept hg (.inl hv)
  | some g => exact h.kept hg (.inr (by rw [hv]; simp))

/-- One request more. -/
theorem Que.push {w w1 w2 : World} {base n p : Nat} {q q' : Value} {ps : List Nat} {ts : List ByteArray} {bs : List Bool} {kf : Nat → Int}
    (h : Que w base q n ps ts bs kf) (hp : w.heap.size ≤ p) (hbase : base ≤ w.heap.size)
    (g1 : w.grownBy w1 none) (hq1 : Req w1 p (ts.getD n ByteArray.empty) (modeOf (bs.getD n false)) (kf n))
    (ho : w2.ownsRow base 32 1 q' (n + 1) (ps.map ptr ++ [ptr p])) (g2 : w1.grownBy w2 q.ownBlock) (hlt : ∀ g, q.ownBlock = some g → g < w.heap.size) :
    Que w2 base q' (n + 1) (ps ++ [p]) ts bs kf := by
  have hl : ps.length = n := by have := h.own.1; simpa using this
  have own1 := own_kept_none h.own g1
  have old : ∀ j, j < n → (ps ++ [p]).getD j 0 = ps.getD j 0 := fun j hj => by simp [List.getD, List.getElem?_append_left (show j < ps.length by omega)]
  have new : (ps ++ [p]).getD n 0 = p := by subst hl; simp
  refine ⟨by simpa using ho, fun j hj => ?_, fun j hj => ?_, fun i j hi hj e => ?_⟩
  · by_cases e : j = n
    · subst e
      rw [new]
      exact hq1.kept g2 (by intro e; have := hlt p e.symm; omega)
    · rw [old j (by omega)]
      have hr := h.req j (by omega)
      have hr1 := hr.kept g1 (by simp)
      exact hr1.kept g2 (hr1.ne_own own1)
  · by_cases e : j = n
    · subst e; rw [new]; omega
    · rw [old j (by omega)]; exact h.low j (by omega)
  · by_cases ei : i = n
    · by_cases ej : j = n
      · omega
      · subst ei
        rw [new, old j (by omega)] at e
        have := (h.req j (by omega)).lt
        omega
    · by_cases ej : j = n
      · subst ej
        rw [new, old i (by omega)] at e
        have := (h.req i (by omega)).lt
        omega
      · rw [old i (by omega), old j (by omega)] at e
        exact h.inj i j (by omega) (by omega) e

theorem cell_two (w : World) (A : Obj) (x : Value) : ∀ j u, [x][j]? = some u → ((w.alloc A).alloc (.cells #[x] 32)).drew.cell? ((⟨w.heap.size + 1, 0, none⟩ : Addr).add j) = some u := by
  intro j u h
  have := cell_one_new (w.alloc A) x 32 j u h
  rw [World.size_alloc] at this
  exact this

theorem Que.kept {w w' : World} {base n : Nat} {q : Value} {ps : List Nat} {ts : List ByteArray} {bs : List Bool} {kf : Nat → Int} {row : Option Nat} (h : Que w base q n ps ts bs kf) (hg : w.grownBy w' row)
    (hne : row = none ∨ q.ownBlock ≠ row) (hp : ∀ j, j < n → some (ps.getD j 0) ≠ row) : Que w' base q n ps ts bs kf := by
  refine ⟨?_, fun j hj => (h.req j hj).kept hg (hp j hj), h.low, h.inj⟩
  rcases hne with rfl | hne
  · exact own_kept_none h.own hg
  · exact h.own.kept hg (.inr hne)

theorem own_succ {w : World} {base e n : Nat} {v : Value} {xs : List Value} (h : w.ownsRow base e 1 v (n + 1) xs) : ∃ g cap, v = .slice (some ⟨g, 0, none⟩) (n + 1) cap := by
  rcases h.2 with ⟨_, h0⟩ | ⟨g', cap, cur, h', _⟩
  · omega
  · exact ⟨g', cap, h'⟩

/-- What the round leaves. -/
theorem after_push {w wr w1 : World} {rb mb k n : Nat} {q v1 : Value} {ps : List Nat} {ts : List ByteArray} {bs : List Bool} {f : ByteArray → Option Value} {A B : Obj} {kf : Nat → Int}
    (HX : SMap Try.prog 44 wr mb f n ∧ ResB wr rb mb q ∧ Que wr w.heap.size q k ps ts bs kf ∧ Below w.heap.size w wr) (hrb : w.heap.size ≤ rb)
    (hq : Req (wr.alloc A) wr.heap.size (ts.getD k ByteArray.empty) (modeOf (bs.getD k false)) (kf k))
    (hown : w1.ownsRow w.heap.size 32 1 v1 (k + 1) (ps.map ptr ++ [ptr wr.heap.size])) (hg : ((wr.alloc A).alloc B).drew.grownBy w1 q.ownBlock) :
    ResB w1 rb mb q ∧ SMap Try.prog 44 (w1.setCell ⟨rb, 1, none⟩ v1) mb f n ∧ ResB (w1.setCell ⟨rb, 1, none⟩ v1) rb mb v1 ∧ Que (w1.setCell ⟨rb, 1, none⟩ v1) w.heap.size v1 (k + 1) (ps ++ [wr.heap.size]) ts bs kf ∧ Below w.heap.size w (w1.setCell ⟨rb, 1, none⟩ v1) := by
  obtain ⟨hS, hR, hQ, hB⟩ := HX
  have g0 : wr.grownBy ((wr.alloc A).alloc B).drew none := by
    have a1 := World.grownBy_alloc wr A none
    have a2 := World.grownBy_alloc (wr.alloc A) B none
    exact ⟨a2.os.trans a1.os, a2.tape.trans a1.tape, a2.output.trans a1.output, Nat.le_trans a1.size a2.size, fun i hi hne => (a2.block i (Nat.lt_of_lt_of_le hi a1.size) hne).trans (a1.block i hi hne)⟩
  have gw : wr.grownBy w1 q.ownBlock := ⟨hg.os.trans g0.os, hg.tape.trans g0.tape, hg.output.trans g0.output, Nat.le_trans g0.size hg.size, fun i hi hne => (hg.block i (Nat.lt_of_lt_of_le hi g0.size) hne).trans (g0.block i hi (by simp))⟩
  have hR1 := hR.kept gw (hR.ne_own hQ.own)
  have hS1 := hS.kept gw (hS.ne_own hQ.own)
  have hq1 : Req ((wr.alloc A).alloc B).drew wr.heap.size (ts.getD k ByteArray.empty) (modeOf (bs.getD k false)) (kf k) := (hq.kept (World.grownBy_alloc (wr.alloc A) B none) (by simp) : Req ((wr.alloc A).alloc B) _ _ _ _)
  have hQ1 := hQ.push (Nat.le_refl _) hB.size g0 hq1 hown hg (fun g hg' => (hQ.own.lt g hg').2)
  have gs := grown_setCell w1 ⟨rb, 1, none⟩ v1
  refine ⟨hR1, hS1.kept gs (by intro e; exact hS1.ne_res hR1 (Option.some.inj e)), hR1.set v1, hQ1.kept gs (.inr (hR1.ne_own hQ1.own).symm) (fun j hj e => (hQ1.req j hj).ne_res hR1 (Option.some.inj e)), ?_⟩
  exact (hB.grown gw hB.size (fun g hg' => (hQ.own.lt g hg').1)).setCell hrb _

theorem ResB.made (w : World) : ResB ((w.alloc (.map #[] 0)).alloc (.cells #[.map (some w.heap.size), .slice none 0 0] 43)) (w.heap.size + 1) w.heap.size (.slice none 0 0) := by
  have := (MapKept.heap_alloc (w.alloc (.map #[] 0)) (.cells #[.map (some w.heap.size), .slice none 0 0] 43)).1
  rw [World.size_alloc] at this
  exact this

set_option maxRecDepth 100000 in
set_option maxHeartbeats 3200000 in
/-- ZZNewResource. -/
theorem new_any (a : Option Addr) (len cap : Nat) (hs : List ByteArray) (a2 : Option Addr) (cap2 : Nat) (hb : List Bool) (a3 : Option Addr) (len3 cap3 : Nat) (ts : List ByteArray) (a4 : Option Addr) (cap4 : Nat) (bs : List Bool) (w : World)
    (h : SRow w a len cap hs) (h2 : BRow w a2 len cap2 hb) (h3 : SRow w a3 len3 cap3 ts) (h4 : BRow w a4 len3 cap4 bs) (hm : len ≤ 65536) (hm3 : len3 ≤ 65536) (hk : ∀ s ∈ hs, s.size ≤ maxLen) :
    Calls Try.prog 12 #[.slice a len cap, .slice a2 len cap2, .slice a3 len3 cap3, .slice a4 len3 cap4] w fun e w' =>
      ∃ (q : Value) (ps : List Nat) (f : ByteArray → Option Value) (N : Nat), e = .returned (ptr (w.heap.size + 1)) ∧ SMap Try.prog 44 w' w.heap.size f N ∧ N ≤ 65536 ∧ ResB w' (w.heap.size + 1) w.heap.size q ∧ Que w' w.heap.size q len3 ps ts bs (fun _ => 0) ∧ Below w.heap.size w w' := by
  obtain ⟨i0, hi, hz0, hz1, hz2⟩ := info_parts Try.info32
  have HW : Hid (SRow w a len cap hs ∧ BRow w a2 len cap2 hb ∧ SRow w a3 len3 cap3 ts ∧ BRow w a4 len3 cap4 bs) := ⟨h, h2, h3, h4⟩
  have HK : Hid (∀ s ∈ hs, s.size ≤ maxLen) := hk
  clear h h2 h3 h4 hk
  have hmm := @run_makeMap Try.prog
  go_enter Try.func12, Try.ntmps12
  go_wp2_with fail
  go_loopw [10] (fun si wr => ∃ (k n : Nat) (f : ByteArray → Option Value), k ≤ len ∧ si = .int .i64 k ∧ n ≤ k ∧ Hid (SMap Try.prog 44 wr w.heap.size f n ∧ ResB wr (w.heap.size + 1) w.heap.size (.slice none 0 0) ∧ Below w.heap.size w wr)) (fun si _ => len - (intOf si).toNat)
  case atStart => exact ⟨0, 0, fun _ => none, Nat.zero_le _, rfl, Nat.le_refl _, (SMap.made w).kept (World.grownBy_alloc _ _ none) (by simp), ResB.made w, ((Below.refl _ _).alloc (Nat.le_refl _) _).alloc (by simp) _⟩
  case round =>
    obtain ⟨k, n, f, hk, rfl, hn, HX⟩ := hrel
    by_cases hlt : k < len
    · obtain ⟨b, o, hao, hbl, hc⟩ := HW.out.1.at k hlt
      obtain ⟨b2, o2, hao2, hbl2, hc2⟩ := HW.out.2.1.at k hlt
      cases hao
      cases hao2
      obtain ⟨s, hs1⟩ : ∃ s, s = hs[k]?.getD ByteArray.empty := ⟨_, rfl⟩
      have c0 : wr.cell? ⟨b, o + k, none⟩ = some (.string s) := by rw [hs1]; exact (HX.out.2.2.cell (by exact hbl)).trans (hc k hlt)
      have hsz : s.size ≤ maxLen := by
        have hl := HW.out.1.1
        rw [hs1, List.getElem?_eq_getElem (by omega)]
        exact HK.out _ (List.getElem_mem _)
      obtain ⟨y, hy⟩ : ∃ y, y = hb[k]?.getD false := ⟨_, rfl⟩
      have c1 : wr.cell? ⟨b2, o2 + k, none⟩ = some (.bool y) := by rw [hy]; exact (HX.out.2.2.cell (by exact hbl2)).trans (hc2 k hlt)
      have cm := HX.out.2.1.map
      clear hc hc2 hs1 hy
      cases y with
      | true =>
        obtain ⟨d, hd⟩ := elem44 1 (.inr rfl)
        obtain ⟨w1, hrun, hS1, hg1⟩ := HX.out.1.drew.store Try.underlying9 Try.underlying40 (by unfold maxLen; omega) hsz hd
        have H1 : Hid (SMap Try.prog 44 w1 w.heap.size (fun s' => if s' = s then some (.int .i64 1) else f s') (if (f s).isSome then n else n + 1) ∧ wr.grownBy w1 (some w.heap.size)) := ⟨hS1, grown_undrew hg1⟩
        clear hS1 hg1 hd
        go_wp2_with fail
        go_region
        all_goals go_wp2_with fail
        go_roundw
        case rel =>
          refine ⟨k + 1, _, _, by omega, by go_num, ?_, H1.out.1, HX.out.2.1.kept H1.out.2 (by simp), HX.out.2.2.grown H1.out.2 HX.out.2.2.size (fun j hj => by cases hj; exact Nat.le_refl _)⟩
          split <;> omega
        case measure => simp [intOf]; omega
      | false =>
        obtain ⟨d, hd⟩ := elem44 0 (.inl rfl)
        obtain ⟨w1, hrun, hS1, hg1⟩ := HX.out.1.drew.store Try.underlying9 Try.underlying40 (by unfold maxLen; omega) hsz hd
        have H1 : Hid (SMap Try.prog 44 w1 w.heap.size (fun s' => if s' = s then some (.int .i64 0) else f s') (if (f s).isSome then n else n + 1) ∧ wr.grownBy w1 (some w.heap.size)) := ⟨hS1, grown_undrew hg1⟩
        clear hS1 hg1 hd
        go_wp2_with fail
        go_region
        all_goals go_wp2_with fail
        go_roundw
        case rel =>
          refine ⟨k + 1, _, _, by omega, by go_num, ?_, H1.out.1, HX.out.2.1.kept H1.out.2 (by simp), HX.out.2.2.grown H1.out.2 HX.out.2.2.size (fun j hj => by cases hj; exact Nat.le_refl _)⟩
          split <;> omega
        case measure => simp [intOf]; omega
    · have hdl : decide ((k : Int) < (len : Int)) = false := decide_eq_false (by omega)
      go_wp2_with fail
      clear hdl
      go_loopw [12] (fun si wr => ∃ (k : Nat) (q : Value) (ps : List Nat), k ≤ len3 ∧ si = .int .i64 k ∧ Hid (SMap Try.prog 44 wr w.heap.size f n ∧ ResB wr (w.heap.size + 1) w.heap.size q ∧ Que wr w.heap.size q k ps ts bs (fun _ => 0) ∧ Below w.heap.size w wr)) (fun si _ => len3 - (intOf si).toNat)
      case atStart => exact ⟨0, .slice none 0 0, [], Nat.zero_le _, rfl, HX.out.1, HX.out.2.1, ⟨World.ownsRow_nil _ _ _ _, fun j hj => absurd hj (Nat.not_lt_zero _), fun j hj => absurd hj (Nat.not_lt_zero _), fun i j hi => absurd hi (Nat.not_lt_zero _)⟩, HX.out.2.2⟩
      case round =>
        have hnl : n ≤ 65536 := by omega
        clear HX hlt hk
        obtain ⟨k, q, ps, hk, rfl, HX2⟩ := hrel
        by_cases hlt : k < len3
        · obtain ⟨b, o, hao, hbl, hc⟩ := HW.out.2.2.1.at k hlt
          obtain ⟨b2, o2, hao2, hbl2, hc2⟩ := HW.out.2.2.2.at k hlt
          cases hao
          cases hao2
          obtain ⟨t, ht⟩ : ∃ t, t = ts[k]?.getD ByteArray.empty := ⟨_, rfl⟩
          have c0 : wr.cell? ⟨b, o + k, none⟩ = some (.string t) := by rw [ht]; exact (HX2.out.2.2.2.cell (by exact hbl)).trans (hc k hlt)
          obtain ⟨y, hy⟩ : ∃ y, y = bs[k]?.getD false := ⟨_, rfl⟩
          have c1 : wr.cell? ⟨b2, o2 + k, none⟩ = some (.bool y) := by rw [hy]; exact (HX2.out.2.2.2.cell (by exact hbl2)).trans (hc2 k hlt)
          have HY : Hid (ts.getD k ByteArray.empty = t ∧ bs.getD k false = y) := ⟨by rw [ht]; rfl, by rw [hy]; rfl⟩
          have cq := HX2.out.2.1.queue
          have cqA := fun A => (HX2.out.2.1.kept (World.grownBy_alloc wr A none) (by simp)).queue
          have cqB := fun A B => ((HX2.out.2.1.kept (World.grownBy_alloc wr A none) (by simp)).kept (World.grownBy_alloc (wr.alloc A) B none) (by simp)).queue
          clear hc hc2 ht hy
          cases y with
          | true =>
            have hrq : Hid (Req (wr.alloc (.cells (reqCells t 1 0).toArray 47)) wr.heap.size (ts.getD k ByteArray.empty) (modeOf (bs.getD k false)) 0) := by
              have := (MapKept.heap_alloc wr (.cells (reqCells t 1 0).toArray 47)).1
              rw [HY.out.1, HY.out.2]
              exact this
            clear HY
            go_wp2_with fail
            go_region_law (refine step_append_own rfl (.tmp 62) (.tmp 70) 41 rfl w.heap.size 32 i0 (.pointer none) 1 8 Try.underlying41 hi hz0 hz1 hz2 rfl (by decide) q k (ps.map ptr) (by simp [Act.eval]) ((HX2.out.2.2.1.own.alloc _).alloc _).drew ⟨wr.heap.size + 1, 0, none⟩ 1 1 [ptr wr.heap.size] (by simp [Act.eval]) rfl (cell_two _ _ _) (by simp [ptr, Value.oneCell']) (by unfold maxLen; omega) (by omega) (by have := HX2.out.2.2.2.size; simp; omega) ?_; intro v1 w1 hown1 hgrow1 hnil1; obtain ⟨g1, cap1, rfl⟩ := own_succ hown1; have HP := after_push (rb := w.heap.size + 1) HX2.out (by omega) hrq.out hown1 hgrow1; have cq1 := HP.1.queue; have fq1 := HP.1.frozen 1; have HF : Hid (SMap Try.prog 44 (w1.setCell ⟨w.heap.size + 1, 1, none⟩ (.slice (some ⟨g1, 0, none⟩) (k + 1) cap1)) w.heap.size f n ∧ ResB (w1.setCell ⟨w.heap.size + 1, 1, none⟩ (.slice (some ⟨g1, 0, none⟩) (k + 1) cap1)) (w.heap.size + 1) w.heap.size (.slice (some ⟨g1, 0, none⟩) (k + 1) cap1) ∧ Que (w1.setCell ⟨w.heap.size + 1, 1, none⟩ (.slice (some ⟨g1, 0, none⟩) (k + 1) cap1)) w.heap.size (.slice (some ⟨g1, 0, none⟩) (k + 1) cap1) (k + 1) (ps ++ [wr.heap.size]) ts bs (fun _ => 0) ∧ Below w.heap.size w (w1.setCell ⟨w.heap.size + 1, 1, none⟩ (.slice (some ⟨g1, 0, none⟩) (k + 1) cap1))) := HP.2; clear HP hown1 hgrow1 hnil1)
            all_goals go_wp2_with fail
            all_goals go_roundw
            all_goals first
              | exact ⟨k + 1, _, ps ++ [wr.heap.size], by omega, by go_num, HF.out⟩
              | (simp [intOf]; omega)
          | false =>
            have hrq : Hid (Req (wr.alloc (.cells (reqCells t 0 0).toArray 47)) wr.heap.size (ts.getD k ByteArray.empty) (modeOf (bs.getD k false)) 0) := by
              have := (MapKept.heap_alloc wr (.cells (reqCells t 0 0).toArray 47)).1
              rw [HY.out.1, HY.out.2]
              exact this
            clear HY
            go_wp2_with fail
            go_region_law (refine step_append_own rfl (.tmp 62) (.tmp 70) 41 rfl w.heap.size 32 i0 (.pointer none) 1 8 Try.underlying41 hi hz0 hz1 hz2 rfl (by decide) q k (ps.map ptr) (by simp [Act.eval]) ((HX2.out.2.2.1.own.alloc _).alloc _).drew ⟨wr.heap.size + 1, 0, none⟩ 1 1 [ptr wr.heap.size] (by simp [Act.eval]) rfl (cell_two _ _ _) (by simp [ptr, Value.oneCell']) (by unfold maxLen; omega) (by omega) (by have := HX2.out.2.2.2.size; simp; omega) ?_; intro v1 w1 hown1 hgrow1 hnil1; obtain ⟨g1, cap1, rfl⟩ := own_succ hown1; have HP := after_push (rb := w.heap.size + 1) HX2.out (by omega) hrq.out hown1 hgrow1; have cq1 := HP.1.queue; have fq1 := HP.1.frozen 1; have HF : Hid (SMap Try.prog 44 (w1.setCell ⟨w.heap.size + 1, 1, none⟩ (.slice (some ⟨g1, 0, none⟩) (k + 1) cap1)) w.heap.size f n ∧ ResB (w1.setCell ⟨w.heap.size + 1, 1, none⟩ (.slice (some ⟨g1, 0, none⟩) (k + 1) cap1)) (w.heap.size + 1) w.heap.size (.slice (some ⟨g1, 0, none⟩) (k + 1) cap1) ∧ Que (w1.setCell ⟨w.heap.size + 1, 1, none⟩ (.slice (some ⟨g1, 0, none⟩) (k + 1) cap1)) w.heap.size (.slice (some ⟨g1, 0, none⟩) (k + 1) cap1) (k + 1) (ps ++ [wr.heap.size]) ts bs (fun _ => 0) ∧ Below w.heap.size w (w1.setCell ⟨w.heap.size + 1, 1, none⟩ (.slice (some ⟨g1, 0, none⟩) (k + 1) cap1))) := HP.2; clear HP hown1 hgrow1 hnil1)
            all_goals go_wp2_with fail
            all_goals go_roundw
            all_goals first
              | exact ⟨k + 1, _, ps ++ [wr.heap.size], by omega, by go_num, HF.out⟩
              | (simp [intOf]; omega)
        · have e : k = len3 := by omega
          subst e
          have hdl : decide ((k : Int) < (k : Int)) = false := decide_eq_false (by omega)
          go_wp2_with fail
          go_ret
          exact ⟨q, ps, f, n, rfl, HX2.out.1, by omega, HX2.out.2.1, HX2.out.2.2.1, HX2.out.2.2.2⟩
end Go.Proofs.Qxb6003669a
