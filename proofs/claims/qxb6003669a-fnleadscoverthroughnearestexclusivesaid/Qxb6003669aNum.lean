import Derived.Test.Qxb6003669aNew
namespace Go.Proofs.Qxb6003669a
open Go.RowKit Go.Maps Go.WideMaps

/-- All of the resource. -/
structure All (w : World) (base rb mb N n g cap : Nat) (f : ByteArray → Option Value) (ps : List Nat) (ts : List ByteArray) (bs : List Bool) (kf : Nat → Int) : Prop where
  map : SMap Try.prog 44 w mb f N
  res : ResB w rb mb (.slice (some ⟨g, 0, none⟩) n cap)
  que : Que w base (.slice (some ⟨g, 0, none⟩) n cap) n ps ts bs kf
  lrb : base ≤ rb
  lmb : base ≤ mb

theorem All.cell {w : World} {base rb mb N n g cap : Nat} {f : ByteArray → Option Value} {ps : List Nat} {ts : List ByteArray} {bs : List Bool} {kf : Nat → Int} (h : All w base rb mb N n g cap f ps ts bs kf) (j : Nat) (hj : j < n) :
    w.cell? ⟨g, j, none⟩ = some (ptr (ps.getD j 0)) := by
  have hl : ps.length = n := by have := h.que.own.1; simpa using this
  rw [h.que.own.cellAt j (by omega)]
  simp [List.getD, List.getElem?_eq_getElem (show j < ps.length by omega)]

theorem All.cap {w : World} {base rb mb N n g cap : Nat} {f : ByteArray → Option Value} {ps : List Nat} {ts : List ByteArray} {bs : List Bool} {kf : Nat → Int} (h : All w base rb mb N n g cap f ps ts bs kf) : n ≤ cap := by
  rcases h.que.own.2 with ⟨h', _⟩ | ⟨g', cap', cur, h', _, _, hn, _⟩
  · simp at h'
  · simp only [Value.slice.injEq] at h'
    obtain ⟨_, _, rfl⟩ := h'
    exact hn

theorem All.below {w w' : World} {base rb mb N n g cap : Nat} {f : ByteArray → Option Value} {ps : List Nat} {ts : List ByteArray} {bs : List Bool} {kf : Nat → Int} (h : All w base rb mb N n g cap f ps ts bs kf) (hb : Below w.heap.size w w') : All w' base rb mb N n g cap f ps ts bs kf := by
  have hg : w.grownBy w' none := ⟨hb.os, hb.tape, hb.output, hb.size, fun k hk _ => hb.block k hk⟩
  exact ⟨h.map.kept hg (by simp), h.res.kept hg (by simp), h.que.kept hg (.inl rfl) (fun _ _ => by simp), h.lrb, h.lmb⟩

theorem All.drew {w : World} {base rb mb N n g cap : Nat} {f : ByteArray → Option Value} {ps : List Nat} {ts : List ByteArray} {bs : List Bool} {kf : Nat → Int} (h : All w base rb mb N n g cap f ps ts bs kf) : All w.drew base rb mb N n g cap f ps ts bs kf := h.below (Below.refl _ _).drew

/-- One index is given. -/
theorem All.setAt {w : World} {base rb mb N n g cap : Nat} {f : ByteArray → Option Value} {ps : List Nat} {ts : List ByteArray} {bs : List Bool} {kf : Nat → Int} (h : All w base rb mb N n g cap f ps ts bs kf) (k : Nat) (hk : k < n) (x : Int) :
    All (w.setCell ⟨ps.getD k 0, 7, none⟩ (.int .i64 x)) base rb mb N n g cap f ps ts bs (fun j => if j = k then x else kf j) := by
  have gs := grown_setCell w ⟨ps.getD k 0, 7, none⟩ (.int .i64 x)
  have hr := h.que.req k hk
  refine ⟨h.map.kept gs (fun e => h.map.ne_req hr (Option.some.inj e)), h.res.kept gs (fun e => hr.ne_res h.res (Option.some.inj e).symm), ⟨h.que.own.kept gs (.inr (hr.ne_own h.que.own).symm), fun j hj => ?_, h.que.low, h.que.inj⟩, h.lrb, h.lmb⟩
  by_cases e : j = k
  · subst e
    simp only [if_true]
    exact hr.set x
  · simp only [if_neg e]
    exact (h.que.req j hj).kept gs (fun e' => e (h.que.inj j k hj hk (Option.some.inj e')))

set_option maxHeartbeats 1600000 in
/-- number. -/
theorem number_any (base rb mb N n g cap : Nat) (f : ByteArray → Option Value) (ps : List Nat) (ts : List ByteArray) (bs : List Bool) (w : World) (h : All w base rb mb N n g cap f ps ts bs (fun _ => 0)) (hn : n ≤ 65536) :
    Calls Try.prog 25 #[.pointer (some ⟨rb, 0, none⟩), .int .i64 0] w fun e w' => e = .returned (.tuple #[]) ∧ All w' base rb mb N n g cap f ps ts bs (fun j => (j : Int)) ∧ Below base w w' := by
  have H0 : Hid (All w base rb mb N n g cap f ps ts bs (fun _ => 0)) := h
  clear h
  go_enter Try.func25, Try.ntmps25
  go_wp2_with fail
  go_loopw [4] (fun si wr => ∃ (k : Nat), k ≤ n ∧ si = .int .i64 k ∧ Hid (All wr base rb mb N n g cap f ps ts bs (fun j => if j < k then (j : Int) else 0) ∧ Below base w wr)) (fun si _ => n - (intOf si).toNat)
  case atStart => exact ⟨0, Nat.zero_le _, rfl, by simpa using H0.out, Below.refl _ _⟩
  case round =>
    obtain ⟨k, hk, rfl, HX⟩ := hrel
    have cq := HX.out.1.res.queue
    by_cases hlt : k < n
    · have cp := HX.out.1.cell k hlt
      have hr := HX.out.1.que.req k hlt
      obtain ⟨p, hp⟩ : ∃ p, p = ps.getD k 0 := ⟨_, rfl⟩
      rw [← hp] at cp hr
      have c7 := hr.at7
      have f7 := hr.frozen 7
      have HS : Hid (All (wr.setCell ⟨p, 7, none⟩ (.int .i64 k)) base rb mb N n g cap f ps ts bs (fun j => if j < k + 1 then (j : Int) else 0) ∧ Below base w (wr.setCell ⟨p, 7, none⟩ (.int .i64 k))) := by
        refine ⟨?_, HX.out.2.setCell (by rw [hp]; exact HX.out.1.que.low k hlt) _⟩
        have := HX.out.1.setAt k hlt (k : Int)
        rw [← hp] at this
        have e : (fun j => if j = k then (k : Int) else if j < k then (j : Int) else 0) = (fun j => if j < k + 1 then (j : Int) else 0) := by
          funext j
          by_cases e : j = k
          · subst e; simp
          · by_cases e2 : j < k
            · rw [if_neg e, if_pos e2, if_pos (by omega)]
            · rw [if_neg e, if_neg e2, if_neg (by omega)]
        rw [e] at this
        exact this
      simp only [ptr] at cp
      clear hp hr
      go_wp2_with fail
      go_roundw
      case rel => exact ⟨k + 1, by omega, by go_num, HS.out⟩
      case measure => simp [intOf]; omega
    · have e : k = n := by omega
      subst e
      go_wp2_with fail
      go_end0
      refine ⟨rfl, ?_, HX.out.2⟩
      have := HX.out.1
      exact ⟨this.map, this.res, ⟨this.que.own, fun j hj => by have := this.que.req j hj; simpa [hj] using this, this.que.low, this.que.inj⟩, this.lrb, this.lmb⟩

set_option maxHeartbeats 400000 in
/-- ZZNumber. -/
theorem zzNumber_any (base rb mb N n g cap : Nat) (f : ByteArray → Option Value) (ps : List Nat) (ts : List ByteArray) (bs : List Bool) (w : World) (h : All w base rb mb N n g cap f ps ts bs (fun _ => 0)) (hn : n ≤ 65536) :
    Calls Try.prog 13 #[.pointer (some ⟨rb, 0, none⟩), .int .i64 0] w fun e w' => e = .returned (.tuple #[]) ∧ All w' base rb mb N n g cap f ps ts bs (fun j => (j : Int)) ∧ Below base w w' := by
  have K := number_any base rb mb N n g cap f ps ts bs w h hn
  clear h
  go_enter Try.func13, Try.ntmps13
  go_wp2_with fail
  refine K.mono ?_
  rintro e w1 ⟨rfl, H⟩
  have HH : Hid (All w1 base rb mb N n g cap f ps ts bs (fun j => (j : Int)) ∧ Below base w w1) := H
  clear H K
  go_wp2_with fail
  go_end0
  exact ⟨rfl, HH.out⟩

set_option maxHeartbeats 400000 in
/-- ZZQueueAt. -/
theorem queueAt_any (base rb mb N n g cap : Nat) (f : ByteArray → Option Value) (ps : List Nat) (ts : List ByteArray) (bs : List Bool) (kf : Nat → Int) (i : Nat) (w : World) (h : All w base rb mb N n g cap f ps ts bs kf) (hi : i < n) :
    Calls Try.prog 14 #[.pointer (some ⟨rb, 0, none⟩), .int .i64 (i : Int)] w fun e w' => e = .returned (.pointer (some ⟨ps.getD i 0, 0, none⟩)) ∧ w' = w := by
  have cq := h.res.queue
  have cp := h.cell i hi
  obtain ⟨p, hp⟩ : ∃ p, p = ps.getD i 0 := ⟨_, rfl⟩
  rw [← hp] at cp ⊢
  simp only [ptr] at cp
  clear h hp
  go_enter Try.func14, Try.ntmps14
  go_wp2_with fail
  go_ret
  exact ⟨rfl, rfl⟩
end Go.Proofs.Qxb6003669a
