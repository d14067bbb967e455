import Derived.Test.Qxb6003669aLead
namespace Go.Proofs.Qxb6003669a
open Go.RowKit Go.Maps Go.WideMaps

set_option maxRecDepth 100000 in
set_option maxHeartbeats 1600000 in
/-- leads behind an exclusive one. -/
theorem leads_any (base rb mb N n g cap : Nat) (f : ByteArray → Option Value) (ps : List Nat) (ts : List ByteArray) (bs : List Bool) (i e : Nat) (w : World) (h : All w base rb mb N n g cap f ps ts bs (fun j => (j : Int))) (hi : i < n) (he : e < i) (hn : n ≤ 65536)
    (hs : ∀ j, e < j → j < i → bs.getD j false = true) (hx : bs.getD e false = false) :
    Calls Try.prog 27 #[.pointer (some ⟨rb, 0, none⟩), .pointer (some ⟨ps.getD i 0, 0, none⟩)] w fun r w' => ∃ a m cap' us, r = .returned (.slice a m cap') ∧ m ≤ 1048576 ∧ SRow w' a m cap' us ∧ Below w.heap.size w w' ∧ ∀ x, x ∈ us ↔ Lead ts bs i e x := by
  have HK : Hid (Calls Try.prog 28 #[.pointer (some ⟨rb, 0, none⟩), .int .i64 (i : Int), .int .i64 (e : Int)] w fun r w' => ∃ a m cap' us, r = .returned (.slice a m cap') ∧ m ≤ 1048576 ∧ SRow w' a m cap' us ∧ Below w.heap.size w w' ∧ ∀ x, x ∈ us ↔ Lead ts bs i e x) := leadsAt_any base rb mb N n g cap f ps ts bs i e w h hi he hn
  have cq := h.res.queue
  have c7 := (h.que.req i hi).at7
  have hcp := h.cap
  have HC : Hid (∀ k, e ≤ k → k < i → ∃ p, w.cell? ⟨g, k, none⟩ = some (.pointer (some ⟨p, 0, none⟩)) ∧ w.cell? ⟨p, 2, none⟩ = some (.int .i64 (if k = e then 0 else 1))) := fun k h1 h2 => by
    refine ⟨ps.getD k 0, h.cell k (by omega), ?_⟩
    have := (h.que.req k (by omega)).mode
    by_cases e' : k = e
    · rw [if_pos e']; rw [e', hx] at this; rw [e']; exact this
    · rw [if_neg e']; rw [hs k (by omega) h2] at this; exact this
  obtain ⟨p, hp⟩ : ∃ p, p = ps.getD i 0 := ⟨_, rfl⟩
  rw [← hp] at c7 ⊢
  clear h hp hs hx
  go_enter Try.func27, Try.ntmps27
  go_wp2_with fail
  go_loop [5] (fun si => ∃ k : Nat, e ≤ k ∧ k < i ∧ si = .int .i64 (k : Int)) (fun si => (intOf si).toNat)
  case atStart => exact ⟨i - 1, by omega, by omega, by go_num⟩
  case round =>
    obtain ⟨k, hk1, hk2, rfl⟩ := hrel
    obtain ⟨p2, d1, d2⟩ := HC.out k hk1 hk2
    by_cases hke : k = e
    · subst hke
      rw [if_pos rfl] at d2
      go_wp2_with fail
      refine HK.out.mono ?_
      rintro r w1 ⟨a, m, cap', us, rfl, H⟩
      have HH : Hid (m ≤ 1048576 ∧ SRow w1 a m cap' us ∧ Below w.heap.size w w1 ∧ ∀ x, x ∈ us ↔ Lead ts bs i k x) := H
      clear H HK
      go_wp2_with fail
      go_ret
      exact ⟨a, m, cap', us, rfl, HH.out⟩
    · rw [if_neg hke] at d2
      go_wp2_with fail
      go_round
      case rel => exact ⟨k - 1, by omega, by omega, by go_num⟩
      case measure => simp [intOf]; omega

set_option maxHeartbeats 400000 in
/-- ZZLeads. -/
theorem zzLeads_any (base rb mb N n g cap : Nat) (f : ByteArray → Option Value) (ps : List Nat) (ts : List ByteArray) (bs : List Bool) (i e : Nat) (w : World) (h : All w base rb mb N n g cap f ps ts bs (fun j => (j : Int))) (hi : i < n) (he : e < i) (hn : n ≤ 65536)
    (hs : ∀ j, e < j → j < i → bs.getD j false = true) (hx : bs.getD e false = false) :
    Calls Try.prog 16 #[.pointer (some ⟨rb, 0, none⟩), .pointer (some ⟨ps.getD i 0, 0, none⟩)] w fun r w' => ∃ a m cap' us, r = .returned (.slice a m cap') ∧ m ≤ 1048576 ∧ SRow w' a m cap' us ∧ Below w.heap.size w w' ∧ ∀ x, x ∈ us ↔ Lead ts bs i e x := by
  have K := leads_any base rb mb N n g cap f ps ts bs i e w h hi he hn hs hx
  obtain ⟨p, hp⟩ : ∃ p, p = ps.getD i 0 := ⟨_, rfl⟩
  rw [← hp] at K ⊢
  have HK : Hid (Calls Try.prog 27 #[.pointer (some ⟨rb, 0, none⟩), .pointer (some ⟨p, 0, none⟩)] w fun r w' => ∃ a m cap' us, r = .returned (.slice a m cap') ∧ m ≤ 1048576 ∧ SRow w' a m cap' us ∧ Below w.heap.size w w' ∧ ∀ x, x ∈ us ↔ Lead ts bs i e x) := K
  clear h hp K hs hx
  go_enter Try.func16, Try.ntmps16
  go_wp2_with fail
  refine HK.out.mono ?_
  rintro r w1 ⟨a, m, cap', us, rfl, H⟩
  have HH : Hid (m ≤ 1048576 ∧ SRow w1 a m cap' us ∧ Below w.heap.size w w1 ∧ ∀ x, x ∈ us ↔ Lead ts bs i e x) := H
  clear H HK
  go_wp2_with fail
  go_ret
  exact ⟨a, m, cap', us, rfl, HH.out⟩
end Go.Proofs.Qxb6003669a
