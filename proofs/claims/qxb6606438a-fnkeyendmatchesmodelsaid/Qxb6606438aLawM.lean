import Derived.Test.Qxb6606438aMath
namespace Go.Proofs.Qxb6606438a

/-- How many backslashes lie just ahead of j, not counting index 0. -/
def runAt (zs : List Int) : Nat → Nat
  | 0 => 0
  | k + 1 => if 1 ≤ k ∧ zs[k]?.getD 0 = 92 then runAt zs k + 1 else 0

theorem runAt_one (zs : List Int) : runAt zs 1 = 0 := by simp [runAt]
theorem runAt_yes {zs : List Int} {k : Nat} (h1 : 1 ≤ k) (h : zs[k]?.getD 0 = 92) : runAt zs (k + 1) = runAt zs k + 1 := by rw [runAt, if_pos ⟨h1, h⟩]
theorem runAt_no {zs : List Int} {k : Nat} (h : zs[k]?.getD 0 ≠ 92) : runAt zs (k + 1) = 0 := by rw [runAt, if_neg (fun k => h k.2)]

/-- What doubleQuoteClose knows at j. -/
def DqAt (zs : List Int) (j : Nat) : Prop := (cq 34 (zs.drop 1)).map (· + 1) = (cq 34 (zs.drop (j + runAt zs j % 2))).map (· + (j + runAt zs j % 2))

theorem dq_start (zs : List Int) : DqAt zs 1 := by unfold DqAt; rw [runAt_one]

theorem dq_next {zs : List Int} {j : Nat} (hj : j < zs.length) (h1 : 1 ≤ j) (h : DqAt zs j) (hn : zs[j]?.getD 0 ≠ 34 ∨ runAt zs j % 2 = 1) : DqAt zs (j + 1) := by
  unfold DqAt at h ⊢
  rw [h]
  by_cases h92 : zs[j]?.getD 0 = 92
  · rw [runAt_yes h1 h92]
    by_cases he : runAt zs j % 2 = 0
    · rw [he, show (runAt zs j + 1) % 2 = 1 by omega, Nat.add_zero, cq_esc hj h92, map_map_add]
      rw [show j + 1 + 1 = j + 2 from rfl, Nat.add_comm 2 j]
    · rw [show runAt zs j % 2 = 1 by omega, show (runAt zs j + 1) % 2 = 0 by omega]
  · rw [runAt_no h92]
    by_cases he : runAt zs j % 2 = 0
    · rw [he, Nat.add_zero, cq_other hj (fun k => h92 k.2) (by omega), map_map_add]
      rw [Nat.add_comm 1 j]
    · rw [show runAt zs j % 2 = 1 by omega]

theorem dq_hit {zs : List Int} {j : Nat} (hj : j < zs.length) (h : DqAt zs j) (h34 : zs[j]?.getD 0 = 34) (he : runAt zs j % 2 = 0) : (cq 34 (zs.drop 1)).map (· + 1) = some j := by
  rw [h, he, Nat.add_zero, cq_hit hj (by omega) h34 (by omega)]
  simp

theorem dq_end {zs : List Int} {j : Nat} (hj : zs.length ≤ j) (h : DqAt zs j) : (cq 34 (zs.drop 1)).map (· + 1) = none := by
  rw [h, List.drop_eq_nil_of_le (by omega), cq_nil]; rfl

/-- A run of single quotes. -/
theorem sq_even {zs : List Int} : ∀ (m j : Nat), j + 2 * m ≤ zs.length → (∀ i, j ≤ i → i < j + 2 * m → zs[i]?.getD 0 = 39) → cq 39 (zs.drop j) = (cq 39 (zs.drop (j + 2 * m))).map (· + 2 * m)
  | 0, j, _, _ => by simp
  | m + 1, j, hl, h => by
    rw [cq_dbl (by omega) (h j (by omega) (by omega)) (h (j + 1) (by omega) (by omega)), sq_even m (j + 2) (by omega) (fun i h1 h2 => h i (by omega) (by omega)), map_map_add]
    rw [show j + 2 + 2 * m = j + 2 * (m + 1) by omega, show 2 * m + 2 = 2 * (m + 1) by omega]

theorem sq_skip {zs : List Int} {j L : Nat} (hl : j + L ≤ zs.length) (h : ∀ i, j ≤ i → i < j + L → zs[i]?.getD 0 = 39) (hp : L % 2 = 0) (hT : (cq 39 (zs.drop 1)).map (· + 1) = (cq 39 (zs.drop j)).map (· + j)) :
    (cq 39 (zs.drop 1)).map (· + 1) = (cq 39 (zs.drop (j + L))).map (· + (j + L)) := by
  rw [hT]
  obtain ⟨m, rfl⟩ : ∃ m, L = 2 * m := ⟨L / 2, by omega⟩
  rw [sq_even m j hl h, map_map_add, Nat.add_comm (2 * m) j]

theorem sq_hit {zs : List Int} {j L : Nat} (hl : j + L ≤ zs.length) (h : ∀ i, j ≤ i → i < j + L → zs[i]?.getD 0 = 39) (hp : L % 2 = 1) (he : j + L < zs.length → zs[j + L]?.getD 0 ≠ 39) (hT : (cq 39 (zs.drop 1)).map (· + 1) = (cq 39 (zs.drop j)).map (· + j)) :
    (cq 39 (zs.drop 1)).map (· + 1) = some (j + L - 1) := by
  rw [hT]
  obtain ⟨m, rfl⟩ : ∃ m, L = 2 * m + 1 := ⟨L / 2, by omega⟩
  rw [sq_even m j (by omega) (fun i h1 h2 => h i h1 (by omega)), cq_hit (i := j + 2 * m) (by omega) (by omega) (h _ (by omega) (by omega)) (fun k => he k.2.1 k.2.2)]
  simp; omega

/-- The first colon that a space follows. -/
def ics : List Int → Option Nat
  | [] => none
  | [_] => none
  | x :: y :: r => if x = 58 ∧ y = 32 then some 0 else (ics (y :: r)).map (· + 1)

theorem ics_next {l : List Int} {i : Nat} (hi : i + 1 < l.length) (h : ¬ (l[i]?.getD 0 = 58 ∧ l[i + 1]?.getD 0 = 32)) : ics (l.drop i) = (ics (l.drop (i + 1))).map (· + 1) := by
  rw [drop_cons l i (by omega), drop_cons l (i + 1) hi, ics, if_neg h]
theorem ics_hit {l : List Int} {i : Nat} (hi : i + 1 < l.length) (h : l[i]?.getD 0 = 58) (h2 : l[i + 1]?.getD 0 = 32) : ics (l.drop i) = some 0 := by
  rw [drop_cons l i (by omega), drop_cons l (i + 1) hi, ics, if_pos ⟨h, h2⟩]
theorem ics_end {l : List Int} {i : Nat} (hi : l.length ≤ i + 1) : ics (l.drop i) = none := by
  by_cases h : i < l.length
  · rw [drop_cons l i h, List.drop_eq_nil_of_le hi, ics]
  · rw [List.drop_eq_nil_of_le (by omega), ics]

theorem ics_some : ∀ (l : List Int) (n : Nat), ics l = some n → n + 1 < l.length ∧ l[n + 1]?.getD 0 = 32 ∧ pk l = some n
  | [], n, h => by simp [ics] at h
  | [x], n, h => by simp [ics] at h
  | x :: y :: r, n, h => by
    rw [ics] at h
    split at h
    · rename_i hc
      cases h
      refine ⟨by simp, by simp [hc.2], by rw [pk, if_pos hc]⟩
    · rename_i hc
      obtain ⟨m, hm, rfl⟩ := Option.map_eq_some_iff.1 h
      obtain ⟨h1, h2, h3⟩ := ics_some (y :: r) m hm
      refine ⟨by simp at h1 ⊢; omega, by simpa using h2, by rw [pk, if_neg hc, h3]; rfl⟩

theorem ics_none : ∀ (l : List Int), ics l = none → 0 < l.length → (l[l.length - 1]?.getD 0 = 58 → pk l = some (l.length - 1)) ∧ (l[l.length - 1]?.getD 0 ≠ 58 → pk l = none)
  | [], h, hl => by simp at hl
  | [x], h, hl => by
    constructor
    · intro hx; simp at hx; simp [pk, hx]
    · intro hx; simp at hx; simp [pk, hx]
  | x :: y :: r, h, hl => by
    rw [ics] at h
    split at h
    · cases h
    · rename_i hc
      have hm : ics (y :: r) = none := by simpa using h
      obtain ⟨h1, h2⟩ := ics_none (y :: r) hm (by simp)
      have e : (x :: y :: r)[(x :: y :: r).length - 1]?.getD 0 = (y :: r)[(y :: r).length - 1]?.getD 0 := by simp
      rw [e]
      constructor
      · intro hx; rw [pk, if_neg hc, h1 hx]; simp
      · intro hx; rw [pk, if_neg hc, h2 hx]; rfl
end Go.Proofs.Qxb6606438a
