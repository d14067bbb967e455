import Derived.Test.Qxb6606438aMath
namespace Go.Proofs.Qxb6606438a

def esc1 : List Int → List Int
  | [] => []
  | c :: r => if c = 39 then 39 :: 39 :: esc1 r else c :: esc1 r
def esc2 : List Int → List Int
  | [] => []
  | c :: r => if c = 34 ∨ c = 92 then 92 :: c :: esc2 r else c :: esc2 r

theorem esc1_append (a b : List Int) : esc1 (a ++ b) = esc1 a ++ esc1 b := by
  induction a with
  | nil => rfl
  | cons c a ih => simp only [List.cons_append, esc1, ih]; split <;> rfl
theorem esc2_append (a b : List Int) : esc2 (a ++ b) = esc2 a ++ esc2 b := by
  induction a with
  | nil => rfl
  | cons c a ih => simp only [List.cons_append, esc2, ih]; split <;> rfl
theorem esc1_len (a : List Int) : (esc1 a).length ≤ 2 * a.length := by
  induction a with
  | nil => simp [esc1]
  | cons c a ih => simp only [esc1]; split <;> simp <;> omega
theorem esc2_len (a : List Int) : (esc2 a).length ≤ 2 * a.length := by
  induction a with
  | nil => simp [esc2]
  | cons c a ih => simp only [esc2]; split <;> simp <;> omega
theorem take_snoc (s : List Int) (k : Nat) (h : k < s.length) : s.take (k + 1) = s.take k ++ [s[k]?.getD 0] := by
  rw [List.take_succ_eq_append_getElem h]; simp [List.getElem?_eq_getElem h]
theorem esc1_q {s : List Int} {k : Nat} (h : k < s.length) (hx : s[k]?.getD 0 = 39) : esc1 (s.take (k + 1)) = esc1 (s.take k) ++ [39] ++ [39] := by
  rw [take_snoc s k h, esc1_append, hx]; simp [esc1]
theorem esc1_o {s : List Int} {k : Nat} (h : k < s.length) (hx : s[k]?.getD 0 ≠ 39) : esc1 (s.take (k + 1)) = esc1 (s.take k) ++ [s[k]?.getD 0] := by
  rw [take_snoc s k h, esc1_append]; simp [esc1, hx]
theorem esc2_q {s : List Int} {k : Nat} (h : k < s.length) (hx : s[k]?.getD 0 = 34 ∨ s[k]?.getD 0 = 92) : esc2 (s.take (k + 1)) = esc2 (s.take k) ++ [92] ++ [s[k]?.getD 0] := by
  rw [take_snoc s k h, esc2_append]; simp [esc2, hx]
theorem esc2_o {s : List Int} {k : Nat} (h : k < s.length) (hx : ¬ (s[k]?.getD 0 = 34 ∨ s[k]?.getD 0 = 92)) : esc2 (s.take (k + 1)) = esc2 (s.take k) ++ [s[k]?.getD 0] := by
  rw [take_snoc s k h, esc2_append]; simp [esc2, hx]

theorem cq_esc1 : ∀ (s t : List Int), t.head? ≠ some 39 → cq 39 (esc1 s ++ 39 :: t) = some (esc1 s).length
  | [], t, ht => by
    simp only [esc1, List.nil_append, List.length_nil]
    cases t with
    | nil => simp [cq]
    | cons y t => rw [cq, if_neg (by omega), if_neg (by simp), if_neg (by intro h; exact ht (by simp [h.2]))]
  | c :: s, t, ht => by
    have ih := cq_esc1 s t ht
    simp only [esc1]
    split
    · simp only [List.cons_append]
      rw [cq, if_neg (by omega), if_neg (by simp), if_pos ⟨rfl, rfl⟩, ih]
      simp
    · rename_i hc
      simp only [List.cons_append]
      cases hrest : esc1 s ++ 39 :: t with
      | nil => simp at hrest
      | cons y r =>
        rw [cq, if_neg (by omega), if_pos hc, ← hrest, ih]
        simp

theorem cq_esc2 : ∀ (s t : List Int), cq 34 (esc2 s ++ 34 :: t) = some (esc2 s).length
  | [], t => by
    simp only [esc2, List.nil_append, List.length_nil]
    cases t with
    | nil => simp [cq]
    | cons y t => rw [cq, if_neg (by omega), if_neg (by simp), if_neg (by omega)]
  | c :: s, t => by
    have ih := cq_esc2 s t
    simp only [esc2]
    split
    · simp only [List.cons_append]
      rw [cq, if_pos ⟨rfl, rfl⟩, ih]
      simp
    · rename_i hc
      simp only [List.cons_append]
      cases hrest : esc2 s ++ 34 :: t with
      | nil => simp at hrest
      | cons y r =>
        rw [cq, if_neg (by omega), if_pos (by omega), ← hrest, ih]
        simp

theorem pk_key : ∀ (s t : List Int), (∀ c ∈ s, c ≠ 58) → (t = [] ∨ t.head? = some 32) → pk (s ++ 58 :: t) = some s.length
  | [], t, _, ht => by
    simp only [List.nil_append, List.length_nil]
    cases t with
    | nil => simp [pk]
    | cons y t =>
      have hy : y = 32 := by simpa using ht
      rw [pk, if_pos ⟨rfl, hy⟩]
  | c :: s, t, hs, ht => by
    have ih := pk_key s t (fun c hc => hs c (List.mem_cons_of_mem _ hc)) ht
    have hc := hs c List.mem_cons_self
    simp only [List.cons_append]
    cases hrest : s ++ 58 :: t with
    | nil => simp at hrest
    | cons y r =>
      rw [pk, if_neg (by omega), ← hrest, ih]
      simp

/-- How a key is written. -/
def written (style : Int) (s : List Int) : List Int := if style = 0 then s else if style = 1 then 39 :: (esc1 s ++ [39]) else 34 :: (esc2 s ++ [34])

theorem ke0_written {style : Int} {s t : List Int} (h0 : style = 0 → (∀ c ∈ s, c ≠ 58) ∧ ∀ c, s.head? = some c → isQuote c = false) (ht : t = [] ∨ t.head? = some 32) :
    ke0 (written style s ++ 58 :: t) = some (written style s).length := by
  unfold written
  by_cases hs0 : style = 0
  · rw [if_pos hs0]
    obtain ⟨h1, h2⟩ := h0 hs0
    have hpk := pk_key s t h1 ht
    cases s with
    | nil =>
      simp only [List.nil_append] at hpk ⊢
      simp only [ke0]
      rw [if_neg (by simp [isQuote])]; exact hpk
    | cons c s =>
      simp only [List.cons_append] at hpk ⊢
      simp only [ke0]
      rw [if_neg (by rw [h2 c rfl]; simp)]; exact hpk
  · rw [if_neg hs0]
    by_cases hs1 : style = 1
    · rw [if_pos hs1]
      have hc := cq_esc1 s (58 :: t) (by simp)
      have e : (39 :: (esc1 s ++ [39])) ++ 58 :: t = 39 :: (esc1 s ++ 39 :: 58 :: t) := by simp
      rw [e]
      simp only [ke0]
      rw [if_pos (by rfl), hc]
      simp
    · rw [if_neg hs1]
      have hc := cq_esc2 s (58 :: t)
      have e : (34 :: (esc2 s ++ [34])) ++ 58 :: t = 34 :: (esc2 s ++ 34 :: 58 :: t) := by simp
      rw [e]
      simp only [ke0]
      rw [if_pos (by rfl), hc]
      simp

theorem ke_written {style : Int} {s t : List Int} (h0 : style = 0 → (∀ c ∈ s, c ≠ 58) ∧ ∀ c, s.head? = some c → isQuote c = false) (ht : t = [] ∨ t.head? = some 32) :
    ke (written style s ++ 58 :: t) = if 1000 < (written style s).length then -1 else ((written style s).length : Int) := by
  unfold ke
  rw [ke0_written h0 ht]
  simp only
  have hsp : ∀ n, n = (written style s).length → (n + 1 < (written style s ++ 58 :: t).length → (written style s ++ 58 :: t)[n + 1]? = some 32) := by
    intro n hn hl
    subst hn
    rw [List.getElem?_append_right (by omega)]
    rcases ht with rfl | ht
    · simp at hl
    · cases t with
      | nil => simp at ht
      | cons y t => simp at ht ⊢; exact ht
  by_cases hb : 1000 < (written style s).length
  · rw [if_pos hb, if_neg (by omega)]
  · rw [if_neg hb, if_pos ⟨by omega, hsp _ rfl⟩]

theorem written_1 (s : List Int) : written 1 s = 39 :: (esc1 s ++ [39]) := by simp [written]
theorem written_2 (s : List Int) : written 2 s = 34 :: (esc2 s ++ [34]) := by simp [written]
end Go.Proofs.Qxb6606438a
