import Derived.Test.Qxb6606438aMath
namespace Go.Proofs.Qxb6606438a

/-- What a plain key's end hangs on. -/
theorem pk_take : ∀ (l : List Int) (n : Nat), pk l = some n → pk (l.take (n + 1)) = some n
  | [], n, h => by simp [pk] at h
  | [x], n, h => by
    rw [pk] at h
    split at h
    · rename_i hx; cases h; simp [pk, hx]
    · cases h
  | x :: y :: r, n, h => by
    rw [pk] at h
    split at h
    · rename_i hx; cases h; simp [pk, hx.1]
    · rename_i hx
      obtain ⟨m, hm, rfl⟩ := Option.map_eq_some_iff.1 h
      have ih := pk_take (y :: r) m hm
      cases m with
      | zero =>
        simp only [Nat.zero_add, List.take_succ_cons, List.take_zero] at ih ⊢
        rw [pk, if_neg (by intro k; exact hx k), ih]; rfl
      | succ m =>
        simp only [List.take_succ_cons] at ih ⊢
        rw [pk, if_neg hx, ih]; rfl

theorem pk_ext : ∀ (l : List Int) (n : Nat) (t : List Int), pk l = some n → l[n + 1]? = some 32 → pk (l.take (n + 2) ++ t) = some n
  | [], n, t, h, _ => by simp [pk] at h
  | [x], n, t, h, h2 => by
    rw [pk] at h
    split at h
    · cases h; simp at h2
    · cases h
  | x :: y :: r, n, t, h, h2 => by
    rw [pk] at h
    split at h
    · rename_i hx; cases h; simp [pk, hx.1, hx.2]
    · rename_i hx
      obtain ⟨m, hm, rfl⟩ := Option.map_eq_some_iff.1 h
      have ih := pk_ext (y :: r) m t hm (by simpa using h2)
      simp only [List.take_succ_cons, List.cons_append] at ih ⊢
      rw [pk, if_neg hx, ih]; rfl

/-- What a quoted text's end hangs on: the text, and that no further quote follows. -/
theorem cq_take (q : Int) : ∀ (l : List Int) (n : Nat) (t : List Int), cq q l = some n → (q = 39 → t.head? ≠ some 39) → cq q (l.take (n + 1) ++ t) = some n
  | [], n, t, h, _ => by simp [cq] at h
  | [x], n, t, h, ht => by
    rw [cq] at h
    split at h
    · cases h
    · rename_i h1
      split at h
      · cases h
      · rename_i h2
        cases h
        cases t with
        | nil => simp only [Nat.zero_add, List.take_succ_cons, List.take_nil, List.append_nil]; rw [cq, if_neg h1, if_neg h2]
        | cons y t =>
          simp only [Nat.zero_add, List.take_succ_cons, List.take_nil, List.cons_append, List.nil_append]
          rw [cq, if_neg h1, if_neg h2, if_neg (fun h3 => ht h3.1 (by simp [h3.2]))]
  | x :: y :: r, n, t, h, ht => by
    rw [cq] at h
    split at h
    · rename_i h1
      obtain ⟨m, hm, rfl⟩ := Option.map_eq_some_iff.1 h
      have ih := cq_take q r m t hm ht
      simp only [List.take_succ_cons, List.cons_append]
      rw [cq, if_pos h1, ih]; rfl
    · rename_i h1
      split at h
      · rename_i h2
        obtain ⟨m, hm, rfl⟩ := Option.map_eq_some_iff.1 h
        have ih := cq_take q (y :: r) m t hm ht
        simp only [List.take_succ_cons, List.cons_append] at ih ⊢
        rw [cq, if_neg h1, if_pos h2, ih]; rfl
      · rename_i h2
        split at h
        · rename_i h3
          obtain ⟨m, hm, rfl⟩ := Option.map_eq_some_iff.1 h
          have ih := cq_take q r m t hm ht
          simp only [List.take_succ_cons, List.cons_append]
          rw [cq, if_neg h1, if_neg h2, if_pos h3, ih]; rfl
        · rename_i h3
          cases h
          simp only [Nat.zero_add, List.take_succ_cons, List.take_zero, List.cons_append, List.nil_append]
          cases t with
          | nil => rw [cq, if_neg h1, if_neg h2]
          | cons z t => rw [cq, if_neg h1, if_neg h2, if_neg (fun h4 => ht h4.1 (by simp [h4.2]))]

theorem ke_some {zs : List Int} {e : Nat} (h : ke zs = e) : ke0 zs = some e ∧ e ≤ 1000 ∧ (e + 1 < zs.length → zs[e + 1]? = some 32) := by
  unfold ke at h
  cases h0 : ke0 zs with
  | none => rw [h0] at h; simp only at h; omega
  | some n =>
    rw [h0] at h
    simp only at h
    split at h
    · rename_i hc
      have : n = e := by omega
      subst this
      exact ⟨rfl, hc⟩
    · omega

theorem ke_of {zs : List Int} {e : Nat} (h : ke0 zs = some e) (h1 : e ≤ 1000) (h2 : e + 1 < zs.length → zs[e + 1]? = some 32) : ke zs = e := by
  unfold ke; rw [h]; exact if_pos ⟨h1, h2⟩

theorem take_split (r : List Int) (n k : Nat) (x : Int) (h : r[n]? = some x) : r.take (n + 1 + k) = r.take n ++ x :: (r.drop (n + 1)).take k := by
  have hl := (List.getElem?_eq_some_iff.1 h).1
  have hx := (List.getElem?_eq_some_iff.1 h).2
  rw [List.take_add, List.take_succ_eq_append_getElem hl, hx]
  simp

/-- The line cut just behind the colon. -/
theorem ke_cut {zs : List Int} {e : Nat} (h : ke zs = e) : ke (zs.take (e + 1)) = e := by
  obtain ⟨h0, h1, h2⟩ := ke_some h
  have hlt := ke0_lt zs e h0
  refine ke_of ?_ h1 (fun hl => by simp at hl; omega)
  cases zs with
  | nil => simp [ke0] at h0
  | cons x r =>
    simp only [List.take_succ_cons, ke0] at h0 ⊢
    by_cases hq : isQuote x = true
    · rw [if_pos hq] at h0 ⊢
      cases hcq : cq x r with
      | none => rw [hcq] at h0; cases h0
      | some n =>
        rw [hcq] at h0
        simp only at h0
        split at h0
        · rename_i h58
          cases h0
          have e1 : r.take (n + 2) = r.take (n + 1) ++ [58] := by have := take_split r (n + 1) 0 58 h58; simpa using this
          rw [e1, cq_take x r n [58] hcq (fun _ => by simp)]
          simp only
          rw [if_pos]
          rw [← e1, List.getElem?_take, if_pos (by omega), h58]
        · cases h0
    · rw [if_neg hq] at h0 ⊢
      have := pk_take _ _ h0
      simpa using this

/-- The line cut behind the space, with whatever behind. -/
theorem ke_more {zs : List Int} {e : Nat} (h : ke zs = e) (hl : e + 2 ≤ zs.length) (t : List Int) : ke (zs.take (e + 2) ++ t) = e := by
  obtain ⟨h0, h1, h2⟩ := ke_some h
  have h32 := h2 (by omega)
  have hsp : (zs.take (e + 2) ++ t)[e + 1]? = some 32 := by
    rw [List.getElem?_append_left (by simp; omega), List.getElem?_take, if_pos (by omega), h32]
  refine ke_of ?_ h1 (fun _ => hsp)
  cases zs with
  | nil => simp [ke0] at h0
  | cons x r =>
    simp only [List.take_succ_cons, List.cons_append, ke0] at h0 ⊢
    by_cases hq : isQuote x = true
    · rw [if_pos hq] at h0 ⊢
      cases hcq : cq x r with
      | none => rw [hcq] at h0; cases h0
      | some n =>
        rw [hcq] at h0
        simp only at h0
        split at h0
        · rename_i h58
          cases h0
          have h32' : r[n + 2]? = some 32 := by simpa using h32
          have e1 : r.take (n + 3) ++ t = r.take (n + 1) ++ (58 :: 32 :: t) := by
            have a1 := take_split r (n + 1) 1 58 h58
            have a2 : (r.drop (n + 2)).take 1 = [32] := by
              have hl2 := (List.getElem?_eq_some_iff.1 h32').1
              have hx := (List.getElem?_eq_some_iff.1 h32').2
              rw [List.drop_eq_getElem_cons hl2, hx]; simp
            rw [show n + 3 = n + 1 + 1 + 1 by omega, a1, a2]; simp
          rw [e1, cq_take x r n _ hcq (fun _ => by simp)]
          simp only
          rw [if_pos]
          have hn := cq_lt x r n hcq
          rw [List.getElem?_append_right (by simp; omega)]
          simp [Nat.min_eq_left (show n + 1 ≤ r.length by omega)]
        · cases h0
    · rw [if_neg hq] at h0 ⊢
      have := pk_ext _ _ t h0 h32
      simpa using this

theorem ke_lt {zs : List Int} {e : Nat} (h : ke zs = e) : e < zs.length := ke0_lt zs e (ke_some h).1
theorem ke_range (zs : List Int) : ke zs = -1 ∨ ∃ e : Nat, ke zs = e ∧ e < zs.length ∧ e ≤ 1000 := by
  cases h0 : ke0 zs with
  | none => left; unfold ke; rw [h0]
  | some n =>
    unfold ke; rw [h0]
    simp only
    split
    · rename_i hc; exact .inr ⟨n, rfl, ke0_lt zs n h0, hc.1⟩
    · exact .inl rfl
end Go.Proofs.Qxb6606438a
