namespace Go.Proofs.Qxb6606438a

/-- Where a quoted text ends: the quote's index. -/
def cq (q : Int) : List Int → Option Nat
  | [] => none
  | [x] => if q = 34 ∧ x = 92 then none else if x ≠ q then none else some 0
  | x :: y :: r =>
    if q = 34 ∧ x = 92 then (cq q r).map (· + 2)
    else if x ≠ q then (cq q (y :: r)).map (· + 1)
    else if q = 39 ∧ y = 39 then (cq q r).map (· + 2)
    else some 0

/-- Where a plain key's colon lies. -/
def pk : List Int → Option Nat
  | [] => none
  | [x] => if x = 58 then some 0 else none
  | x :: y :: r => if x = 58 ∧ y = 32 then some 0 else (pk (y :: r)).map (· + 1)

def isQuote (x : Int) : Bool := x == 39 || x == 34

/-- The colon that ends the key, before the last look. -/
def ke0 : List Int → Option Nat
  | [] => none
  | x :: r =>
    if isQuote x then
      match cq x r with
      | none => none
      | some n => if r[n + 1]? = some 58 then some (n + 2) else none
    else pk (x :: r)

def toI : Option Nat → Int
  | none => -1
  | some n => n

/-- keyEnd. -/
def ke (zs : List Int) : Int :=
  match ke0 zs with
  | none => -1
  | some e => if e ≤ 1000 ∧ (e + 1 < zs.length → zs[e + 1]? = some 32) then (e : Int) else -1

theorem map_map_add (o : Option Nat) (a b : Nat) : (o.map (· + a)).map (· + b) = o.map (· + (a + b)) := by
  cases o <;> simp [Nat.add_assoc]

theorem drop_cons (l : List Int) (i : Nat) (h : i < l.length) : l.drop i = l[i]?.getD 0 :: l.drop (i + 1) := by
  rw [List.drop_eq_getElem_cons h]; simp [List.getElem?_eq_getElem h]

/-! ### closingQuote's rounds -/
theorem cq_nil (q : Int) : cq q [] = none := by rw [cq]
theorem cq_esc {l : List Int} {i : Nat} (hi : i < l.length) (h : l[i]?.getD 0 = 92) : cq 34 (l.drop i) = (cq 34 (l.drop (i + 2))).map (· + 2) := by
  rw [drop_cons l i hi]
  by_cases h2 : i + 1 < l.length
  · rw [drop_cons l (i + 1) h2, cq, if_pos ⟨rfl, h⟩]
  · rw [List.drop_eq_nil_of_le (show l.length ≤ i + 1 by omega), List.drop_eq_nil_of_le (show l.length ≤ i + 2 by omega)]
    simp [cq, h]

theorem cq_other {q : Int} {l : List Int} {i : Nat} (hi : i < l.length) (h1 : ¬ (q = 34 ∧ l[i]?.getD 0 = 92)) (h2 : l[i]?.getD 0 ≠ q) : cq q (l.drop i) = (cq q (l.drop (i + 1))).map (· + 1) := by
  rw [drop_cons l i hi]
  by_cases h3 : i + 1 < l.length
  · rw [drop_cons l (i + 1) h3, cq, if_neg h1, if_pos h2]
  · rw [List.drop_eq_nil_of_le (show l.length ≤ i + 1 by omega)]
    rw [cq_nil, cq, if_neg h1, if_pos h2]; rfl

theorem cq_dbl {l : List Int} {i : Nat} (hi : i + 1 < l.length) (h1 : l[i]?.getD 0 = 39) (h2 : l[i + 1]?.getD 0 = 39) : cq 39 (l.drop i) = (cq 39 (l.drop (i + 2))).map (· + 2) := by
  rw [drop_cons l i (by omega), drop_cons l (i + 1) hi, cq, if_neg (by omega), if_neg (by omega), if_pos ⟨rfl, h2⟩]

theorem cq_hit {q : Int} {l : List Int} {i : Nat} (hi : i < l.length) (h1 : ¬ (q = 34 ∧ l[i]?.getD 0 = 92)) (h2 : l[i]?.getD 0 = q) (h3 : ¬ (q = 39 ∧ i + 1 < l.length ∧ l[i + 1]?.getD 0 = 39)) : cq q (l.drop i) = some 0 := by
  rw [drop_cons l i hi]
  by_cases h4 : i + 1 < l.length
  · rw [drop_cons l (i + 1) h4, cq, if_neg h1, if_neg (by omega), if_neg (by intro h; exact h3 ⟨h.1, h4, h.2⟩)]
  · rw [List.drop_eq_nil_of_le (show l.length ≤ i + 1 by omega)]
    rw [cq, if_neg h1, if_neg (by omega)]

/-! ### the plain key's rounds -/
theorem pk_next {l : List Int} {i : Nat} (hi : i < l.length) (h : ¬ (l[i]?.getD 0 = 58 ∧ (i + 1 = l.length ∨ l[i + 1]?.getD 0 = 32))) : pk (l.drop i) = (pk (l.drop (i + 1))).map (· + 1) := by
  rw [drop_cons l i hi]
  by_cases h3 : i + 1 < l.length
  · rw [drop_cons l (i + 1) h3, pk, if_neg (by intro k; exact h ⟨k.1, .inr k.2⟩)]
  · rw [List.drop_eq_nil_of_le (show l.length ≤ i + 1 by omega)]
    have : ¬ l[i]?.getD 0 = 58 := fun k => h ⟨k, .inl (by omega)⟩
    simp [pk, this]
theorem pk_hit {l : List Int} {i : Nat} (hi : i < l.length) (h : l[i]?.getD 0 = 58) (h2 : i + 1 = l.length ∨ l[i + 1]?.getD 0 = 32) : pk (l.drop i) = some 0 := by
  rw [drop_cons l i hi]
  by_cases h3 : i + 1 < l.length
  · rw [drop_cons l (i + 1) h3, pk, if_pos ⟨h, by rcases h2 with h2 | h2 <;> omega⟩]
  · rw [List.drop_eq_nil_of_le (show l.length ≤ i + 1 by omega)]
    simp [pk, h]

theorem cq_lt (q : Int) : ∀ (l : List Int) (n : Nat), cq q l = some n → n < l.length
  | [], n, h => by simp [cq] at h
  | [x], n, h => by
    rw [cq] at h
    split at h
    · cases h
    · split at h
      · cases h
      · cases h; simp
  | x :: y :: r, n, h => by
    rw [cq] at h
    split at h
    · obtain ⟨m, hm, rfl⟩ := Option.map_eq_some_iff.1 h
      have := cq_lt q r m hm; simp; omega
    · split at h
      · obtain ⟨m, hm, rfl⟩ := Option.map_eq_some_iff.1 h
        have := cq_lt q (y :: r) m hm; simp at this ⊢; omega
      · split at h
        · obtain ⟨m, hm, rfl⟩ := Option.map_eq_some_iff.1 h
          have := cq_lt q r m hm; simp; omega
        · cases h; simp

theorem pk_lt : ∀ (l : List Int) (n : Nat), pk l = some n → n < l.length
  | [], n, h => by simp [pk] at h
  | [x], n, h => by
    rw [pk] at h
    split at h
    · cases h; simp
    · cases h
  | x :: y :: r, n, h => by
    rw [pk] at h
    split at h
    · cases h; simp
    · obtain ⟨m, hm, rfl⟩ := Option.map_eq_some_iff.1 h
      have := pk_lt (y :: r) m hm; simp at this ⊢; omega

theorem ke0_lt (zs : List Int) (n : Nat) (h : ke0 zs = some n) : n < zs.length := by
  cases zs with
  | nil => simp [ke0] at h
  | cons x r =>
    simp only [ke0] at h
    split at h
    · split at h
      · cases h
      · split at h
        · rename_i n' _ hh
          cases h
          have := (List.getElem?_eq_some_iff.1 hh).1
          simp; omega
        · cases h
    · exact pk_lt _ _ h
end Go.Proofs.Qxb6606438a
