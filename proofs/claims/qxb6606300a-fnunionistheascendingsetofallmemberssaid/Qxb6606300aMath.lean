namespace Go.Proofs.Qxb6606300a

/-- Strictly ascending. -/
abbrev Asc (l : List Int) : Prop := l.Pairwise (· < ·)

def mg : List Int → List Int → List Int
  | [], ys => ys
  | x :: xs, [] => x :: xs
  | x :: xs, y :: ys => if x < y then x :: mg xs (y :: ys) else if y < x then y :: mg (x :: xs) ys else x :: mg xs ys

def it : List Int → List Int → List Int
  | [], _ => []
  | _ :: _, [] => []
  | x :: xs, y :: ys => if x < y then it xs (y :: ys) else if y < x then it (x :: xs) ys else x :: it xs ys

def dw (x : Int) : List Int → List Int
  | [] => []
  | y :: ys => if y < x then dw x ys else y :: ys

def sb : List Int → List Int → List Int
  | [], _ => []
  | x :: xs, B => if (dw x B).head? = some x then sb xs (dw x B) else x :: sb xs (dw x B)

theorem mg_nil_right (xs : List Int) : mg xs [] = xs := by cases xs <;> rw [mg]
theorem mg_nil_left (xs : List Int) : mg [] xs = xs := by rw [mg]

theorem mem_mg : ∀ (A B : List Int) (z : Int), z ∈ mg A B ↔ z ∈ A ∨ z ∈ B
  | [], ys, z => by rw [mg]; simp
  | x :: xs, [], z => by rw [mg]; simp
  | x :: xs, y :: ys, z => by
    rw [mg]
    split
    · rw [List.mem_cons, mem_mg xs (y :: ys) z, List.mem_cons (a := z) (b := x), or_assoc]
    · split
      · rw [List.mem_cons, mem_mg (x :: xs) ys z, List.mem_cons (b := y), or_left_comm]
      · have e : x = y := by omega
        subst e
        rw [List.mem_cons, mem_mg xs ys z, List.mem_cons, List.mem_cons]
        constructor
        · rintro (h | h | h)
          · exact .inl (.inl h)
          · exact .inl (.inr h)
          · exact .inr (.inr h)
        · rintro ((h | h) | h | h)
          · exact .inl h
          · exact .inr (.inl h)
          · exact .inl h
          · exact .inr (.inr h)

theorem mg_it_length : ∀ (A B : List Int), (mg A B).length + (it A B).length = A.length + B.length
  | [], ys => by simp [mg, it]
  | x :: xs, [] => by simp [mg, it]
  | x :: xs, y :: ys => by
    rw [mg, it]
    split
    · have := mg_it_length xs (y :: ys); simp at this ⊢; omega
    · split
      · have := mg_it_length (x :: xs) ys; simp at this ⊢; omega
      · have := mg_it_length xs ys; simp at this ⊢; omega

theorem mg_length_le (A B : List Int) : (mg A B).length ≤ A.length + B.length := by
  have := mg_it_length A B; omega

theorem asc_mg : ∀ (A B : List Int), Asc A → Asc B → Asc (mg A B)
  | [], ys, _, hb => by rw [mg]; exact hb
  | x :: xs, [], ha, _ => by rw [mg]; exact ha
  | x :: xs, y :: ys, ha, hb => by
    have ha' := List.pairwise_cons.1 ha
    have hb' := List.pairwise_cons.1 hb
    rw [mg]
    split
    · rename_i h
      refine List.pairwise_cons.2 ⟨fun z hz => ?_, asc_mg xs (y :: ys) ha'.2 hb⟩
      rcases (mem_mg _ _ _).1 hz with h1 | h1
      · exact ha'.1 z h1
      · rcases List.mem_cons.1 h1 with rfl | h1
        · exact h
        · have := hb'.1 z h1; omega
    · split
      · rename_i h
        refine List.pairwise_cons.2 ⟨fun z hz => ?_, asc_mg (x :: xs) ys ha hb'.2⟩
        rcases (mem_mg _ _ _).1 hz with h1 | h1
        · rcases List.mem_cons.1 h1 with rfl | h1
          · exact h
          · have := ha'.1 z h1; omega
        · exact hb'.1 z h1
      · rename_i h1 h2
        refine List.pairwise_cons.2 ⟨fun z hz => ?_, asc_mg xs ys ha'.2 hb'.2⟩
        rcases (mem_mg _ _ _).1 hz with h3 | h3
        · exact ha'.1 z h3
        · have := hb'.1 z h3; omega

theorem dw_sub (x : Int) : ∀ B : List Int, (dw x B).Sublist B
  | [] => by rw [dw]; exact List.Sublist.refl _
  | y :: ys => by
    rw [dw]; split
    · exact (dw_sub x ys).cons y
    · exact List.Sublist.refl _

theorem mem_dw (x : Int) : ∀ (B : List Int), Asc B → ∀ z, x ≤ z → (z ∈ dw x B ↔ z ∈ B)
  | [], _, z, _ => by rw [dw]
  | y :: ys, hb, z, hz => by
    have hb' := List.pairwise_cons.1 hb
    rw [dw]; split
    · rw [mem_dw x ys hb'.2 z hz]; simp only [List.mem_cons]; constructor <;> intro h
      · exact .inr h
      · rcases h with h | h
        · omega
        · exact h
    · rfl

theorem head_dw (x : Int) : ∀ (B : List Int), Asc B → ((dw x B).head? = some x ↔ x ∈ B)
  | [], _ => by simp [dw]
  | y :: ys, hb => by
    have hb' := List.pairwise_cons.1 hb
    rw [dw]; split
    · rename_i h
      rw [head_dw x ys hb'.2]; simp only [List.mem_cons]; constructor <;> intro h
      · exact .inr h
      · rcases h with h | h
        · omega
        · exact h
    · rename_i h
      simp only [List.head?_cons, Option.some.injEq, List.mem_cons]
      constructor <;> intro h
      · exact .inl h.symm
      · rcases h with h | h
        · exact h.symm
        · have := hb'.1 x h; omega

theorem sb_sub : ∀ A B : List Int, (sb A B).Sublist A
  | [], _ => by rw [sb]; exact List.Sublist.refl _
  | x :: xs, B => by
    rw [sb]; split
    · exact (sb_sub xs _).cons x
    · exact (sb_sub xs _).cons_cons x

theorem asc_sb (A B : List Int) (h : Asc A) : Asc (sb A B) := h.sublist (sb_sub A B)

theorem mem_sb : ∀ (A B : List Int), Asc A → Asc B → ∀ z, z ∈ sb A B ↔ z ∈ A ∧ z ∉ B
  | [], B, _, _, z => by rw [sb]; simp
  | x :: xs, B, ha, hb, z => by
    have ha' := List.pairwise_cons.1 ha
    have hd : Asc (dw x B) := hb.sublist (dw_sub x B)
    have ih := mem_sb xs (dw x B) ha'.2 hd z
    rw [sb]
    split
    · rename_i h
      have hx := (head_dw x B hb).1 h
      rw [ih]
      constructor
      · rintro ⟨h1, h2⟩
        exact ⟨List.mem_cons_of_mem _ h1, fun h3 => h2 ((mem_dw x B hb z (by have := ha'.1 z h1; omega)).2 h3)⟩
      · rintro ⟨h1, h2⟩
        rcases List.mem_cons.1 h1 with rfl | h1
        · exact absurd hx h2
        · exact ⟨h1, fun h3 => h2 ((dw_sub x B).subset h3)⟩
    · rename_i h
      have hx : x ∉ B := fun h3 => h ((head_dw x B hb).2 h3)
      rw [List.mem_cons, ih]
      constructor
      · rintro (rfl | ⟨h1, h2⟩)
        · exact ⟨List.mem_cons_self, hx⟩
        · exact ⟨List.mem_cons_of_mem _ h1, fun h3 => h2 ((mem_dw x B hb z (by have := ha'.1 z h1; omega)).2 h3)⟩
      · rintro ⟨h1, h2⟩
        rcases List.mem_cons.1 h1 with rfl | h1
        · exact .inl rfl
        · exact .inr ⟨h1, fun h3 => h2 ((dw_sub x B).subset h3)⟩

/-- Two ascending lists of the same members are one. -/
theorem asc_ext : ∀ (A B : List Int), Asc A → Asc B → (∀ z, z ∈ A ↔ z ∈ B) → A = B
  | [], [], _, _, _ => rfl
  | [], y :: ys, _, _, h => absurd ((h y).2 List.mem_cons_self) (by simp)
  | x :: xs, [], _, _, h => absurd ((h x).1 List.mem_cons_self) (by simp)
  | x :: xs, y :: ys, ha, hb, h => by
    have ha' := List.pairwise_cons.1 ha
    have hb' := List.pairwise_cons.1 hb
    have hxy : x = y := by
      have h1 := (h x).1 List.mem_cons_self
      have h2 := (h y).2 List.mem_cons_self
      rcases List.mem_cons.1 h1 with h1 | h1
      · exact h1
      · rcases List.mem_cons.1 h2 with h2 | h2
        · exact h2.symm
        · have := hb'.1 x h1; have := ha'.1 y h2; omega
    subst hxy
    rw [asc_ext xs ys ha'.2 hb'.2 fun z => ?_]
    constructor
    · intro hz
      rcases List.mem_cons.1 ((h z).1 (List.mem_cons_of_mem _ hz)) with e | e
      · have := ha'.1 z hz; omega
      · exact e
    · intro hz
      rcases List.mem_cons.1 ((h z).2 (List.mem_cons_of_mem _ hz)) with e | e
      · have := hb'.1 z hz; omega
      · exact e

theorem sb_mg_left (A B : List Int) (ha : Asc A) (hb : Asc B) : sb (mg A B) A = sb B A := by
  refine asc_ext _ _ (asc_sb _ _ (asc_mg A B ha hb)) (asc_sb _ _ hb) fun z => ?_
  rw [mem_sb _ _ (asc_mg A B ha hb) ha, mem_sb _ _ hb ha, mem_mg]
  constructor
  · rintro ⟨h | h, k⟩
    · exact absurd h k
    · exact ⟨h, k⟩
  · rintro ⟨h, k⟩; exact ⟨.inr h, k⟩

theorem sb_mg_right (A B : List Int) (ha : Asc A) (hb : Asc B) : sb (mg A B) B = sb A B := by
  refine asc_ext _ _ (asc_sb _ _ (asc_mg A B ha hb)) (asc_sb _ _ ha) fun z => ?_
  rw [mem_sb _ _ (asc_mg A B ha hb) hb, mem_sb _ _ ha hb, mem_mg]
  constructor
  · rintro ⟨h | h, k⟩
    · exact ⟨h, k⟩
    · exact absurd h k
  · rintro ⟨h, k⟩; exact ⟨.inl h, k⟩

/-- The union of lists, as the program makes it: by halves. -/
def un : Nat → List (List Int) → List Int
  | 0, _ => []
  | _ + 1, [] => []
  | _ + 1, [l] => l
  | f + 1, ls => mg (un f (ls.take (ls.length / 2))) (un f (ls.drop (ls.length / 2)))

def total : List (List Int) → Nat
  | [] => 0
  | l :: ls => l.length + total ls

theorem total_append (a b : List (List Int)) : total (a ++ b) = total a + total b := by
  induction a with
  | nil => simp [total]
  | cons x xs ih => simp [total, ih]; omega

theorem total_split (ls : List (List Int)) (n : Nat) : total (ls.take n) + total (ls.drop n) = total ls := by
  rw [← total_append, List.take_append_drop]

theorem un_two (f : Nat) (ls : List (List Int)) (h : 2 ≤ ls.length) : un (f + 1) ls = mg (un f (ls.take (ls.length / 2))) (un f (ls.drop (ls.length / 2))) := by
  match ls, h with
  | _ :: _ :: _, _ => rfl

theorem un_length : ∀ (f : Nat) (ls : List (List Int)), (un f ls).length ≤ total ls
  | 0, _ => by simp [un]
  | f + 1, [] => by simp [un]
  | f + 1, [l] => by simp [un, total]
  | f + 1, a :: b :: r => by
    rw [un_two f _ (by simp)]
    have h1 := un_length f ((a :: b :: r).take ((a :: b :: r).length / 2))
    have h2 := un_length f ((a :: b :: r).drop ((a :: b :: r).length / 2))
    have h3 := total_split (a :: b :: r) ((a :: b :: r).length / 2)
    have h4 := mg_length_le (un f ((a :: b :: r).take ((a :: b :: r).length / 2))) (un f ((a :: b :: r).drop ((a :: b :: r).length / 2)))
    omega

theorem un_mem : ∀ (f : Nat) (ls : List (List Int)), ls.length ≤ f → ∀ z, z ∈ un f ls ↔ ∃ l ∈ ls, z ∈ l
  | 0, ls, h, z => by
    have : ls = [] := List.length_eq_zero_iff.1 (by omega)
    subst this; simp [un]
  | f + 1, [], _, z => by simp [un]
  | f + 1, [l], _, z => by simp [un]
  | f + 1, a :: b :: r, h, z => by
    have hl : (a :: b :: r).length = r.length + 2 := by simp
    generalize hls : a :: b :: r = ls at h hl ⊢
    rw [un_two f _ (by omega), mem_mg, un_mem f _ (by simp; omega), un_mem f _ (by simp; omega)]
    constructor
    · rintro (⟨l, h1, h2⟩ | ⟨l, h1, h2⟩)
      · exact ⟨l, List.mem_of_mem_take h1, h2⟩
      · exact ⟨l, List.mem_of_mem_drop h1, h2⟩
    · rintro ⟨l, h1, h2⟩
      rw [← List.take_append_drop (ls.length / 2) ls] at h1
      rcases List.mem_append.1 h1 with h1 | h1
      · exact .inl ⟨l, h1, h2⟩
      · exact .inr ⟨l, h1, h2⟩

theorem un_asc : ∀ (f : Nat) (ls : List (List Int)), (∀ l ∈ ls, Asc l) → Asc (un f ls)
  | 0, _, _ => by simp [un]
  | f + 1, [], _ => by simp [un]
  | f + 1, [l], h => by simpa [un] using h l (by simp)
  | f + 1, a :: b :: r, h => by
    rw [un_two f _ (by simp)]
    exact asc_mg _ _ (un_asc f _ fun l hl => h l (List.mem_of_mem_take hl)) (un_asc f _ fun l hl => h l (List.mem_of_mem_drop hl))

/-! ### The rounds -/
theorem drop_cons (l : List Int) (i : Nat) (h : i < l.length) : l.drop i = l[i]?.getD 0 :: l.drop (i + 1) := by
  rw [List.drop_eq_getElem_cons h]; simp [List.getElem?_eq_getElem h]

theorem mg_lt {A B xs : List Int} {i j : Nat} (hx : xs ++ mg (A.drop i) (B.drop j) = mg A B) (hi : i < A.length) (hj : j < B.length) (h : A[i]?.getD 0 < B[j]?.getD 0) : (xs ++ [A[i]?.getD 0]) ++ mg (A.drop (i + 1)) (B.drop j) = mg A B := by
  rw [← hx, drop_cons A i hi, drop_cons B j hj, mg, if_pos h]; simp
theorem mg_gt {A B xs : List Int} {i j : Nat} (hx : xs ++ mg (A.drop i) (B.drop j) = mg A B) (hi : i < A.length) (hj : j < B.length) (h : B[j]?.getD 0 < A[i]?.getD 0) : (xs ++ [B[j]?.getD 0]) ++ mg (A.drop i) (B.drop (j + 1)) = mg A B := by
  rw [← hx, drop_cons A i hi, drop_cons B j hj, mg, if_neg (by omega), if_pos h]; simp
theorem mg_eq {A B xs : List Int} {i j : Nat} (hx : xs ++ mg (A.drop i) (B.drop j) = mg A B) (hi : i < A.length) (hj : j < B.length) (h : A[i]?.getD 0 = B[j]?.getD 0) : (xs ++ [A[i]?.getD 0]) ++ mg (A.drop (i + 1)) (B.drop (j + 1)) = mg A B := by
  rw [← hx, drop_cons A i hi, drop_cons B j hj, mg, if_neg (by omega), if_neg (by omega)]; simp
theorem mg_end {A B xs : List Int} {i j : Nat} (hx : xs ++ mg (A.drop i) (B.drop j) = mg A B) (h : ¬ (i < A.length ∧ j < B.length)) : xs ++ A.drop i ++ B.drop j = mg A B := by
  rw [← hx]
  by_cases hi : i < A.length
  · rw [List.drop_eq_nil_of_le (show B.length ≤ j by omega), mg_nil_right]; simp
  · rw [List.drop_eq_nil_of_le (show A.length ≤ i by omega), mg_nil_left]; simp

theorem it_lt {A B xs : List Int} {i j : Nat} (hx : xs ++ it (A.drop i) (B.drop j) = it A B) (hi : i < A.length) (hj : j < B.length) (h : A[i]?.getD 0 < B[j]?.getD 0) : xs ++ it (A.drop (i + 1)) (B.drop j) = it A B := by
  rw [← hx, drop_cons A i hi, drop_cons B j hj, it, if_pos h]
theorem it_gt {A B xs : List Int} {i j : Nat} (hx : xs ++ it (A.drop i) (B.drop j) = it A B) (hi : i < A.length) (hj : j < B.length) (h : B[j]?.getD 0 < A[i]?.getD 0) : xs ++ it (A.drop i) (B.drop (j + 1)) = it A B := by
  rw [← hx, drop_cons A i hi, drop_cons B j hj, it, if_neg (by omega), if_pos h]
theorem it_eq {A B xs : List Int} {i j : Nat} (hx : xs ++ it (A.drop i) (B.drop j) = it A B) (hi : i < A.length) (hj : j < B.length) (h : A[i]?.getD 0 = B[j]?.getD 0) : (xs ++ [A[i]?.getD 0]) ++ it (A.drop (i + 1)) (B.drop (j + 1)) = it A B := by
  rw [← hx, drop_cons A i hi, drop_cons B j hj, it, if_neg (by omega), if_neg (by omega)]; simp
theorem it_end {A B xs : List Int} {i j : Nat} (hx : xs ++ it (A.drop i) (B.drop j) = it A B) (h : ¬ (i < A.length ∧ j < B.length)) : xs = it A B := by
  rw [← hx]
  by_cases hi : i < A.length
  · rw [List.drop_eq_nil_of_le (show B.length ≤ j by omega)]
    cases A.drop i <;> simp [it]
  · rw [List.drop_eq_nil_of_le (show A.length ≤ i by omega)]; simp [it]
theorem it_len : ∀ (A B : List Int), (it A B).length ≤ A.length
  | [], ys => by simp [it]
  | x :: xs, [] => by simp [it]
  | x :: xs, y :: ys => by
    rw [it]
    split
    · have := it_len xs (y :: ys); simp at this ⊢; omega
    · split
      · have := it_len (x :: xs) ys; simp at this ⊢; omega
      · have := it_len xs ys; simp at this ⊢; omega

/-- Subtract: the state between rounds of the outer loop. -/
theorem dw_lt {B : List Int} {j : Nat} {x : Int} (hj : j < B.length) (h : B[j]?.getD 0 < x) : dw x (B.drop (j + 1)) = dw x (B.drop j) := by
  rw [drop_cons B j hj, dw, if_pos h]
theorem dw_end {B : List Int} {j : Nat} {x : Int} (h : ¬ (j < B.length ∧ B[j]?.getD 0 < x)) : dw x (B.drop j) = B.drop j := by
  by_cases hj : j < B.length
  · rw [drop_cons B j hj, dw, if_neg (by intro k; exact h ⟨hj, k⟩)]
  · rw [List.drop_eq_nil_of_le (by omega)]; simp [dw]
theorem sb_keep {A B xs : List Int} {i j0 j : Nat} (hx : xs ++ sb (A.drop i) (B.drop j0) = sb A B) (hi : i < A.length) (hd : dw (A[i]?.getD 0) (B.drop j0) = B.drop j) (h : ¬ (j < B.length ∧ B[j]?.getD 0 = A[i]?.getD 0)) :
    (xs ++ [A[i]?.getD 0]) ++ sb (A.drop (i + 1)) (B.drop j) = sb A B := by
  rw [← hx, drop_cons A i hi, sb, hd, if_neg]
  · simp
  · by_cases hj : j < B.length
    · rw [drop_cons B j hj]; simp only [List.head?_cons, Option.some.injEq]; intro k; exact h ⟨hj, k⟩
    · rw [List.drop_eq_nil_of_le (by omega)]; simp
theorem sb_drop {A B xs : List Int} {i j0 j : Nat} (hx : xs ++ sb (A.drop i) (B.drop j0) = sb A B) (hi : i < A.length) (hd : dw (A[i]?.getD 0) (B.drop j0) = B.drop j) (hj : j < B.length) (h : B[j]?.getD 0 = A[i]?.getD 0) :
    xs ++ sb (A.drop (i + 1)) (B.drop j) = sb A B := by
  rw [← hx, drop_cons A i hi, sb, hd, drop_cons B j hj, if_pos (by simp [h])]

end Go.Proofs.Qxb6606300a
