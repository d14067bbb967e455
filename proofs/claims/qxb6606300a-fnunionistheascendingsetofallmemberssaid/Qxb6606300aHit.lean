import Derived.Test.Qxb6606300aLists
namespace Go.Proofs.Qxb6606300a

/-- Which members of u have been met: all of the first k lists, and the first m of list k. -/
def Hit (u : List Int) (zss : List (List Int)) (k m : Nat) (hs : List Bool) : Prop :=
  hs.length = u.length ∧ ∀ p, p < u.length → ((∃ t, t < k ∧ u[p]?.getD 0 ∈ zss.getD t []) ∨ u[p]?.getD 0 ∈ (zss.getD k []).take m) → hs[p]? = some true

theorem Hit.start (u : List Int) (zss : List (List Int)) : Hit u zss 0 0 (List.replicate u.length false) := by
  refine ⟨by simp, fun p _ h => ?_⟩
  rcases h with ⟨t, ht, _⟩ | h
  · omega
  · simp at h

theorem asc_inj {u : List Int} (h : Asc u) {p q : Nat} (hp : p < u.length) (hq : q < u.length) (e : u[p]?.getD 0 = u[q]?.getD 0) : p = q := by
  rcases Nat.lt_trichotomy p q with h1 | h1 | h1
  · have := steps_of_asc h p q h1 hq; omega
  · exact h1
  · have := steps_of_asc h q p h1 hp; omega

theorem Hit.step {u : List Int} {zss : List (List Int)} {k m p0 : Nat} {hs : List Bool} (h : Hit u zss k m hs) (hm : m < (zss.getD k []).length) (hp : p0 < u.length) (e : u[p0]?.getD 0 = (zss.getD k [])[m]?.getD 0) (ha : Asc u) :
    Hit u zss k (m + 1) (hs.set p0 true) := by
  refine ⟨by simpa using h.1, fun p hpu hh => ?_⟩
  by_cases hpp : p0 = p
  · subst hpp; simp [h.1, hp]
  · rw [List.getElem?_set_ne hpp]
    refine h.2 p hpu ?_
    rcases hh with hh | hh
    · exact .inl hh
    · right
      rw [List.take_succ_eq_append_getElem hm, List.mem_append] at hh
      rcases hh with hh | hh
      · exact hh
      · exfalso
        rw [List.getElem?_eq_getElem hm, Option.getD_some] at e
        have : u[p]?.getD 0 = u[p0]?.getD 0 := by rw [e]; simpa using hh
        exact hpp (asc_inj ha hpu hp this).symm

theorem Hit.next {u : List Int} {zss : List (List Int)} {k m : Nat} {hs : List Bool} (h : Hit u zss k m hs) (hm : (zss.getD k []).length ≤ m) : Hit u zss (k + 1) 0 hs := by
  refine ⟨h.1, fun p hp hh => h.2 p hp ?_⟩
  rcases hh with ⟨t, ht, hh⟩ | hh
  · by_cases e : t = k
    · subst e; right; rw [List.take_of_length_le hm]; exact hh
    · exact .inl ⟨t, by omega, hh⟩
  · simp at hh

theorem Hit.done {u : List Int} {zss : List (List Int)} {k m : Nat} {hs : List Bool} (h : Hit u zss k m hs) (hk : zss.length ≤ k) (hu : ∀ z ∈ u, ∃ l ∈ zss, z ∈ l) (p : Nat) (hp : p < u.length) : hs[p]? = some true := by
  refine h.2 p hp (.inl ?_)
  have hz : u[p]?.getD 0 ∈ u := by rw [List.getElem?_eq_getElem hp]; exact List.getElem_mem hp
  obtain ⟨l, hl, hzl⟩ := hu _ hz
  obtain ⟨t, ht, rfl⟩ := List.getElem_of_mem hl
  exact ⟨t, by omega, by simpa [List.getD, ht] using hzl⟩

theorem total_take_succ {zss : List (List Int)} {k : Nat} (hk : k < zss.length) : total (zss.take (k + 1)) = total (zss.take k) + (zss.getD k []).length := by
  rw [List.take_succ_eq_append_getElem hk, total_append]
  simp [total, List.getD, hk]

theorem total_take_le (zss : List (List Int)) (k : Nat) : total (zss.take k) ≤ total zss := by
  have := total_split zss k; omega

/-- The binary search's end. -/
theorem find_end {zs : List Int} {x : Int} {lo : Nat} (ha : Asc zs) (hx : x ∈ zs) (hl : ∀ m, m < lo → zs[m]?.getD 0 < x) (hh : ∀ m, lo ≤ m → m < zs.length → x ≤ zs[m]?.getD 0) : lo < zs.length ∧ zs[lo]?.getD 0 = x := by
  obtain ⟨p, hp, e⟩ := List.getElem_of_mem hx
  have e' : zs[p]?.getD 0 = x := by simp [hp, e]
  have h1 : lo ≤ p := by
    apply Nat.le_of_not_lt
    intro h
    have := hl p h
    omega
  rcases Nat.lt_or_ge lo p with h2 | h2
  · have := steps_of_asc ha lo p h2 hp
    have := hh lo (Nat.le_refl _) (by omega)
    omega
  · have : lo = p := by omega
    subst this
    exact ⟨hp, e'⟩

end Go.Proofs.Qxb6606300a
