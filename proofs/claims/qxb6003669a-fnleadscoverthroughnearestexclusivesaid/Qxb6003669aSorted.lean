import Derived.Test.Qxb6003669aShelf
import Derived.Test.Qxb6003669aView
import Derived.Sort.OwnSorted
import Derived.Sort.Grow
import Derived.Lib.OwnBridge
import Derived.Lib.SlicesCompact
namespace Go.Proofs.Qxb6003669a
open Go.RowKit Go.Shelf Go.Sort

theorem mem_upTo {α : Type} [Inhabited α] [DecidableEq α] (d : Array α) : ∀ m : Nat, ∀ j, j < m → d[j]! ∈ Lib.compactUpTo d m
  | 0, j, h => absurd h (Nat.not_lt_zero _)
  | m + 1, j, h => by
    rw [Lib.compactUpTo_succ]
    by_cases hj : j < m
    · exact List.mem_append_left _ (mem_upTo d m j hj)
    · have e : j = m := by omega
      subst e
      by_cases hk : Lib.keeps d j = true
      · exact List.mem_append_right _ (by simp [hk])
      · have h0 : j ≠ 0 := fun e => hk (by subst e; simp [Lib.keeps])
        have he : d[j]! = d[j - 1]! := by
          by_cases hh : d[j]! = d[j - 1]!
          · exact hh
          · exact absurd (Lib.keeps_pos hh) hk
        rw [he]
        exact List.mem_append_left _ (mem_upTo d j (j - 1) (by omega))

theorem mem_compact_iff {α : Type} [Inhabited α] [DecidableEq α] {zs : List α} {x : α} : x ∈ Lib.compact zs ↔ x ∈ zs := by
  constructor
  · intro h
    unfold Lib.compact Lib.compactUpTo at h
    obtain ⟨i, hi, rfl⟩ := List.mem_map.1 h
    have hi' : i < zs.length := List.mem_range.1 (List.mem_filter.1 hi).1
    simp [getElem!_pos, hi']
  · intro h
    obtain ⟨i, hi, rfl⟩ := List.getElem_of_mem h
    have := mem_upTo zs.toArray zs.length i hi
    unfold Lib.compact
    simpa [getElem!_pos, hi] using this

/-- The bytes of a string, and back. -/
def ofL (l : List UInt8) : ByteArray := ⟨l.toArray⟩
theorem ofL_data (s : ByteArray) : ofL s.data.toList = s := by cases s; simp [ofL]
theorem map_ofL (ls : List (List UInt8)) : (ls.map ofL).map Value.string = ls.map encStr := by simp [ofL, Function.comp_def]
theorem mem_ofL {ls : List (List UInt8)} {ss : List ByteArray} (h : ∀ x, x ∈ ls ↔ x ∈ ss.map (·.data.toList)) (x : ByteArray) : x ∈ ls.map ofL ↔ x ∈ ss := by
  constructor
  · intro hx
    obtain ⟨l, hl, rfl⟩ := List.mem_map.1 hx
    obtain ⟨s, hs, rfl⟩ := List.mem_map.1 ((h l).1 hl)
    rw [ofL_data]; exact hs
  · intro hx
    exact List.mem_map.2 ⟨x.data.toList, (h _).2 (List.mem_map.2 ⟨x, hx, rfl⟩), ofL_data x⟩

/-- slices.Sort on a slice of strings that the call owns: the same members. -/
theorem sort_any (base : Nat) (v : Value) (n : Nat) (ss : List ByteArray) (w : World) (h : w.ownsRow base 9 1 v n (ss.map Value.string)) (hn : n ≤ 1048576) :
    Calls Try.prog 30 #[v] w fun e w' => e = .returned (.tuple #[]) ∧ ∃ ts : List ByteArray, (∀ x, x ∈ ts ↔ x ∈ ss) ∧ w'.ownsRow base 9 1 v n (ts.map Value.string) ∧ w.grownBy w' v.ownBlock := by
  rcases h.2 with ⟨h', h0⟩ | ⟨g, cap, cur, rfl, hbase, hb, h1, h2, h3, h4⟩
  · subst h'
    subst h0
    exact (calls_of_every_depth fun D => AnyS.slices_Sort_string_none_alone laysSort D none 0 w).mono fun e w' ⟨he, hw⟩ => by
      subst hw
      exact ⟨he, ss, fun _ => Iff.rfl, h, World.grownBy.refl _ _⟩
  · have hl : ss.length = n := by have := h.1; simpa using this
    have hm := Lib.map_encStr ss
    have hlen : (ss.map (·.data.toList)).length = n := by simp [hl]
    have hH : Holds encStr w g 0 (ss.map (·.data.toList)).toArray := holds_of_block hb (by rw [hlen, hm]; simpa using h4)
    have c := calls_of_every_depth fun D => AnyS.slices_Sort_string_alone laysSort D g 0 cap (ss.map (·.data.toList)) w hH (Array.getElem?_eq_some_iff.1 hb).1 (by omega)
    rw [hlen] at c
    refine Calls.mono c fun e w' ⟨he, nn, os, hw⟩ => ⟨he, ((ss.map (·.data.toList)).mergeSort fun x y => decide (x ≤ y)).map ofL, ?_, ?_, ?_⟩
    · exact mem_ofL fun x => (List.mergeSort_perm _ _).mem_iff
    · rw [map_ofL, hw]
      have := ownsRow_sorted (n := nn) (os := os) (ss := ss.map (·.data.toList)) (ts := (ss.map (·.data.toList)).mergeSort fun x y => decide (x ≤ y)) (List.length_mergeSort _) hbase hb (by rw [hlen]; exact h1) h2 h3
      rw [hlen] at this
      exact this
    · rw [hw]; exact grownBy_sorted _

theorem compact_c (blk off cap : Nat) (zs : List (List UInt8)) (w : World) (hH : Holds encStr w blk off zs.toArray) (hsz : zs.length ≤ 9223372036854775807) (hcap : zs.length ≤ cap) :
    Calls Try.prog 31 #[.slice (some ⟨blk, off, none⟩) zs.length cap] w fun e w' => e = .returned (.slice (some ⟨blk, off, none⟩) (Lib.compact zs).length cap) ∧ ∃ q, w' = putRow encStr (Sort.ahead w q) blk off (Lib.compact zs ++ List.replicate (zs.length - (Lib.compact zs).length) []).toArray :=
  calls_of_every_depth fun D => AnyS.slices_Compact_string_in laysCompact D blk off cap zs w hH hsz hcap

/-- slices.Compact on a slice of strings that the call owns: the same members. -/
theorem compact_any (base : Nat) (v : Value) (n : Nat) (ss : List ByteArray) (w : World) (h : w.ownsRow base 9 1 v n (ss.map Value.string)) (hn : n ≤ 1048576) :
    Calls Try.prog 31 #[v] w fun e w' => ∃ a m cap, e = .returned (.slice a m cap) ∧ m ≤ n ∧ ∃ us : List ByteArray, (∀ x, x ∈ us ↔ x ∈ ss) ∧ SRow w' a m cap us ∧ Below base w w' := by
  rcases h.2 with ⟨h', h0⟩ | ⟨g, cap, cur, rfl, hbase, hb, h1, h2, h3, h4⟩
  · subst h'
    subst h0
    have hss : ss = [] := List.eq_nil_of_length_eq_zero (by have := h.1; simpa using this)
    subst hss
    exact (calls_of_every_depth fun D => AnyS.slices_Compact_string_empty_in laysCompact D none 0 w).mono fun e w' ⟨he, hw⟩ => by
      subst hw
      exact ⟨none, 0, 0, he, Nat.le_refl _, [], fun _ => Iff.rfl, SRow.nil _, Below.refl _ _⟩
  · have hl : ss.length = n := by have := h.1; simpa using this
    have hm := Lib.map_encStr ss
    have hlen : (ss.map (·.data.toList)).length = n := by simp [hl]
    have hH : Holds encStr w g 0 (ss.map (·.data.toList)).toArray := holds_of_block hb (by rw [hlen, hm]; simpa using h4)
    have c := compact_c g 0 cap (ss.map (·.data.toList)) w hH (by omega) (by omega)
    rw [hlen] at c
    have hle := Lib.compact_length_le (ss.map (·.data.toList))
    refine Calls.mono c fun e w' ⟨he, q, hw⟩ => ⟨_, _, _, he, by omega, (Lib.compact (ss.map (·.data.toList))).map ofL, mem_ofL fun x => mem_compact_iff, ?_, ?_⟩
    · have hown : w.ownsRow base 9 1 (.slice (some ⟨g, 0, none⟩) n cap) n ((ss.map (·.data.toList)).map encStr) := by rw [hm]; exact h
      have hc := Lib.ownsRow_putRow (q := q) (k := (Lib.compact (ss.map (·.data.toList))).length) (ys := Lib.compact (ss.map (·.data.toList)) ++ List.replicate (n - (Lib.compact (ss.map (·.data.toList))).length) []) hown (by simp; omega) (by omega)
      rw [List.take_left] at hc
      rw [hw]
      refine SRow.of_own (base := base) ?_
      rw [map_ofL]
      exact hc
    · rw [hw]; exact Lib.below_putRow (Below.refl _ _) hbase
end Go.Proofs.Qxb6003669a
