import Derived.Test.Qxb6606338aKeys
import Derived.Test.Qxb6606338aWalkS
namespace Go.Proofs.Qxb6606338a
open Go.RowKit Go.Maps Go.WideMaps

theorem SRow.at {w : World} {a : Option Addr} {len cap : Nat} {ss : List ByteArray} (h : SRow w a len cap ss) (k : Nat) (hk : k < len) :
    ∃ b o, a = some ⟨b, o, none⟩ ∧ b < w.heap.size ∧ w.cell? ⟨b, o + k, none⟩ = some (.string (ss.getD k ByteArray.empty)) := by
  obtain ⟨b, o, rfl, hb, hc⟩ := h.2.2.2 (by omega)
  exact ⟨b, o, rfl, hb, hc k hk⟩

/-- A block of strings, as an array's box holds them. -/
def Box (w : World) (g : Nat) (rs : List ByteArray) : Prop := rs.length = 1024 ∧ w.heap[g]? = some (.cells (rs.map Value.string).toArray 23 (0, 0))
theorem Box.cell {w : World} {g : Nat} {rs : List ByteArray} (h : Box w g rs) {k : Nat} (hk : k < 1024) : w.cell? ⟨g, k, none⟩ = some (.string (rs.getD k ByteArray.empty)) := by
  rw [cell_of_row w g k _ _ _ h.2]
  have : k < rs.length := by have := h.1; omega
  simp [List.getD, this]

/-- What zzBytes' yes says. -/
def Bytes6 (ss rs : List ByteArray) (e : Ending) : Prop := ∃ x, e = .returned (.bool x) ∧ (x = true → (∀ s ∈ ss, s.size ≤ 1048576) ∧ ∀ q ∈ rs, q.size ≤ 1048576)

set_option maxHeartbeats 1600000 in
set_option maxRecDepth 100000 in
theorem bytes6_any (a : Option Addr) (len cap : Nat) (ss : List ByteArray) (nm : Bool) (cs : Array Value) (rs : List ByteArray) (a' : Option Addr) (len' cap' : Nat) (w : World) (h : SRow w a len cap ss) (hcs : cs = (rs.map Value.string).toArray) (hrs : rs.length = 1024)
    (hm : len ≤ 9223372036854775807) (hm' : len' ≤ 9223372036854775807) :
    Calls Try.prog 6 #[.slice a len cap, .bool nm, .agg cs, .slice a' len' cap'] w fun e w' => Bytes6 ss rs e ∧ Below w.heap.size w w' := by
  by_cases hl : 1048576 < len
  · clear hcs
    go_enter Try.func6, Try.ntmps6
    go_wp2
    go_ret
    exact ⟨⟨false, rfl, fun h => by cases h⟩, (Below.refl _ _).alloc (Nat.le_refl _) _⟩
  have HC : Hid (∀ k, k < 1024 → cs[k]? = some (.string (rs.getD k ByteArray.empty))) := fun k hk => by rw [hcs]; simp [List.getD, show k < rs.length by omega]
  have HR : Hid (rs.length = 1024) := hrs
  clear hcs hrs
  have HL : Hid (ss.length = len) := h.1
  go_enter Try.func6, Try.ntmps6
  go_wp2
  go_loop [9, 10] (fun sz si => ∃ (k : Nat) (z : Int), k ≤ len ∧ si = .int .i64 k ∧ sz = .int .i64 z ∧ 0 ≤ z ∧ z ≤ 1048576 ∧ Hid (∀ t, t < k → (ss.getD t ByteArray.empty).size ≤ 1048576)) (fun _ si => len - (intOf si).toNat)
  case atStart => exact ⟨0, _, Nat.zero_le _, rfl, rfl, by omega, by omega, fun t ht => absurd ht (by omega)⟩
  case round =>
    obtain ⟨k, z, hk, rfl, rfl, hz0, hz1, HT⟩ := hrel
    by_cases hlt : k < len
    · obtain ⟨b, o, rfl, hb, hcell⟩ := h.at k hlt
      obtain ⟨s, hs⟩ : ∃ s, s = ss.getD k ByteArray.empty := ⟨_, rfl⟩
      rw [← hs] at hcell
      have hne : ¬ w.heap.size = b := by omega
      have HS : Hid (s = ss.getD k ByteArray.empty) := hs
      clear hs h
      by_cases hl' : 1048576 < s.size
      · go_wp2
        go_ret
        exact ⟨⟨false, rfl, fun h => by cases h⟩, (Below.refl _ _).alloc (Nat.le_refl _) _⟩
      · by_cases hs2 : 1048576 < z + s.size
        · go_wp2
          go_ret
          exact ⟨⟨false, rfl, fun h => by cases h⟩, (Below.refl _ _).alloc (Nat.le_refl _) _⟩
        · go_wp2
          go_round
          case rel =>
            refine ⟨k + 1, z + s.size, by omega, by go_num, rfl, by omega, by omega, fun t ht => ?_⟩
            by_cases e : t = k
            · subst e; rw [← HS.out]; omega
            · exact HT.out t (by omega)
          case measure => simp [intOf]; omega
    · have e : k = len := by omega
      subst e
      go_wp2
      go_loop [9, 11] (fun sz si => ∃ (j : Nat) (z : Int), j ≤ 1024 ∧ si = .int .i64 j ∧ sz = .int .i64 z ∧ 0 ≤ z ∧ z ≤ 1048576 ∧ Hid (∀ t, t < j → (rs.getD t ByteArray.empty).size ≤ 1048576)) (fun _ si => 1024 - (intOf si).toNat)
      case atStart => exact ⟨0, _, Nat.zero_le _, rfl, rfl, by omega, by omega, fun t ht => absurd ht (by omega)⟩
      case round =>
        obtain ⟨j, z, hj, rfl, rfl, hz0, hz1, HT2⟩ := hrel
        by_cases hlt2 : j < 1024
        · obtain ⟨s, hs⟩ : ∃ s, s = rs.getD j ByteArray.empty := ⟨_, rfl⟩
          have hcell : cs[j]? = some (.string s) := by rw [hs]; exact HC.out j hlt2
          have HS : Hid (s = rs.getD j ByteArray.empty) := hs
          clear hs h
          by_cases hl' : 1048576 < s.size
          · go_wp2
            go_ret
            exact ⟨⟨false, rfl, fun h => by cases h⟩, (Below.refl _ _).alloc (Nat.le_refl _) _⟩
          · by_cases hs2 : 1048576 < z + s.size
            · go_wp2
              go_ret
              exact ⟨⟨false, rfl, fun h => by cases h⟩, (Below.refl _ _).alloc (Nat.le_refl _) _⟩
            · go_wp2
              go_round
              case rel =>
                refine ⟨j + 1, z + s.size, by omega, by go_num, rfl, by omega, by omega, fun t ht => ?_⟩
                by_cases e : t = j
                · subst e; rw [← HS.out]; omega
                · exact HT2.out t (by omega)
              case measure => simp [intOf]; omega
        · have yes : (∀ s ∈ ss, s.size ≤ 1048576) ∧ ∀ q ∈ rs, q.size ≤ 1048576 := by
            constructor
            · intro s hs
              obtain ⟨t, ht, rfl⟩ := List.getElem_of_mem hs
              have := HT.out t (by have := HL.out; omega)
              simpa [List.getD, ht] using this
            · intro s hs
              obtain ⟨t, ht, rfl⟩ := List.getElem_of_mem hs
              have := HT2.out t (by have := HR.out; omega)
              simpa [List.getD, ht] using this
          have HY : Hid ((∀ s ∈ ss, s.size ≤ 1048576) ∧ ∀ q ∈ rs, q.size ≤ 1048576) := yes
          clear yes
          by_cases h3 : 1048576 < len'
          · go_wp2
            go_ret
            exact ⟨⟨false, rfl, fun h => by cases h⟩, (Below.refl _ _).alloc (Nat.le_refl _) _⟩
          · by_cases h4 : 1048576 < z + len'
            · go_wp2
              go_ret
              exact ⟨⟨false, rfl, fun h => by cases h⟩, (Below.refl _ _).alloc (Nat.le_refl _) _⟩
            · go_wp2
              go_ret
              exact ⟨⟨true, rfl, fun _ => HY.out⟩, (Below.refl _ _).alloc (Nat.le_refl _) _⟩
end Go.Proofs.Qxb6606338a
