import Derived.Test.Qxb6606338aWalkT
namespace Go.Proofs.Qxb6606338a
open Go.RowKit Go.Maps Go.WideMaps

theorem MapF.len7 {w : World} {r : Option Nat} {ks : List ByteArray} (h : MapF w r ks) (ty : TypeId) : (Builtin.len_ #[29] ty #[.map r]).run Try.prog w = .ok (.int .i64 ks.length) w := by
  rcases h with ⟨rfl, rfl⟩ | ⟨mb, rfl, h⟩
  · exact Maps.len_nil Try.underlying29 ty
  · exact h.len Try.underlying29 ty

theorem MapF.look7 {w : World} {r : Option Nat} {ks : List ByteArray} (h : MapF w r ks) {s : ByteArray} (hs : s.size ≤ maxLen) : (Instr.lookup 29 (.map r) (.string s) true).run Try.prog w = .ok (.tuple #[.string (if inB ks s then s else ByteArray.empty), .bool (inB ks s)]) w := by
  rcases h with ⟨rfl, rfl⟩ | ⟨mb, rfl, h⟩
  · exact Maps.look_nil true (string_keyed Try.underlying9) Try.underlying29 (zero9 _) (keyOf_string_mk Try.underlying9 hs)
  · rw [h.look Try.underlying9 Try.underlying29 (apart_string Try.underlying9) (zero9 _) (elem9 (by simp [maxLen])) hs]
    cases hi : inB ks s <;> simp [selfMap, hi]

/-- What heldFits' yes says. -/
def Fits7 (len len' : Nat) (e : Ending) : Prop := ∃ x, e = .returned (.bool x) ∧ (x = true → len ≤ 65536 ∧ len' ≤ 1048576)

set_option maxHeartbeats 1600000 in
set_option maxRecDepth 100000 in
theorem fits7_any (a : Option Addr) (len cap : Nat) (ss : List ByteArray) (cs : Array Value) (rs : List ByteArray) (a' : Option Addr) (len' cap' : Nat) (w : World) (h : SRow w a len cap ss) (hcs : cs = (rs.map Value.string).toArray) (hrs : rs.length = 1024)
    (hm : len ≤ 9223372036854775807) (hm' : len' ≤ 9223372036854775807) (hss : ∀ s ∈ ss, s.size ≤ 1048576) (hrr : ∀ q ∈ rs, q.size ≤ 1048576) :
    Calls Try.prog 7 #[.slice a len cap, .agg cs, .slice a' len' cap'] w fun e w' => Fits7 len len' e ∧ Below w.heap.size w w' := by
  by_cases hl : 65536 < len
  · clear hcs
    go_enter Try.func7, Try.ntmps7
    go_wp2
    go_ret
    exact ⟨⟨false, rfl, fun h => by cases h⟩, (Below.refl _ _).alloc (Nat.le_refl _) _⟩
  by_cases hl2 : 1048576 < len'
  · clear hcs
    go_enter Try.func7, Try.ntmps7
    go_wp2
    go_ret
    exact ⟨⟨false, rfl, fun h => by cases h⟩, (Below.refl _ _).alloc (Nat.le_refl _) _⟩
  have HC : Hid (∀ k, k < 1024 → cs[k]? = some (.string (rs.getD k ByteArray.empty))) := fun k hk => by rw [hcs]; simp [List.getD, show k < rs.length by omega]
  have HR : Hid (∀ k, k < 1024 → (rs.getD k ByteArray.empty).size ≤ 1048576) := fun k hk => hrr _ (by rw [List.getD, List.getElem?_eq_getElem (by omega)]; exact List.getElem_mem _)
  have HSS : Hid (∀ k, k < len → (ss.getD k ByteArray.empty).size ≤ 1048576) := fun k hk => hss _ (by rw [List.getD, List.getElem?_eq_getElem (by rw [h.1]; exact hk)]; exact List.getElem_mem _)
  clear hcs hrs hss hrr
  go_enter Try.func7, Try.ntmps7
  go_wp2
  go_loop [7, 8] (fun sz si => ∃ (k z : Nat), k ≤ len ∧ si = .int .i64 k ∧ sz = .int .i64 z ∧ z ≤ 1048576) (fun _ si => len - (intOf si).toNat)
  case atStart => exact ⟨0, _, Nat.zero_le _, rfl, rfl, by omega⟩
  case round =>
    obtain ⟨k, z, hk, rfl, rfl, hz1⟩ := hrel
    by_cases hlt : k < len
    · obtain ⟨b, o, rfl, hb, hcell⟩ := h.at k hlt
      have hsz := HSS.out k hlt
      obtain ⟨s, hs⟩ : ∃ s, s = ss.getD k ByteArray.empty := ⟨_, rfl⟩
      rw [← hs] at hcell hsz
      have hne : ¬ w.heap.size = b := by omega
      clear hs h
      by_cases hs2 : 1048576 < z + (16 + s.size)
      · go_wp2
        go_ret
        exact ⟨⟨false, rfl, fun h => by cases h⟩, (Below.refl _ _).alloc (Nat.le_refl _) _⟩
      · go_wp2
        go_round
        case rel => exact ⟨k + 1, z + (16 + s.size), by omega, by go_num, by go_num, by omega⟩
        case measure => simp [intOf]; omega
    · have e : k = len := by omega
      subst e
      go_wp2
      go_loop [7, 9] (fun sz si => ∃ (j z : Nat), j ≤ 1024 ∧ si = .int .i64 j ∧ sz = .int .i64 z ∧ z ≤ 1048576) (fun _ si => 1024 - (intOf si).toNat)
      case atStart => exact ⟨0, _, Nat.zero_le _, rfl, rfl, by omega⟩
      case round =>
        obtain ⟨j, z, hj, rfl, rfl, hz1⟩ := hrel
        by_cases hlt2 : j < 1024
        · have hsz := HR.out j hlt2
          obtain ⟨s, hs⟩ : ∃ s, s = rs.getD j ByteArray.empty := ⟨_, rfl⟩
          have hcell : cs[j]? = some (.string s) := by rw [hs]; exact HC.out j hlt2
          rw [← hs] at hsz
          clear hs h
          by_cases hs2 : 1048576 < z + (16 + s.size)
          · go_wp2
            go_ret
            exact ⟨⟨false, rfl, fun h => by cases h⟩, (Below.refl _ _).alloc (Nat.le_refl _) _⟩
          · go_wp2
            go_round
            case rel => exact ⟨j + 1, z + (16 + s.size), by omega, by go_num, by go_num, by omega⟩
            case measure => simp [intOf]; omega
        · go_wp2
          go_ret
          exact ⟨⟨true, rfl, fun _ => ⟨by omega, by omega⟩⟩, (Below.refl _ _).alloc (Nat.le_refl _) _⟩

/-- The keys, each once, in the order in which they came. -/
def addS (K : List ByteArray) (s : ByteArray) : List ByteArray := if inB K s then K else K ++ [s]
theorem mem_foldS (ss : List ByteArray) : ∀ (K : List ByteArray) (x : ByteArray), x ∈ ss.foldl addS K ↔ x ∈ K ∨ x ∈ ss := by
  induction ss with
  | nil => intro K x; simp
  | cons s ss ih =>
    intro K x
    simp only [List.foldl_cons]
    rw [ih]
    unfold addS
    by_cases h : inB K s = true
    · rw [if_pos h]
      have hm := inB_iff.1 h
      constructor
      · rintro (h1 | h1)
        · exact .inl h1
        · exact .inr (List.mem_cons_of_mem _ h1)
      · rintro (h1 | h1)
        · exact .inl h1
        · rcases List.mem_cons.1 h1 with rfl | h1
          · exact .inl hm
          · exact .inr h1
    · rw [if_neg h]
      simp only [List.mem_append, List.mem_cons, List.not_mem_nil, or_false, or_assoc]

theorem addS_length (K : List ByteArray) (s : ByteArray) : (addS K s).length ≤ K.length + 1 := by
  unfold addS; split <;> simp

theorem selfMap_addS (K : List ByteArray) (s s' : ByteArray) : (if s' = s then some (Value.string s) else selfMap K s') = selfMap (addS K s) s' := by
  unfold addS
  by_cases h : inB K s = true
  · rw [if_pos h]
    by_cases e : s' = s
    · subst e; rw [if_pos rfl]; simp [selfMap, h]
    · rw [if_neg e]
  · rw [if_neg h]; exact selfMap_snoc K s s'

theorem addS_len (K : List ByteArray) (s : ByteArray) : (if (selfMap K s).isSome then K.length else K.length + 1) = (addS K s).length := by
  unfold addS selfMap
  by_cases h : inB K s = true
  · simp [h]
  · simp [h]

set_option maxHeartbeats 800000 in
set_option maxRecDepth 100000 in
/-- heldMap. -/
theorem heldMap_any (a : Option Addr) (len cap : Nat) (ss : List ByteArray) (nm : Bool) (w : World) (h : SRow w a len cap ss) (hm : len ≤ 65536) (hss : ∀ s ∈ ss, s.size ≤ 1048576) :
    Calls Try.prog 10 #[.slice a len cap, .bool nm] w fun e w' => ∃ r, e = .returned (.map r) ∧ MapF w' r (ss.foldl addS []) ∧ (∀ mb, r = some mb → w.heap.size ≤ mb) ∧ Below w.heap.size w w' := by
  by_cases hnil : nm = true ∧ len = 0
  · obtain ⟨rfl, rfl⟩ := hnil
    have : ss = [] := List.eq_nil_of_length_eq_zero h.1
    subst this
    go_enter Try.func10, Try.ntmps10
    go_wp2
    go_ret
    exact ⟨none, rfl, .inl ⟨rfl, rfl⟩, (fun mb e => by cases e), Below.refl _ _⟩
  have hmm := @run_makeMap Try.prog
  have hg : nm = false ∨ (nm = true ∧ ((len : Int) == 0) = false) := by
    cases nm with
    | false => exact .inl rfl
    | true => exact .inr ⟨rfl, by simp only [beq_eq_false_iff_ne, ne_eq]; exact fun e => hnil ⟨rfl, by omega⟩⟩
  have HSS : Hid (∀ k, k < len → (ss.getD k ByteArray.empty).size ≤ 1048576) := fun k hk => hss _ (by rw [List.getD, List.getElem?_eq_getElem (by rw [h.1]; exact hk)]; exact List.getElem_mem _)
  have HL : Hid (ss.length = len) := h.1
  have HR : Hid (SRow w a len cap ss) := h
  clear hss hnil h
  rcases hg with rfl | ⟨rfl, hg⟩
  all_goals
    go_enter Try.func10, Try.ntmps10
    go_wp2
    clear hmm
    go_loopw [6] (fun si wr => ∃ k n : Nat, k ≤ len ∧ si = .int .i64 k ∧ n ≤ k ∧ Hid (SMap Try.prog 9 wr w.heap.size (selfMap ((ss.take k).foldl addS [])) n ∧ n = ((ss.take k).foldl addS []).length) ∧ Below w.heap.size w wr) (fun si _ => len - (intOf si).toNat)
    case atStart => exact ⟨0, 0, Nat.zero_le _, rfl, Nat.le_refl _, ⟨(SMap.made w).congr (fun s => by simp [selfMap, inB]) rfl, by simp⟩, (Below.refl _ _).alloc (Nat.le_refl _) _⟩
    case round =>
      obtain ⟨k, n, hk, rfl, hnk, HK, hbel⟩ := hrel
      by_cases hlt : k < len
      · obtain ⟨b, o, rfl, hb, hcell0⟩ := HR.out.at k hlt
        have hsz := HSS.out k hlt
        obtain ⟨s, hs⟩ : ∃ s, s = ss.getD k ByteArray.empty := ⟨_, rfl⟩
        rw [← hs] at hcell0 hsz
        have hcell : wr.cell? ⟨b, o + k, none⟩ = some (.string s) := (hbel.cell (by exact hb)).trans hcell0
        have hsm : s.size ≤ maxLen := by unfold maxLen; omega
        obtain ⟨w1, hrun, hS1, hg1⟩ := HK.out.1.drew.store (t := 29) Try.underlying9 Try.underlying29 (by unfold maxLen; omega) hsm (elem9 hsm)
        have hstep : (ss.take (k + 1)).foldl addS [] = addS ((ss.take k).foldl addS []) s := by
          rw [List.take_succ_eq_append_getElem (by rw [HL.out]; exact hlt), List.foldl_append]
          simp [hs, List.getD, show k < ss.length by rw [HL.out]; exact hlt]
        have HN : Hid (∃ n', n' ≤ k + 1 ∧ SMap Try.prog 9 w1 w.heap.size (selfMap ((ss.take (k + 1)).foldl addS [])) n' ∧ n' = ((ss.take (k + 1)).foldl addS []).length) := by
          refine ⟨((ss.take (k + 1)).foldl addS []).length, ?_, hS1.congr (fun s' => by rw [hstep]; exact selfMap_addS _ s s') ?_, rfl⟩
          · rw [hstep]; have := addS_length ((ss.take k).foldl addS []) s; have := HK.out.2; omega
          · rw [hstep, HK.out.2]; exact addS_len _ s
        have HB : Hid (Below w.heap.size w w1) := hbel.drew.grown hg1 (by have := hbel.size; exact this) (fun k hk => by cases hk; exact Nat.le_refl _)
        clear hS1 hg1 hstep hs hsz hcell0 HK hsm
        go_wp2
        go_region
        all_goals go_wp2
        obtain ⟨n', h1, h2, h3⟩ := HN.out
        go_roundw
        case rel => exact ⟨k + 1, n', by omega, by go_num, h1, ⟨h2, h3⟩, HB.out⟩
        case measure => simp [intOf]; omega
      · have e : k = len := by omega
        subst e
        go_wp2
        go_ret
        refine ⟨some w.heap.size, rfl, .inr ⟨w.heap.size, rfl, ?_⟩, (fun mb e => by cases e; exact Nat.le_refl _), hbel⟩
        obtain ⟨h1, h2⟩ := HK.out
        rw [List.take_of_length_le (by rw [HL.out]; exact Nat.le_refl _)] at h1 h2
        exact h1.congr (fun _ => rfl) h2

set_option maxHeartbeats 800000 in
/-- heldSelfMapped, of a map that holds all of the keys at themselves. -/
theorem selfMapped_any (r : Option Nat) (ks : List ByteArray) (a : Option Addr) (len cap : Nat) (ss : List ByteArray) (w : World) (hM : MapF w r ks) (h : SRow w a len cap ss) (hm : len ≤ 65536) (hss : ∀ s ∈ ss, s.size ≤ 1048576 ∧ s ∈ ks) :
    Calls Try.prog 15 #[.map r, .slice a len cap] w fun e w' => e = .returned (.bool true) ∧ w' = w := by
  have HSS : Hid (∀ k, k < len → (ss.getD k ByteArray.empty).size ≤ 1048576 ∧ ss.getD k ByteArray.empty ∈ ks) := fun k hk => hss _ (by rw [List.getD, List.getElem?_eq_getElem (by rw [h.1]; exact hk)]; exact List.getElem_mem _)
  have HR : Hid (SRow w a len cap ss) := h
  have HM : Hid (MapF w r ks) := hM
  clear hss h hM
  go_enter Try.func15, Try.ntmps15
  go_wp2
  go_loop [5] (fun si => ∃ k : Nat, k ≤ len ∧ si = .int .i64 k) (fun si => len - (intOf si).toNat)
  case atStart => exact ⟨0, Nat.zero_le _, rfl⟩
  case round =>
    obtain ⟨k, hk, rfl⟩ := hrel
    by_cases hlt : k < len
    · obtain ⟨b, o, rfl, hb, hcell⟩ := HR.out.at k hlt
      obtain ⟨hsz, hin⟩ := HSS.out k hlt
      obtain ⟨s, hs⟩ : ∃ s, s = ss.getD k ByteArray.empty := ⟨_, rfl⟩
      rw [← hs] at hcell hsz hin
      have hlk := HM.out.look7 (s := s) (by unfold maxLen; omega)
      rw [inB_iff.2 hin] at hlk
      simp only [if_true] at hlk
      clear hs hin
      go_wp2
      go_round
      case rel => exact ⟨k + 1, by omega, by go_num⟩
      case measure => simp [intOf]; omega
    · go_wp2
      go_ret
      exact ⟨rfl, rfl⟩
end Go.Proofs.Qxb6606338a
