import Derived.Test.Qxb6606338aWalkM
import Derived.Test.Qxb6606338aWalkG
namespace Go.Proofs.Qxb6606338a
open Go.RowKit Go.Maps Go.WideMaps

/-- Where a key first stands. -/
def idxB (K : List ByteArray) (s : ByteArray) : Nat := K.findIdx fun k => decide (k = s)

theorem idxB_lt {K : List ByteArray} {s : ByteArray} (h : s ∈ K) : idxB K s < K.length := by
  unfold idxB
  exact List.findIdx_lt_length_of_exists ⟨s, h, decide_eq_true rfl⟩

theorem idxB_take {K : List ByteArray} {s : ByteArray} (h : s ∈ K) (n : Nat) : (idxB K s < n) ↔ s ∈ K.take n := by
  constructor
  · intro hlt
    have h1 := idxB_lt h
    have h2 : decide (K[idxB K s] = s) = true := List.findIdx_getElem (w := h1)
    have h3 := of_decide_eq_true h2
    rw [List.mem_take_iff_getElem]
    exact ⟨idxB K s, by omega, h3⟩
  · intro hm
    obtain ⟨j, hj, e⟩ := List.mem_take_iff_getElem.1 hm
    have : idxB K s ≤ j := by
      apply Nat.le_of_not_lt
      intro hlt
      have := List.not_of_lt_findIdx (p := fun k => decide (k = s)) (xs := K) hlt
      simp [e] at this
    omega

theorem idxB_snoc {K : List ByteArray} {s s' : ByteArray} (h : s' ∈ K) : idxB (K ++ [s]) s' = idxB K s' := by
  unfold idxB
  rw [List.findIdx_append]
  have := idxB_lt h
  unfold idxB at this
  rw [if_pos this]

theorem idxB_new {K : List ByteArray} {s : ByteArray} (h : s ∉ K) : idxB (K ++ [s]) s = K.length := by
  unfold idxB
  rw [List.findIdx_append]
  have h0 : K.findIdx (fun k => decide (k = s)) = K.length := by
    rw [List.findIdx_eq_length]
    intro x hx
    exact decide_eq_false (fun e => h (e ▸ hx))
  rw [if_neg (by omega)]
  simp

def rankMap (K : List ByteArray) (s : ByteArray) : Option Value := if inB K s then some (.int .i64 (idxB K s)) else none

theorem rankMap_snoc {K : List ByteArray} {s : ByteArray} (h : s ∉ K) (s' : ByteArray) : (if s' = s then some (Value.int .i64 K.length) else rankMap K s') = rankMap (K ++ [s]) s' := by
  unfold rankMap
  by_cases e : s' = s
  · subst e
    rw [if_pos rfl, if_pos (inB_iff.2 (by simp)), idxB_new h]
  · rw [if_neg e]
    by_cases h1 : inB K s' = true
    · rw [if_pos h1, if_pos (inB_iff.2 (List.mem_append_left _ (inB_iff.1 h1))), idxB_snoc (inB_iff.1 h1)]
    · have h2 : ¬ inB (K ++ [s]) s' = true := by
        intro h3
        rcases List.mem_append.1 (inB_iff.1 h3) with h4 | h4
        · exact h1 (inB_iff.2 h4)
        · exact e (by simpa using h4)
      rw [if_neg h1, if_neg h2]

/-- The keys of one to sixty-four bytes, each once, in the order in which they came. -/
def addK (K : List ByteArray) (zs : List Int) : List ByteArray := if (1 ≤ zs.length ∧ zs.length ≤ 64) ∧ inB K (strOf zs) = false then K ++ [strOf zs] else K

theorem addK_mono {K : List ByteArray} {zs : List Int} {q : ByteArray} (h : q ∈ K) : q ∈ addK K zs := by
  unfold addK; split
  · exact List.mem_append_left _ h
  · exact h

theorem addK_mem {K : List ByteArray} {zs : List Int} (h : 1 ≤ zs.length ∧ zs.length ≤ 64) : strOf zs ∈ addK K zs := by
  unfold addK
  by_cases h1 : inB K (strOf zs) = true
  · rw [if_neg (fun hh => by rw [h1] at hh; cases hh.2)]; exact inB_iff.1 h1
  · rw [if_pos ⟨h, by simpa using h1⟩]; simp

theorem strOf_ne {zs : List Int} (h : 1 ≤ zs.length) : strOf zs ≠ ByteArray.empty := by
  intro e
  have := strOf_size zs
  rw [e] at this
  simp at this
  omega

/-- What lies in memory while the script runs: the table's keys Kt, the ranks' keys Kr. -/
def Inv2 (wB : World) (B hb rb : Nat) (wr : World) (Kt Kr : List ByteArray) : Prop :=
  ∃ r rs, Tab wr hb r rs ∧ MapF wr r (Kt.take 4096) ∧ SMap Try.prog 3 wr rb (rankMap Kr) Kr.length ∧ (∀ q ∈ rs, q = ByteArray.empty ∨ q ∈ Kt) ∧ (r = none ↔ Kt = []) ∧ (∀ mb, r = some mb → B ≤ mb ∧ mb ≠ rb) ∧ Below B wB wr

theorem take_add (K : List ByteArray) (s : ByteArray) : (K ++ [s]).take 4096 = if K.length < 4096 then K.take 4096 ++ [s] else K.take 4096 := by
  by_cases h : K.length < 4096
  · rw [if_pos h, List.take_of_length_le (by simp; omega), List.take_of_length_le (by omega)]
  · rw [if_neg h, List.take_append_of_le_length (by omega)]

theorem nextKs_take {K rs : List ByteArray} {zs : List Int} (hrs : ∀ q ∈ rs, q = ByteArray.empty ∨ q ∈ K) (hl : rs.length = 1024) : nextKs rs (K.take 4096) zs = (addK K zs).take 4096 := by
  unfold nextKs addK
  by_cases hsh : 1 ≤ zs.length ∧ zs.length ≤ 64
  case neg => rw [if_neg (fun h => hsh h.1), if_neg (fun h => hsh h.1)]
  by_cases hin : inB K (strOf zs) = true
  · rw [if_neg (c := _ ∧ inB K (strOf zs) = false) (fun h => by rw [hin] at h; cases h.2)]
    by_cases hfull : K.length < 4096
    · rw [List.take_of_length_le (by omega)]
      rw [if_neg (fun h => by rw [hin] at h; cases h.2.2.1)]
    · rw [if_neg (fun h => by have := h.2.2.2; simp at this; omega)]
  · have hin' : inB K (strOf zs) = false := by simpa using hin
    have hni : strOf zs ∉ K := fun h => hin (inB_iff.2 h)
    have hq : rs.getD (slotOf zs) ByteArray.empty ≠ strOf zs := by
      intro e
      have hm : rs.getD (slotOf zs) ByteArray.empty ∈ rs := by
        have := slotOf_lt zs
        rw [List.getD, List.getElem?_eq_getElem (by omega)]; exact List.getElem_mem _
      rw [e] at hm
      rcases hrs _ hm with h | h
      · exact strOf_ne hsh.1 h
      · exact hni h
    rw [if_pos (c := _ ∧ inB K (strOf zs) = false) ⟨hsh, hin'⟩, take_add]
    by_cases hfull : K.length < 4096
    · rw [if_pos hfull, if_pos]
      refine ⟨hsh, hq, ?_, by simp; omega⟩
      rw [List.take_of_length_le (by omega)]
      exact hin'
    · rw [if_neg hfull, if_neg (fun h => by have := h.2.2.2; simp at this; omega)]

theorem SMap.turn {e : TypeId} {S : Nat → Prop} {w w' : World} {mb n : Nat} {f : ByteArray → Option Value} (h : SMap Try.prog e w mb f n) (ht : Turn S w w') (hS : ¬ S mb) : SMap Try.prog e w' mb f n := by
  obtain ⟨D, h1, h2⟩ := h
  refine ⟨D, ?_, h2⟩
  have hlt := h1.lt
  obtain ⟨es, clock, hb, F, hs, rfl⟩ := h1
  exact ⟨es, clock, by rw [ht.block mb hlt hS]; exact hb, F, hs, rfl⟩

theorem Turn.below {S : Nat → Prop} {w w' wB : World} {B : Nat} (h : Turn S w w') (hb : Below B wB w) (hB : B ≤ w.heap.size) (hS : ∀ k, S k → B ≤ k) : Below B wB w' :=
  hb.trans ⟨h.os, h.tape, h.output, h.size, fun k hk => h.block k (by omega) (fun hs => by have := hS k hs; omega)⟩

theorem Inv2.held {wB wr w1 : World} {B hb rb : Nat} {K : List ByteArray} {zs : List Int} {r : Option Nat} {rs : List ByteArray} (hT : Tab wr hb r rs) (hR : SMap Try.prog 3 wr rb (rankMap K) K.length) (hrs : ∀ q ∈ rs, q = ByteArray.empty ∨ q ∈ K)
    (hnil : r = none ↔ K = []) (hmb : ∀ mb, r = some mb → B ≤ mb ∧ mb ≠ rb) (hbel : Below B wB wr) (hB : B ≤ wr.heap.size) (hhb : B ≤ hb) (hne : hb ≠ rb) (hp : HeldPost wr w1 hb r rs (K.take 4096) zs) : Inv2 wB B hb rb w1 (addK K zs) K := by
  obtain ⟨r', h1, h2, h3, h4, h5⟩ := hp
  have hrlt := hR.lt
  have ek := nextKs_take (zs := zs) hrs hT.1
  refine ⟨r', nextRs rs zs, h1, by rw [← ek]; exact h2, hR.turn h3 ?_, ?_, ?_, ?_, ?_⟩
  · rintro (h | h)
    · exact hne h.symm
    · exact (hmb _ h).2 rfl
  · intro q hq
    unfold nextRs at hq
    split at hq
    · rename_i hc
      rcases List.mem_or_eq_of_mem_set hq with hq | hq
      · rcases hrs q hq with h | h
        · exact .inl h
        · exact .inr (addK_mono h)
      · subst hq; exact .inr (addK_mem hc.1)
    · rcases hrs q hq with h | h
      · exact .inl h
      · exact .inr (addK_mono h)
  · constructor
    · intro e
      subst e
      rcases h2 with ⟨_, hk⟩ | ⟨mb, hk, _⟩
      · rw [ek] at hk
        cases hK : addK K zs with
        | nil => rfl
        | cons x xs => rw [hK] at hk; simp at hk
      · cases hk
    · intro e
      have hK : K = [] := by
        cases hK : K with
        | nil => rfl
        | cons x xs =>
          have : x ∈ addK K zs := addK_mono (by rw [hK]; simp)
          rw [e] at this
          simp at this
      have : nextKs rs (K.take 4096) zs = K.take 4096 := by rw [ek, e, hK]
      rw [h5 this]
      exact hnil.2 hK
  · intro mb hm
    rcases h4 with h4 | ⟨_, m, h4, h6⟩
    · rw [h4] at hm; exact hmb mb hm
    · rw [h4] at hm; cases hm; exact ⟨by omega, by omega⟩
  · exact h3.below hbel hB (fun k hk => by
      rcases hk with rfl | hk
      · exact hhb
      · exact (hmb k hk).1)

end Go.Proofs.Qxb6606338a
