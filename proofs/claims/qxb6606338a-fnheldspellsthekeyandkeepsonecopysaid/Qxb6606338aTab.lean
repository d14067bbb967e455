import Derived.Test.Qxb6606338aView
import Derived.Test.Qxb6606338aMaps
namespace Go.Proofs.Qxb6606338a
open Go.RowKit Go.Maps Go.WideMaps

/-- The string that bytes spell. -/
def strOf (zs : List Int) : ByteArray := zs.foldl (fun r n => r.push (UInt8.ofNat n.toNat)) ByteArray.empty

theorem foldl_push_size (zs : List Int) : ∀ r : ByteArray, (zs.foldl (fun r n => r.push (UInt8.ofNat n.toNat)) r).size = r.size + zs.length := by
  induction zs with
  | nil => intro r; simp
  | cons z zs ih => intro r; simp only [List.foldl_cons]; rw [ih]; simp [ByteArray.size_push]; omega
theorem strOf_size (zs : List Int) : (strOf zs).size = zs.length := by
  unfold strOf; rw [foldl_push_size]; simp [ByteArray.size_empty]

theorem Row.news {w : World} {a : Option Addr} {len cap : Nat} {zs : List Int} (h : Row w a len cap zs) : ∀ ad, a = some ad → ∀ j u, (zs.map (Value.int .u8))[j]? = some u → w.cell? (ad.add j) = some u := by
  intro ad ha j u hj
  have hjl : j < len := by have := (List.getElem?_eq_some_iff.1 hj).1; have := h.1; simp at *; omega
  obtain ⟨b', o', e, _, hc⟩ := h.2.2.2 (by omega)
  rw [ha] at e
  cases e
  rw [Addr.add_lit, hc j hjl]
  have e : (zs.map (Value.int .u8))[j]? = some (.int .u8 (zs.getD j 0)) := by
    have := h.1
    simp [List.getD, show j < zs.length by omega]
  rw [e] at hj; exact hj

theorem conv_run {w : World} {a : Option Addr} {len cap : Nat} {zs : List Int} (h : Row w a len cap zs) : (convert 24 9 (.slice a len cap)).run Try.prog w = .ok (.string (strOf zs)) w := by
  rw [run_convert_bytes_string w 24 9 5 a len cap Try.underlying24 Try.underlying5 Try.underlying9]
  cases a with
  | none =>
    have h0 := h.2.2.1 rfl
    have h1 : zs = [] := List.eq_nil_of_length_eq_zero (by have := h.1; have := h.2.1; omega)
    subst h1
    simp [Conv.bytesToString, strOf]
  | some ad =>
    have hl : (loadCells ad len).run Try.prog w = .ok (zs.map (Value.int .u8)).toArray w := by
      have := run_loadCells_list (P := Try.prog) (w := w) ad (zs.map (Value.int .u8)) (h.news ad rfl)
      rw [← h.1]
      simpa using this
    rw [run_bytesToString w ad len cap zs hl]
    rfl

/-- Block hb is a table of held keys: its map's value, its 1024 slots. -/
def Tab (w : World) (hb : Nat) (r : Option Nat) (rs : List ByteArray) : Prop :=
  rs.length = 1024 ∧ w.heap[hb]? = some (.cells (Value.map r :: rs.map Value.string).toArray 44 (0, 0))

section
variable {w : World} {hb : Nat} {r : Option Nat} {rs : List ByteArray}

theorem Tab.lt (h : Tab w hb r rs) : hb < w.heap.size := by
  apply Nat.lt_of_not_le
  intro hle
  have := h.2
  rw [Array.getElem?_eq_none hle] at this
  cases this
theorem Tab.map (h : Tab w hb r rs) : w.cell? ⟨hb, 0, none⟩ = some (.map r) := by
  rw [cell_of_row w hb 0 _ _ _ h.2]; simp
theorem Tab.slot (h : Tab w hb r rs) {k : Nat} (hk : k < 1024) : w.cell? ⟨hb, 1 + k, none⟩ = some (.string (rs.getD k ByteArray.empty)) := by
  rw [cell_of_row w hb (1 + k) _ _ _ h.2]
  have : k < rs.length := by have := h.1; omega
  simp [Nat.add_comm 1 k, List.getD, this]
theorem Tab.frozen (h : Tab w hb r rs) (k : Nat) : w.frozen? ⟨hb, k, none⟩ = false := frozen_of_row w hb k _ _ h.2
theorem Tab.setSlot (h : Tab w hb r rs) (k : Nat) (s : ByteArray) : Tab (w.setCell ⟨hb, 1 + k, none⟩ (.string s)) hb r (rs.set k s) := by
  refine ⟨by simpa using h.1, ?_⟩
  rw [heap_setCell_same w hb (1 + k) _ _ _ h.2]
  congr 2
  rw [Nat.add_comm 1 k]
  simp [List.map_set]
theorem Tab.setMap (h : Tab w hb r rs) (r' : Option Nat) : Tab (w.setCell ⟨hb, 0, none⟩ (.map r')) hb r' rs := by
  refine ⟨h.1, ?_⟩
  rw [heap_setCell_same w hb 0 _ _ _ h.2]
  simp
theorem Tab.kept {w' : World} {row : Option Nat} (h : Tab w hb r rs) (hg : w.grownBy w' row) (hne : some hb ≠ row) : Tab w' hb r rs :=
  ⟨h.1, by rw [hg.block hb h.lt hne]; exact h.2⟩
theorem Tab.ne_map {e : TypeId} {mb n : Nat} {f : ByteArray → Option Value} (h : Tab w hb r rs) (hM : SMap Try.prog e w mb f n) : mb ≠ hb := by
  rintro rfl
  obtain ⟨D, ⟨es, clock, h1, _⟩, _⟩ := hM
  rw [h.2] at h1
  cases h1
end

/-- Each of ks at itself. -/
def inB (ks : List ByteArray) (s : ByteArray) : Bool := ks.any fun k => decide (k = s)
theorem inB_iff {ks : List ByteArray} {s : ByteArray} : inB ks s = true ↔ s ∈ ks := by
  unfold inB
  rw [List.any_eq_true]
  constructor
  · rintro ⟨x, hx, e⟩
    have := of_decide_eq_true e
    subst this
    exact hx
  · intro h
    exact ⟨s, h, decide_eq_true rfl⟩
def selfMap (ks : List ByteArray) (s : ByteArray) : Option Value := if inB ks s then some (.string s) else none

/-- What the field byText leads to. -/
def MapF (w : World) (r : Option Nat) (ks : List ByteArray) : Prop := (r = none ∧ ks = []) ∨ ∃ mb, r = some mb ∧ SMap Try.prog 9 w mb (selfMap ks) ks.length

/-- w' is w but for new blocks and for what lies in the blocks of S. -/
structure Turn (S : Nat → Prop) (w w' : World) : Prop where
  os : w'.os = w.os
  tape : w'.tape = w.tape
  output : w'.output = w.output
  size : w.heap.size ≤ w'.heap.size
  block : ∀ k, k < w.heap.size → ¬ S k → w'.heap[k]? = w.heap[k]?

theorem Turn.refl (S : Nat → Prop) (w : World) : Turn S w w := ⟨rfl, rfl, rfl, Nat.le_refl _, fun _ _ _ => rfl⟩
theorem Turn.trans {S : Nat → Prop} {a b c : World} (h : Turn S a b) (k : Turn S b c) : Turn S a c :=
  ⟨k.os.trans h.os, k.tape.trans h.tape, k.output.trans h.output, Nat.le_trans h.size k.size, fun i hi hS => (k.block i (Nat.lt_of_lt_of_le hi h.size) hS).trans (h.block i hi hS)⟩
theorem Turn.drew {S : Nat → Prop} {a w : World} (h : Turn S a w) : Turn S a w.drew := ⟨h.os, h.tape, h.output, h.size, h.block⟩
theorem Turn.alloc {S : Nat → Prop} {a w : World} (h : Turn S a w) (o : Obj) : Turn S a (w.alloc o) :=
  h.trans ⟨rfl, rfl, rfl, by simp, fun k hk _ => Below.heap_alloc _ _ _ hk⟩
theorem Turn.setCell {S : Nat → Prop} {a w : World} (h : Turn S a w) {p : Addr} (hp : S p.block) (u : Value) : Turn S a (w.setCell p u) :=
  h.trans ⟨rfl, rfl, rfl, by simp [World.setCell], fun k _ hk => Below.heap_setCell _ _ _ _ (fun e => hk (e ▸ hp))⟩
theorem Turn.grown {S : Nat → Prop} {a w w' : World} {row : Option Nat} (h : Turn S a w) (hg : w.grownBy w' row) (hr : ∀ k, row = some k → k < a.heap.size → S k) : Turn S a w' :=
  ⟨hg.os.trans h.os, hg.tape.trans h.tape, hg.output.trans h.output, Nat.le_trans h.size hg.size, fun k hk hS => (hg.block k (Nat.lt_of_lt_of_le hk h.size) (fun e => hS (hr k e.symm hk))).trans (h.block k hk hS)⟩
theorem Turn.row {S : Nat → Prop} {w w' : World} (h : Turn S w w') {a : Option Addr} {len cap : Nat} {zs : List Int} (hr : Row w a len cap zs) (hS : ∀ ad, a = some ad → 0 < len → ¬ S ad.block) : Row w' a len cap zs := by
  obtain ⟨h1, h2, h3, h4⟩ := hr
  refine ⟨h1, h2, h3, fun hp => ?_⟩
  obtain ⟨b, o, e, hlt, hc⟩ := h4 hp
  exact ⟨b, o, e, Nat.lt_of_lt_of_le hlt h.size, fun t ht => (World.cell?_of_block (w := w) (h.block b hlt (hS _ e hp))).trans (hc t ht)⟩

end Go.Proofs.Qxb6606338a
