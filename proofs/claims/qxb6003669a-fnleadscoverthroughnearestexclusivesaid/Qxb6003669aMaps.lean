import Derived.WalkSpells
import Derived.Test.Qxb6003669aWalkD
import Derived.Maps.OwnSet
namespace Go.Proofs.Qxb6003669a
open Go.RowKit Go.Maps Go.WideMaps

section
variable {P : Program} {e t : TypeId} {w : World} {mb n : Nat} {f : ByteArray → Option Value}

/-- Block mb is a map keyed by strings: n entries; at each key the value that f says. -/
def SMap (P : Program) (e : TypeId) (w : World) (mb : Nat) (f : ByteArray → Option Value) (n : Nat) : Prop :=
  ∃ D : DataW Unit, w.ownsMap P 9 (plainElem P e) mb n D ∧ Maps.size D = n ∧ ∀ s : ByteArray, s.size ≤ maxLen →
    (f s = none → Maps.has D (.string s.data.toList) = false) ∧ ∀ v, f s = some v → Maps.has D (.string s.data.toList) = true ∧ ∃ d, plainElem (H := Unit) P e v = some (d, []) ∧ ∀ z, D.atKey (.string s.data.toList) z = d

/-- Elements that read alike are one. -/
def Apart (P : Program) (e : TypeId) : Prop := ∀ (v v' : Value) (d : DataW Unit) ps ps', plainElem P e v = some (d, ps) → plainElem P e v' = some (d, ps') → v = v'

theorem apart_string (he : P.underlying e = some .string) : Apart P e := by
  intro v v' d ps ps' h h'
  obtain ⟨s, rfl, h1, _⟩ := plainElem_string_inv he h
  obtain ⟨s', rfl, h2, _⟩ := plainElem_string_inv he h'
  simp only [Prod.mk.injEq] at h1 h2
  have h3 := h1.1.symm.trans h2.1
  injection h3 with h3
  injection h3 with h3
  congr 1
  obtain ⟨⟨l⟩⟩ := s
  obtain ⟨⟨l'⟩⟩ := s'
  simp at h3
  rw [h3]

theorem apart_int {q : IntKind} (he : P.underlying e = some (.int q)) : Apart P e := by
  intro v v' d ps ps' h h'
  obtain ⟨s, rfl, h1, _⟩ := plainElem_int_inv he h
  obtain ⟨s', rfl, h2, _⟩ := plainElem_int_inv he h'
  simp only [Prod.mk.injEq] at h1 h2
  have h3 := h1.1.symm.trans h2.1
  injection h3 with h3
  injection h3 with _ h3
  rw [h3]

theorem shrink {D : DataW Unit} {N : Nat} (h : w.ownsMap P 9 (plainElem P e) mb N D) : w.ownsMap P 9 (plainElem P e) mb (Maps.size D) D := by
  obtain ⟨es, clock, hb, F, _, rfl⟩ := h
  refine ⟨es, clock, hb, F, ?_, rfl⟩
  simp [Maps.size, length_sorted]

theorem SMap.made (w : World) : SMap P e (w.alloc (.map #[] 0)) w.heap.size (fun _ => none) 0 :=
  ⟨.map [], World.ownsMap_made _ _ _ _, rfl, fun _ _ => ⟨fun _ => rfl, fun _ h => by cases h⟩⟩

theorem SMap.lt (h : SMap P e w mb f n) : mb < w.heap.size := by
  obtain ⟨D, h1, _⟩ := h; exact h1.lt

theorem SMap.kept {w' : World} {row : Option Nat} (h : SMap P e w mb f n) (hg : w.grownBy w' row) (hne : some mb ≠ row) : SMap P e w' mb f n := by
  obtain ⟨D, h1, h2⟩ := h; exact ⟨D, h1.kept hg hne, h2⟩

theorem SMap.look (h : SMap P e w mb f n) (hk : P.underlying 9 = some .string) (ht : P.underlying t = some (.map 9 e)) (hA : Apart P e) {z : Value} (hz : (zeroValue e).run P w = .ok z w) {zd : DataW Unit} (hzd : plainElem P e z = some (zd, []))
    {s : ByteArray} (hs : s.size ≤ maxLen) : (Instr.lookup t (.map (some mb)) (.string s) true).run P w = .ok (.tuple #[(f s).getD z, .bool (f s).isSome]) w := by
  obtain ⟨D, h1, _, h3⟩ := h
  obtain ⟨v, ps, hrun, hv⟩ := h1.look_ok (string_keyed hk) ht hz hzd (keyOf_string_mk hk hs)
  obtain ⟨g1, g2⟩ := h3 s hs
  rw [hrun]
  cases hf : f s with
  | none =>
    have hh := g1 hf
    rw [atKey_of_not_has hh] at hv
    rw [hh, hA _ _ _ _ _ hv hzd]
    rfl
  | some u =>
    obtain ⟨hh, d, hd, hat⟩ := g2 u hf
    rw [hat] at hv
    rw [hh, hA _ _ _ _ _ hv hd]
    rfl

theorem SMap.look1 (h : SMap P e w mb f n) (hk : P.underlying 9 = some .string) (ht : P.underlying t = some (.map 9 e)) (hA : Apart P e) {z : Value} (hz : (zeroValue e).run P w = .ok z w) {zd : DataW Unit} (hzd : plainElem P e z = some (zd, []))
    {s : ByteArray} (hs : s.size ≤ maxLen) : (Instr.lookup t (.map (some mb)) (.string s) false).run P w = .ok ((f s).getD z) w := by
  obtain ⟨D, h1, _, h3⟩ := h
  obtain ⟨v, ps, hrun, hv⟩ := h1.lookup (string_keyed hk) ht hz hzd (keyOf_string_mk hk hs)
  obtain ⟨g1, g2⟩ := h3 s hs
  rw [hrun]
  cases hf : f s with
  | none =>
    have hh := g1 hf
    rw [atKey_of_not_has hh] at hv
    rw [hA _ _ _ _ _ hv hzd]
    rfl
  | some u =>
    obtain ⟨hh, d, hd, hat⟩ := g2 u hf
    rw [hat] at hv
    rw [hA _ _ _ _ _ hv hd]
    rfl

theorem SMap.len (h : SMap P e w mb f n) (ht : P.underlying t = some (.map 9 e)) (ty : TypeId) : (Builtin.len_ #[t] ty #[.map (some mb)]).run P w = .ok (.int .i64 n) w := by
  obtain ⟨D, h1, h2, _⟩ := h
  rw [h1.len ht ty, h2]

theorem SMap.store (h : SMap P e w mb f n) (hk : P.underlying 9 = some .string) (ht : P.underlying t = some (.map 9 e)) (hn : n < maxLen) {s : ByteArray} (hs : s.size ≤ maxLen) {v : Value} {d : DataW Unit} (hv : plainElem P e v = some (d, [])) :
    ∃ w', (Instr.mapUpdate t (.map (some mb)) (.string s) v).run P w = .ok () w' ∧ SMap P e w' mb (fun s' => if s' = s then some v else f s') (if (f s).isSome then n else n + 1) ∧ w.grownBy w' (some mb) := by
  obtain ⟨D, h1, h2, h3⟩ := h
  obtain ⟨w', hrun, h4, h5⟩ := h1.store (string_keyed hk) ht hn (keyOf_string_mk hk hs) hv
  have hkl : WideAt.IsKeyLit (.string s.data.toList) := by simp [WideAt.IsKeyLit]
  have hsz : Maps.size (D.put (.string s.data.toList) d) = if (f s).isSome then n else n + 1 := by
    rw [size_put (h1.tidy (string_keyed hk)), h2]
    cases hf : f s with
    | none => rw [(h3 s hs).1 hf]; rfl
    | some u => rw [((h3 s hs).2 u hf).1]; rfl
  refine ⟨w', hrun, ⟨D.put (.string s.data.toList) d, by rw [← hsz]; exact shrink h4, hsz, fun s' hs' => ?_⟩, h5.grown⟩
  by_cases hss : s' = s
  · subst hss
    refine ⟨fun h => by simp at h, fun u hu => ?_⟩
    simp only [if_true, Option.some.injEq] at hu
    subst hu
    exact ⟨has_put_same h1.isMap hkl d, d, hv, fun z => atKey_put_same h1.isMap hkl d z⟩
  · have hne : Lit.string s'.data.toList ≠ Lit.string s.data.toList := fun h => hss (data_inj (by injection h))
    simp only [if_neg hss]
    obtain ⟨g1, g2⟩ := h3 s' hs'
    refine ⟨fun h => by rw [has_put_other hne]; exact g1 h, fun u hu => ?_⟩
    obtain ⟨k1, d', k2, k3⟩ := g2 u hu
    exact ⟨by rw [has_put_other hne]; exact k1, d', k2, fun z => by rw [atKey_put_other hne]; exact k3 z⟩

end
theorem SMap.drew {P : Program} {e : TypeId} {w : World} {mb n : Nat} {f : ByteArray → Option Value} (h : SMap P e w mb f n) : SMap P e w.drew mb f n := h
theorem SMap.setCell {P : Program} {e : TypeId} {w : World} {mb n : Nat} {f : ByteArray → Option Value} (h : SMap P e w mb f n) {ad : Addr} (hne : mb ≠ ad.block) (u : Value) : SMap P e (w.setCell ad u) mb f n := by
  obtain ⟨D, h1, h2⟩ := h; exact ⟨D, h1.setCell hne u, h2⟩
theorem SMap.congr {P : Program} {e : TypeId} {w : World} {mb n n' : Nat} {f f' : ByteArray → Option Value} (h : SMap P e w mb f n) (hf : ∀ s, f s = f' s) (hn : n = n') : SMap P e w mb f' n' := by
  obtain rfl : f = f' := funext hf
  subst hn
  exact h

theorem grown_undrew {w w' : World} {row : Option Nat} (h : w.drew.grownBy w' row) : w.grownBy w' row := ⟨h.os, h.tape, h.output, h.size, h.block⟩

/-- 'm[k] = v' at the operation. -/
theorem wpList_put {P : Program} (w : World) {ops : Array Oper} {rest : List Oper} {o : Oper} {a : Act} {Q : Exit → Act → World → Prop}
    (hg : o.guard = none) (m x v : Operand) (t : TypeId) (hop : o.op = Op.mapUpdate t m x v) (e : TypeId) (hk : P.underlying 9 = some .string) (ht : P.underlying t = some (.map 9 e)) (mb n : Nat) (f : ByteArray → Option Value)
    (hm : a.eval m = .map (some mb)) (hS : SMap P e w mb f n) (hn : n < maxLen) (s : ByteArray) (val : Value) (d : DataW Unit) (hx : a.eval x = .string s) (hs : s.size ≤ maxLen) (hv : a.eval v = val) (hval : plainElem P e val = some (d, []))
    (hK : ∀ w', SMap P e w' mb (fun s' => if s' = s then some val else f s') (if (f s).isSome then n else n + 1) → w.grownBy w' (some mb) → wpList P ops Q rest (a.put o.dst undef) w') :
    wpList P ops Q (o :: rest) a w := by
  refine wpList_plain hg fun K' hK' => ?_
  obtain ⟨w', hrun, r1, r2⟩ := hS.store hk ht hn hs hval
  unfold Oper.wp
  simp [execOp, hop, hm, hx, hv, hrun, Result.andThen]
  exact hK' _ _ (hK w' r1 r2)

end Go.Proofs.Qxb6003669a
