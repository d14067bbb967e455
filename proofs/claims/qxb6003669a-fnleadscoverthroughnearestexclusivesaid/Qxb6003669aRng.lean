import Derived.Test.Qxb6003669aNum
import Derived.Maps.RangeWalk
import Derived.Sort.KeysCollected
namespace Go.Proofs.Qxb6003669a
open Go.RowKit Go.Maps Go.WideMaps

theorem law9 : Keyed Try.prog 9 := string_keyed Try.underlying9

/-- A range over the holders is under way: seen: the keys that have come. -/
def Going (w : World) (mb r N : Nat) (f : ByteArray → Option Value) (seen : ByteArray → Prop) (cnt : Nat) : Prop :=
  ∃ (D : DataW Unit) (left : Lit → Bool), w.ranges Try.prog 9 (plainElem Try.prog 44) mb r N D left cnt ∧ (∀ s : ByteArray, s.size ≤ maxLen →
    (f s = none → Maps.has D (.string s.data.toList) = false) ∧ ∀ v, f s = some v → Maps.has D (.string s.data.toList) = true ∧ ∃ d, plainElem (H := Unit) Try.prog 44 v = some (d, []) ∧ ∀ z, D.atKey (.string s.data.toList) z = d) ∧
    (∀ kl, left kl = true → Maps.has D kl = true) ∧ ∀ s : ByteArray, s.size ≤ maxLen → f s ≠ none → (seen s ↔ left (.string s.data.toList) = false)

theorem Going.left_eq {w : World} {mb r N cnt : Nat} {f : ByteArray → Option Value} {seen : ByteArray → Prop} (h : Going w mb r N f seen cnt) : w.rangeLeft mb r = cnt := by
  obtain ⟨D, left, h1, _⟩ := h; exact h1.left_eq
theorem Going.kept {w w' : World} {mb r N cnt : Nat} {f : ByteArray → Option Value} {seen : ByteArray → Prop} {row : Option Nat} (h : Going w mb r N f seen cnt) (hg : w.grownBy w' row) (h1 : some mb ≠ row) (h2 : some r ≠ row) : Going w' mb r N f seen cnt := by
  obtain ⟨D, left, k1, k2⟩ := h; exact ⟨D, left, k1.kept hg h1 h2, k2⟩
theorem Going.alloc {w : World} {mb r N cnt : Nat} {f : ByteArray → Option Value} {seen : ByteArray → Prop} (h : Going w mb r N f seen cnt) (o : Obj) : Going (w.alloc o) mb r N f seen cnt := h.kept (World.grownBy_alloc w o none) (by simp) (by simp)
theorem Going.ne_own {w : World} {mb r N cnt base n : Nat} {f : ByteArray → Option Value} {seen : ByteArray → Prop} {v : Value} {xs : List Value} {e : TypeId} (h : Going w mb r N f seen cnt) (ho : w.ownsRow base e 1 v n xs) : some mb ≠ v.ownBlock ∧ some r ≠ v.ownBlock := by
  obtain ⟨D, left, ⟨es, clock, since, sn, c0, hb, _, _, _, hr, _⟩, _⟩ := h
  constructor
  · intro e
    obtain ⟨cur, hc⟩ := own_block ho e.symm
    rw [hb] at hc; cases hc
  · intro e
    obtain ⟨cur, hc⟩ := own_block ho e.symm
    rw [hr] at hc; cases hc

/-- 'for .. := range m' begins. -/
theorem wpList_range_going {w : World} {ops : Array Oper} {rest : List Oper} {o : Oper} {a : Act} {Q : Exit → Act → World → Prop} (hg : o.guard = none) (m : Operand) (hop : o.op = Op.range 40 m) (mb N : Nat) (f : ByteArray → Option Value)
    (hm : a.eval m = .map (some mb)) (hS : SMap Try.prog 44 w mb f N)
    (hK : ∀ w' cnt, Going w' mb w.heap.size N f (fun _ => False) cnt → cnt ≤ N → w.grownBy w' none → wpList Try.prog ops Q rest (a.put o.dst (.pointer (some ⟨w.heap.size, 0, none⟩))) w') :
    wpList Try.prog ops Q (o :: rest) a w := by
  obtain ⟨D, h1, h2, h3⟩ := hS
  refine wpList_range_own w hg m 40 hop 9 44 law9 Try.underlying40 _ mb N D hm h1 ?_
  intro w' hr hgr _
  refine hK w' _ ⟨D, _, hr, h3, fun kl h => h, fun s hs hf => ⟨fun h => h.elim, fun h => ?_⟩⟩ (by omega) hgr
  obtain ⟨v, hv⟩ : ∃ v, f s = some v := by cases hh : f s with | none => exact absurd hh hf | some v => exact ⟨v, rfl⟩
  rw [((h3 s hs).2 v hv).1] at h
  cases h

/-- The step. -/
theorem wpList_next_going {w : World} {ops : Array Oper} {rest : List Oper} {o : Oper} {a : Act} {Q : Exit → Act → World → Prop} (hg : o.guard = none) (it : Operand) (hop : o.op = Op.next it false) (mb r N : Nat) (f : ByteArray → Option Value) (seen : ByteArray → Prop) (cnt : Nat)
    (hit : a.eval it = .pointer (some ⟨r, 0, none⟩)) (h : Going w mb r N f seen cnt)
    (hDone : (∀ s : ByteArray, s.size ≤ maxLen → f s ≠ none → seen s) → wpList Try.prog ops Q rest (a.put o.dst (.tuple #[.bool false])) w)
    (hMore : ∀ (s : ByteArray) (c : Int) (w' : World) (cnt' : Nat), s.size ≤ maxLen → f s = some (.int .i64 c) → Going w' mb r N f (fun x => seen x ∨ x = s) cnt' → cnt' < cnt →
      w.grownBy w' (some r) → (Instr.entry (.pointer (some ⟨r, 0, none⟩))).run Try.prog w' = .ok (.tuple #[.string s, .int .i64 c]) w' → wpList Try.prog ops Q rest (a.put o.dst (.tuple #[.bool true, .string s, .int .i64 c])) w') :
    wpList Try.prog ops Q (o :: rest) a w := by
  obtain ⟨D, left, h1, h2, h3, h4⟩ := h
  refine wpList_next_ranges w hg it hop 9 law9 (plainElem Try.prog 44) Value.string (Value.int .i64) (fun key kl hk => by obtain ⟨x, hx, _⟩ := Maps.keyOf_str Try.underlying9 hk; exact ⟨_, hx⟩) (fun v y hv => by obtain ⟨c, rfl, _⟩ := plainElem_int_inv Try.underlying44 hv; exact ⟨c, rfl⟩) mb r N D left cnt hit h1 ?_ ?_
  · intro _ hl
    exact hDone fun s hs hf => (h4 s hs hf).2 (hl _)
  · intro s c kl y w' cnt' hkey hlk hv hat hrg hlt hgr _ hen
    obtain ⟨l, hl, rfl, hsz⟩ := Maps.keyOf_str Try.underlying9 hkey
    have hsl : s.data.toList = l := by injection hl with hl; rw [hl]
    subst hsl
    have hs : s.size ≤ maxLen := by simpa using hsz
    have hf : f s = some (.int .i64 c) := by
      cases hh : f s with
      | none =>
        have := (h2 s hs).1 hh
        rw [h3 _ hlk] at this
        cases this
      | some v =>
        obtain ⟨_, d, hd, hz⟩ := (h2 s hs).2 v hh
        have e : y.1 = d := (hat .nil).symm.trans (hz .nil)
        have hv' : plainElem Try.prog 44 (Value.int IntKind.i64 c) = some (d, y.2) := by rw [hv, ← e]
        rw [apart_int Try.underlying44 _ _ _ _ _ hd hv']
    refine hMore s c w' cnt' hs hf ⟨D, _, hrg, h2, fun kl hk => h3 kl (by simp at hk; exact hk.1), fun s' hs' hf' => ?_⟩ hlt hgr hen
    have h5 := h4 s' hs' hf'
    constructor
    · rintro (h | rfl)
      · simp [h5.1 h]
      · have : Lit.sameKey (.string s'.data.toList) (.string s'.data.toList) = true := WideAt.sameKey_self (by simp [WideAt.IsKeyLit])
        simp [this]
    · intro h
      by_cases hl' : left (.string s'.data.toList) = false
      · exact .inl (h5.2 hl')
      · have hlt' : left (.string s'.data.toList) = true := by simpa using hl'
        right
        simp only [hlt', Bool.true_and, Bool.not_eq_false'] at h
        have := WideAt.sameKey_eq h
        exact data_inj (by injection this)
end Go.Proofs.Qxb6003669a
