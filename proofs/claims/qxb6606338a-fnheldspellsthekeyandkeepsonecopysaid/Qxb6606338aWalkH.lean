import Derived.Test.Qxb6606338aTab
namespace Go.Proofs.Qxb6606338a
open Go.RowKit Go.Maps Go.WideMaps

theorem SMap.drew {P : Program} {e : TypeId} {w : World} {mb n : Nat} {f : ByteArray → Option Value} (h : SMap P e w mb f n) : SMap P e w.drew mb f n := h
theorem Tab.drew {w : World} {hb : Nat} {r : Option Nat} {rs : List ByteArray} (h : Tab w hb r rs) : Tab w.drew hb r rs := h
theorem SMap.setCell {P : Program} {e : TypeId} {w : World} {mb n : Nat} {f : ByteArray → Option Value} (h : SMap P e w mb f n) {ad : Addr} (hne : mb ≠ ad.block) (u : Value) : SMap P e (w.setCell ad u) mb f n := by
  obtain ⟨D, h1, h2⟩ := h; exact ⟨D, h1.setCell hne u, h2⟩
theorem SMap.congr {P : Program} {e : TypeId} {w : World} {mb n n' : Nat} {f f' : ByteArray → Option Value} (h : SMap P e w mb f n) (hf : ∀ s, f s = f' s) (hn : n = n') : SMap P e w mb f' n' := by
  obtain rfl : f = f' := funext hf
  subst hn
  exact h

theorem grown_undrew {w w' : World} {row : Option Nat} (h : w.drew.grownBy w' row) : w.grownBy w' row := ⟨h.os, h.tape, h.output, h.size, h.block⟩

/-- 'm[k] = v' at the operation. -/
theorem wpList_put {P : Program} (w : World) {ops : Array Oper} {rest : List Oper} {o : Oper} {a : Act} {Q : Exit → Act → World → Prop}
    (hg : o.guard = none) (m x v : Operand) (t : TypeId) (hop : o.op = Op.mapUpdate t m x v) (e : TypeId) (hk : P.underlying 9 = some .string) (ht : P.underlying t = some (.map 9 e)) (mb n : Nat) (f : ByteArray → Option Value)
    (hm : a.eval m = .map (some mb)) (hS : SMap P e w mb f n) (hn : n < maxLen) (s : ByteArray) (val : Value) (d : DataW Unit) (hx : a.eval x = .string s) (hs : s.size ≤ maxLen) (hv : a.eval v = val) (hval : plainElem P e val = some (d, []))
    (hK : ∀ w', SMap P e w' mb (fun s' => if s' = s then some val else f s') (if (f s).isSome then n else n + 1) → w.grownBy w' (some mb) → wpList P ops Q rest (a.put o.dst undef) w') :
    wpList P ops Q (o :: rest) a w := by
  refine wpList_plain hg fun K' hK' => ?_
  obtain ⟨w', hrun, r1, r2⟩ := hS.store hk ht hn hs hval
  unfold Oper.wp
  simp [execOp, hop, hm, hx, hv, hrun, Result.andThen]
  exact hK' _ _ (hK w' r1 r2)

theorem zero9 (w : World) : (zeroValue 9).run Try.prog w = .ok (.string ByteArray.empty) w := by kernel_rfl
theorem elem9 {s : ByteArray} (hs : s.size ≤ maxLen) : plainElem (H := Unit) Try.prog 9 (.string s) = some (.lit (.string s.data.toList), []) := plainElem_string Try.underlying9 hs

/-- The slot of the small table that bytes go to. -/
def slotAt (len : Nat) (x y : Int) : Nat := (((len : Int) * 31 + x * 7 + y) % 1024).toNat
theorem slotAt_lt (len : Nat) (x y : Int) : slotAt len x y < 1024 := by unfold slotAt; omega

set_option maxHeartbeats 400000 in
/-- held at no byte or at more than 64. -/
theorem held_long (hb : Nat) (a : Option Addr) (len cap : Nat) (zs : List Int) (w : World) (h : Row w a len cap zs) (hm : len ≤ 1048576) (hl : len = 0 ∨ 64 < len) :
    Calls Try.prog 19 #[.pointer (some ⟨hb, 0, none⟩), .slice a len cap] w fun e w' => e = .returned (.string (strOf zs)) ∧ w' = w := by
  have hc := conv_run h
  rcases hl with rfl | hl
  · go_enter Try.func19, Try.ntmps19
    go_wp2
    go_ret
    exact ⟨rfl, rfl⟩
  · go_enter Try.func19, Try.ntmps19
    go_wp2
    go_ret
    exact ⟨rfl, rfl⟩

section
variable (hb : Nat) (b o len cap : Nat) (s : ByteArray) (x y : Int) (w : World)

set_option maxHeartbeats 800000 in
theorem held_hit (hm : 1 ≤ len) (hl : len ≤ 64) (hx : 0 ≤ x ∧ x ≤ 255) (hy : 0 ≤ y ∧ y ≤ 255)
    (hc2 : (convert 24 9 (.slice (some ⟨b, o, none⟩) len cap)).run Try.prog w.drew.drew = .ok (.string s) w.drew.drew)
    (cx : w.cell? ⟨b, o, none⟩ = some (.int .u8 x)) (cy : w.cell? ⟨b, o + (len - 1), none⟩ = some (.int .u8 y))
    (cs : w.cell? ⟨hb, 1 + (((len : Int) * 31 + x * 7 + y) % 1024).toNat, none⟩ = some (.string s)) :
    Calls Try.prog 19 #[.pointer (some ⟨hb, 0, none⟩), .slice (some ⟨b, o, none⟩) len cap] w fun e w' => e = .returned (.string s) ∧ w' = w.drew.drew := by
  obtain ⟨hx0, hx1⟩ := hx
  obtain ⟨hy0, hy1⟩ := hy
  have hd0 : ((len : Int) == 0) = false := by simp only [beq_eq_false_iff_ne, ne_eq]; omega
  go_enter Try.func19, Try.ntmps19
  go_wp2
  go_region
  all_goals go_wp2
  go_region
  all_goals go_wp2
  go_ret
  exact ⟨rfl, rfl⟩

set_option maxHeartbeats 1600000 in
set_option maxRecDepth 100000 in
/-- The slot holds another, the map has the key, or is full. -/
theorem held_store (mv : Value) (q : ByteArray) (n : Nat) (had : Bool) (hm : 1 ≤ len) (hl : len ≤ 64) (hx : 0 ≤ x ∧ x ≤ 255) (hy : 0 ≤ y ∧ y ≤ 255)
    (hc2 : (convert 24 9 (.slice (some ⟨b, o, none⟩) len cap)).run Try.prog w.drew.drew = .ok (.string s) w.drew.drew)
    (hc3 : (convert 24 9 (.slice (some ⟨b, o, none⟩) len cap)).run Try.prog w.drew.drew.drew = .ok (.string s) w.drew.drew.drew)
    (cx : w.cell? ⟨b, o, none⟩ = some (.int .u8 x)) (cy : w.cell? ⟨b, o + (len - 1), none⟩ = some (.int .u8 y))
    (cs : w.cell? ⟨hb, 1 + (((len : Int) * 31 + x * 7 + y) % 1024).toNat, none⟩ = some (.string q)) (hq : (q.toList == s.toList) = false)
    (fs : w.frozen? ⟨hb, 1 + (((len : Int) * 31 + x * 7 + y) % 1024).toNat, none⟩ = false)
    (cm : w.cell? ⟨hb, 0, none⟩ = some mv)
    (hlk : (Instr.lookup 29 mv (.string s) true).run Try.prog w.drew.drew.drew = .ok (.tuple #[.string (if had then s else ByteArray.empty), .bool had]) w.drew.drew.drew)
    (hln : ∀ ty, (Builtin.len_ #[29] ty #[mv]).run Try.prog w.drew.drew.drew = .ok (.int .i64 n) w.drew.drew.drew) (hn : had = true ∨ 4096 ≤ n) :
    Calls Try.prog 19 #[.pointer (some ⟨hb, 0, none⟩), .slice (some ⟨b, o, none⟩) len cap] w fun e w' => e = .returned (.string s) ∧ w' = (w.setCell ⟨hb, 1 + (((len : Int) * 31 + x * 7 + y) % 1024).toNat, none⟩ (.string s)).drew.drew.drew := by
  obtain ⟨hx0, hx1⟩ := hx
  obtain ⟨hy0, hy1⟩ := hy
  have hd0 : ((len : Int) == 0) = false := by simp only [beq_eq_false_iff_ne, ne_eq]; omega
  cases had with
  | true =>
    simp only [if_true] at hlk
    go_enter Try.func19, Try.ntmps19
    go_wp2
    go_region
    all_goals go_wp2
    go_region
    all_goals go_wp2
    go_region
    all_goals go_wp2
    go_ret
    exact ⟨rfl, rfl⟩
  | false =>
    have hn' : 4096 ≤ n := by simpa using hn
    simp only [Bool.false_eq_true, if_false] at hlk
    clear hn
    go_enter Try.func19, Try.ntmps19
    go_wp2
    go_region
    all_goals go_wp2
    go_region
    all_goals go_wp2
    go_region
    all_goals go_wp2
    go_ret
    exact ⟨rfl, rfl⟩

set_option maxHeartbeats 1600000 in
set_option maxRecDepth 100000 in
/-- The slot holds another; the map lacks the key and has room. -/
theorem held_add (mb : Nat) (q : ByteArray) (n : Nat) (f : ByteArray → Option Value) (hm : 1 ≤ len) (hl : len ≤ 64) (hx : 0 ≤ x ∧ x ≤ 255) (hy : 0 ≤ y ∧ y ≤ 255)
    (hc2 : (convert 24 9 (.slice (some ⟨b, o, none⟩) len cap)).run Try.prog w.drew.drew = .ok (.string s) w.drew.drew)
    (hc3 : (convert 24 9 (.slice (some ⟨b, o, none⟩) len cap)).run Try.prog w.drew.drew.drew = .ok (.string s) w.drew.drew.drew)
    (cx : w.cell? ⟨b, o, none⟩ = some (.int .u8 x)) (cy : w.cell? ⟨b, o + (len - 1), none⟩ = some (.int .u8 y))
    (cs : w.cell? ⟨hb, 1 + (((len : Int) * 31 + x * 7 + y) % 1024).toNat, none⟩ = some (.string q)) (hq : (q.toList == s.toList) = false)
    (fs : w.frozen? ⟨hb, 1 + (((len : Int) * 31 + x * 7 + y) % 1024).toNat, none⟩ = false)
    (cm : w.cell? ⟨hb, 0, none⟩ = some (.map (some mb))) (hne : hb ≠ mb) (hbl : hb < w.heap.size) (hS : SMap Try.prog 9 w mb f n) (hf : f s = none) (hs : s.size ≤ maxLen) (hn : n < 4096) :
    Calls Try.prog 19 #[.pointer (some ⟨hb, 0, none⟩), .slice (some ⟨b, o, none⟩) len cap] w fun e w' => e = .returned (.string s) ∧ ∃ w1, w.grownBy w1 (some mb) ∧ SMap Try.prog 9 w1 mb (fun s' => if s' = s then some (.string s) else f s') (n + 1) ∧ w' = w1.setCell ⟨hb, 1 + (((len : Int) * 31 + x * 7 + y) % 1024).toNat, none⟩ (.string s) := by
  obtain ⟨hx0, hx1⟩ := hx
  obtain ⟨hy0, hy1⟩ := hy
  have hd0 : ((len : Int) == 0) = false := by simp only [beq_eq_false_iff_ne, ne_eq]; omega
  have hlk : (Instr.lookup 29 (.map (some mb)) (.string s) true).run Try.prog w.drew.drew.drew = .ok (.tuple #[.string ByteArray.empty, .bool false]) w.drew.drew.drew := by
    have := hS.drew.drew.drew.look Try.underlying9 Try.underlying29 (apart_string Try.underlying9) (zero9 _) (elem9 (by simp [maxLen])) hs
    rw [hf] at this
    exact this
  have hln := fun ty => hS.drew.drew.drew.len Try.underlying29 ty
  have hnil := run_eql_map_nil (P := Try.prog) w.drew.drew.drew 29 9 9 (some mb) Try.underlying29
  have HS : Hid (SMap Try.prog 9 w mb f n) := hS
  have HF : Hid (f s = none) := hf
  clear hS hf
  go_enter Try.func19, Try.ntmps19
  go_wp2
  go_region
  all_goals go_wp2
  go_region
  all_goals go_wp2
  go_region
  all_goals go_wp2_with (at_mapUpdate; refine wpList_put _ rfl _ _ _ 29 rfl 9 Try.underlying9 Try.underlying29 mb n f rfl HS.out.drew.drew.drew (by unfold maxLen; omega) s (.string s) _ rfl hs rfl (elem9 hs) ?_; intro w1 hS1 hg1; have hcs1 := hg1.cell cs (fun e => hne (Option.some.inj e)); have hfs1 := (World.frozen?_of_block (w := w) (hg1.block hb hbl (fun e => hne (Option.some.inj e)))).trans fs)
  go_ret
  rw [HF.out] at hS1
  exact ⟨rfl, w1, grown_undrew (grown_undrew (grown_undrew hg1)), hS1, rfl⟩

set_option maxHeartbeats 1600000 in
set_option maxRecDepth 100000 in
/-- The slot holds another; there is no map yet. -/
theorem held_first (q : ByteArray) (hm : 1 ≤ len) (hl : len ≤ 64) (hx : 0 ≤ x ∧ x ≤ 255) (hy : 0 ≤ y ∧ y ≤ 255)
    (hc2 : (convert 24 9 (.slice (some ⟨b, o, none⟩) len cap)).run Try.prog w.drew.drew = .ok (.string s) w.drew.drew)
    (hc3 : (convert 24 9 (.slice (some ⟨b, o, none⟩) len cap)).run Try.prog w.drew.drew.drew = .ok (.string s) w.drew.drew.drew)
    (cx : w.cell? ⟨b, o, none⟩ = some (.int .u8 x)) (cy : w.cell? ⟨b, o + (len - 1), none⟩ = some (.int .u8 y))
    (cs : w.cell? ⟨hb, 1 + (((len : Int) * 31 + x * 7 + y) % 1024).toNat, none⟩ = some (.string q)) (hq : (q.toList == s.toList) = false)
    (fs : w.frozen? ⟨hb, 1 + (((len : Int) * 31 + x * 7 + y) % 1024).toNat, none⟩ = false)
    (cm : w.cell? ⟨hb, 0, none⟩ = some (.map none)) (fm : w.frozen? ⟨hb, 0, none⟩ = false) (hbl : hb < w.heap.size) (hs : s.size ≤ maxLen) :
    Calls Try.prog 19 #[.pointer (some ⟨hb, 0, none⟩), .slice (some ⟨b, o, none⟩) len cap] w fun e w' => e = .returned (.string s) ∧ ∃ w1, ((w.setCell ⟨hb, 0, none⟩ (.map (some w.heap.size))).alloc (.map #[] 0)).grownBy w1 (some w.heap.size) ∧ SMap Try.prog 9 w1 w.heap.size (fun s' => if s' = s then some (.string s) else none) 1 ∧ w' = w1.setCell ⟨hb, 1 + (((len : Int) * 31 + x * 7 + y) % 1024).toNat, none⟩ (.string s) := by
  obtain ⟨hx0, hx1⟩ := hx
  obtain ⟨hy0, hy1⟩ := hy
  have hd0 : ((len : Int) == 0) = false := by simp only [beq_eq_false_iff_ne, ne_eq]; omega
  have hlk : (Instr.lookup 29 (.map none) (.string s) true).run Try.prog w.drew.drew.drew = .ok (.tuple #[.string ByteArray.empty, .bool false]) w.drew.drew.drew :=
    Maps.look_nil true (string_keyed Try.underlying9) Try.underlying29 (zero9 _) (keyOf_string_mk Try.underlying9 hs)
  have hln := fun ty => Maps.len_nil (P := Try.prog) (w := w.drew.drew.drew) Try.underlying29 ty
  have hnil := run_eql_map_nil (P := Try.prog) w.drew.drew.drew 29 9 9 none Try.underlying29
  have hmm := @run_makeMap Try.prog
  have hsz : (w.setCell ⟨hb, 0, none⟩ (.map (some w.heap.size))).heap.size = w.heap.size := by simp [World.setCell]
  have hS0 : SMap Try.prog 9 ((w.setCell ⟨hb, 0, none⟩ (.map (some w.heap.size))).alloc (.map #[] 0)) w.heap.size (fun _ => none) 0 := by
    have := SMap.made (P := Try.prog) (e := 9) (w.setCell ⟨hb, 0, none⟩ (.map (some w.heap.size)))
    rw [hsz] at this
    exact this
  have HS : Hid (SMap Try.prog 9 ((w.setCell ⟨hb, 0, none⟩ (.map (some w.heap.size))).alloc (.map #[] 0)) w.heap.size (fun _ => none) 0) := hS0
  have hcs0 : ((w.setCell ⟨hb, 0, none⟩ (.map (some w.heap.size))).alloc (.map #[] 0)).cell? ⟨hb, 1 + (((len : Int) * 31 + x * 7 + y) % 1024).toNat, none⟩ = some (.string q) := by
    rw [World.cell?_of_block (w := w.setCell ⟨hb, 0, none⟩ (.map (some w.heap.size))) (Below.heap_alloc _ _ hb (by rw [hsz]; exact hbl))]
    rw [← cs]
    apply World.cell?_setCell_other
    intro e
    have h0 : 0 = 1 + (((len : Int) * 31 + x * 7 + y) % 1024).toNat := congrArg Addr.off e
    omega
  have hfs0 : ((w.setCell ⟨hb, 0, none⟩ (.map (some w.heap.size))).alloc (.map #[] 0)).frozen? ⟨hb, 1 + (((len : Int) * 31 + x * 7 + y) % 1024).toNat, none⟩ = false := by
    rw [World.frozen?_of_block (w := w.setCell ⟨hb, 0, none⟩ (.map (some w.heap.size))) (Below.heap_alloc _ _ hb (by rw [hsz]; exact hbl))]
    rw [World.frozen?_setCell]
    exact fs
  have HC : Hid (((w.setCell ⟨hb, 0, none⟩ (.map (some w.heap.size))).alloc (.map #[] 0)).cell? ⟨hb, 1 + (((len : Int) * 31 + x * 7 + y) % 1024).toNat, none⟩ = some (.string q)) := hcs0
  have HFz : Hid (((w.setCell ⟨hb, 0, none⟩ (.map (some w.heap.size))).alloc (.map #[] 0)).frozen? ⟨hb, 1 + (((len : Int) * 31 + x * 7 + y) % 1024).toNat, none⟩ = false) := hfs0
  clear hcs0 hfs0 hsz
  clear hS0
  go_enter Try.func19, Try.ntmps19
  go_wp2
  go_region
  all_goals go_wp2
  go_region
  all_goals go_wp2
  go_region
  all_goals go_wp2_with (at_mapUpdate; refine wpList_put _ rfl _ _ _ 29 rfl 9 Try.underlying9 Try.underlying29 w.heap.size 0 (fun _ => none) rfl HS.out.drew.drew.drew (by unfold maxLen; omega) s (.string s) _ rfl hs rfl (elem9 hs) ?_; intro w1 hS1 hg1; have hcs1 := (grown_undrew (grown_undrew (grown_undrew hg1))).cell HC.out (fun e => by have := Option.some.inj e; simp at this; omega); have hfs1 := (World.frozen?_of_block (a := ⟨hb, 1 + (((len : Int) * 31 + x * 7 + y) % 1024).toNat, none⟩) ((grown_undrew (grown_undrew (grown_undrew hg1))).block hb (by simp [World.setCell]; omega) (fun e => by have := Option.some.inj e; omega))).trans HFz.out)
  go_ret
  exact ⟨rfl, w1, grown_undrew (grown_undrew (grown_undrew hg1)), hS1.congr (fun _ => rfl) (by simp), rfl⟩
end
end Go.Proofs.Qxb6606338a
