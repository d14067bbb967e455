import Derived.Test.Qxb6003669aMaps
import Derived.Deep.RegionLaw
namespace Go.Proofs.Qxb6003669a
open Go.RowKit Go.Maps Go.WideMaps

theorem Try.info32 : (Try.prog.info? 32).map (fun i => (i.zero, i.size, i.bytes)) = some (some (.pointer none), 1, 8) := by kernel_rfl

def ptr (p : Nat) : Value := .pointer (some ⟨p, 0, none⟩)

/-- A request's cells. -/
def reqCells (t : ByteArray) (m k : Int) : List Value := [.string t, .string ByteArray.empty, .int .i64 m, .bool false, .int .u64 0, .int .i64 0, .int .i64 0, .int .i64 k]
def Req (w : World) (p : Nat) (t : ByteArray) (m k : Int) : Prop := w.heap[p]? = some (.cells (reqCells t m k).toArray 47 (0, 0))
/-- The resource's cells. -/
def ResB (w : World) (rb mb : Nat) (q : Value) : Prop := w.heap[rb]? = some (.cells [Value.map (some mb), q].toArray 43 (0, 0))

section
variable {w w' : World} {p rb mb : Nat} {t : ByteArray} {m k : Int} {q : Value}
theorem lt_of_heap {b : Nat} {o : Obj} (h : w.heap[b]? = some o) : b < w.heap.size := by
  apply Nat.lt_of_not_le
  intro hle
  rw [Array.getElem?_eq_none hle] at h
  cases h
theorem Req.lt (h : Req w p t m k) : p < w.heap.size := lt_of_heap h
theorem ResB.lt (h : ResB w rb mb q) : rb < w.heap.size := lt_of_heap h
theorem Req.txn (h : Req w p t m k) : w.cell? ⟨p, 0, none⟩ = some (.string t) := by rw [cell_of_row w p 0 _ _ _ h]; rfl
theorem Req.mode (h : Req w p t m k) : w.cell? ⟨p, 2, none⟩ = some (.int .i64 m) := by rw [cell_of_row w p 2 _ _ _ h]; rfl
theorem Req.at7 (h : Req w p t m k) : w.cell? ⟨p, 7, none⟩ = some (.int .i64 k) := by rw [cell_of_row w p 7 _ _ _ h]; rfl
theorem Req.frozen (h : Req w p t m k) (j : Nat) : w.frozen? ⟨p, j, none⟩ = false := frozen_of_row w p j _ _ h
theorem Req.set (h : Req w p t m k) (k' : Int) : Req (w.setCell ⟨p, 7, none⟩ (.int .i64 k')) p t m k' := by
  unfold Req
  rw [heap_setCell_same w p 7 _ _ _ h]
  rfl
theorem Req.kept {row : Option Nat} (h : Req w p t m k) (hg : w.grownBy w' row) (hne : some p ≠ row) : Req w' p t m k := by
  unfold Req; rw [hg.block p h.lt hne]; exact h
theorem ResB.map (h : ResB w rb mb q) : w.cell? ⟨rb, 0, none⟩ = some (.map (some mb)) := by rw [cell_of_row w rb 0 _ _ _ h]; rfl
theorem ResB.queue (h : ResB w rb mb q) : w.cell? ⟨rb, 1, none⟩ = some q := by rw [cell_of_row w rb 1 _ _ _ h]; rfl
theorem ResB.frozen (h : ResB w rb mb q) (j : Nat) : w.frozen? ⟨rb, j, none⟩ = false := frozen_of_row w rb j _ _ h
theorem ResB.set (h : ResB w rb mb q) (q' : Value) : ResB (w.setCell ⟨rb, 1, none⟩ q') rb mb q' := by
  unfold ResB
  rw [heap_setCell_same w rb 1 _ _ _ h]
  rfl
theorem ResB.kept {row : Option Nat} (h : ResB w rb mb q) (hg : w.grownBy w' row) (hne : some rb ≠ row) : ResB w' rb mb q := by
  unfold ResB; rw [hg.block rb h.lt hne]; exact h
end

/-- append onto a slice of the call's own, as one step of a region that draws. -/
theorem step_append_own {P : Program} {ops : Array Oper} {o : Oper} {a : Act} {w : World} {K : Act → World → Prop} {Q : Exit → Act → World → Prop} {E : Prop}
    (hg : o.guard = none) (s x : Operand) (t : TypeId) (hop : o.op = Op.call { callee := Callee.builtin Builtin.append, args := #[s, x], argTypes := #[t, t] })
    (base : Nat) (e : TypeId) (i : TypeInfo) (z : Value) (size bytes : Nat) (h1 : P.underlying t = some (.slice e)) (h2 : P.info? e = some i) (h3 : i.zero = some z) (h4 : i.size = size) (h5 : i.bytes = bytes) (h6 : z.cells.size = size) (h7 : 0 < size)
    (v : Value) (n : Nat) (xs : List Value) (hs : a.eval s = v) (hown : w.ownsRow base e size v n xs)
    (ad : Addr) (m c : Nat) (news : List Value) (hx : a.eval x = .slice (some ad) m c) (hn : news.length = m * size) (hc : ∀ j u, news[j]? = some u → w.cell? (ad.add j) = some u) (h1c : ∀ u ∈ news, u.oneCell' = true)
    (h63 : n + m ≤ maxLen) (hbytes : (n + m) * bytes ≤ 140737488355328) (hbase : base ≤ w.heap.size)
    (hK : ∀ v' w', w'.ownsRow base e size v' (n + m) (xs ++ news) → w.grownBy w' v.ownBlock → (v' = .slice none 0 0 ↔ v = .slice none 0 0 ∧ m = 0) → K (a.put o.dst v') w') :
    if Region.wanted o (yielded ops a.tmps) = true then Oper.wp P o a w K Q else E := by
  have hw : Region.wanted o (yielded ops a.tmps) = true := by simp [Region.wanted, hg]
  rw [if_pos hw]
  obtain ⟨v', w', hrun, r1, r2, r3⟩ := run_append_own (P := P) w base t o.type e i z size bytes h1 h2 h3 h4 h5 h6 h7 v n xs hown ad m c news hn hc h1c h63 hbytes hbase
  unfold Oper.wp
  simp [execOp, hop, resolve, invoke, builtin, hs, hx, hrun, Result.andThen]
  exact hK v' w' r1 r2 r3
end Go.Proofs.Qxb6003669a
