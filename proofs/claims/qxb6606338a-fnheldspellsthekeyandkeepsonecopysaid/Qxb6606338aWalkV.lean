import Derived.Test.Qxb6606338aWalkU
import Derived.Deep.MidRow
import Derived.Laws.CopyOwn
namespace Go.Proofs.Qxb6606338a
open Go.RowKit Go.Maps Go.WideMaps

/-- 'var x [n]T' at the operation: a new block at the zero value. -/
theorem wpList_fresh {P : Program} {ops : Array Oper} {rest : List Oper} {o : Oper} {a : Act} {w : World} {Q : Exit → Act → World → Prop} (hg : o.guard = none) (t : TypeId) (ho : o.op = .alloc t) (z : Array Value)
    (hz : ∀ w, (zeroValue t).run P w = .ok (.agg z) w) (h : wpList P ops Q rest (a.put o.dst (.pointer (some ⟨w.heap.size, 0, none⟩))) (w.alloc (.cells z t))) : wpList P ops Q (o :: rest) a w := by
  refine wpList_plain hg fun K hK => ?_
  unfold Oper.wp execOp
  simp only [ho, Instr.alloc, Sem.run_bind, hz, Result.andThen_ok]
  simp [go_sem]
  exact hK _ _ h

theorem zero23 (w : World) : (zeroValue 23).run Try.prog w = .ok (.agg ((List.replicate 1024 ByteArray.empty).map Value.string).toArray) w := by kernel_rfl

theorem Tab.range {w : World} {hb : Nat} {r : Option Nat} {rs : List ByteArray} (h : Tab w hb r rs) : w.rangeAt hb 1 (rs.map Value.string) := by
  intro j v hv
  rw [cell_of_row w hb (1 + j) _ _ _ h.2]
  simp [Nat.add_comm 1 j] at hv ⊢
  exact hv

set_option maxHeartbeats 800000 in
set_option maxRecDepth 100000 in
/-- ZZHeldKeysRecent. -/
theorem recent_any (hb : Nat) (r : Option Nat) (rs : List ByteArray) (w : World) (hT : Tab w hb r rs) :
    Calls Try.prog 14 #[.pointer (some ⟨hb, 0, none⟩)] w fun e w' => e = .returned (.agg (rs.map Value.string).toArray) ∧ Below w.heap.size w w' := by
  obtain ⟨z, hz⟩ : ∃ z, z = ((List.replicate 1024 ByteArray.empty).map Value.string).toArray := ⟨_, rfl⟩
  have hz0 := zero23
  rw [← hz] at hz0
  have HZ : Hid (∀ w, (zeroValue 23).run Try.prog w = .ok (.agg z) w) := hz0
  have hzs : z.size = 1024 := by rw [hz]; simp
  obtain ⟨cl, hcl⟩ : ∃ cl, cl = rs.map Value.string := ⟨_, rfl⟩
  have hlen : cl.length = 1024 := by rw [hcl]; simpa using hT.1
  have hone : cl.toArray.all (·.oneCell') = true := by rw [hcl]; simp [Value.oneCell']
  have hR := hT.range
  rw [← hcl] at hR ⊢
  have hR' : (w.alloc (.cells z 23)).rangeAt hb 1 cl := fun j v hv => by
    rw [World.cell?_of_block (w := w) (Below.heap_alloc w _ hb hT.lt)]; exact hR j v hv
  have HR : Hid ((w.alloc (.cells z 23)).rangeAt hb 1 cl) := hR'
  have hi := info23
  rw [← hlen] at hi
  have HI : Hid ((Try.prog.info? 23).map (·.size) = some cl.length) := hi
  have hi2 : (Try.prog.info? 23).map (·.size) = some cl.toArray.size := by simpa using hi
  have HI2 : Hid ((Try.prog.info? 23).map (·.size) = some cl.toArray.size) := hi2
  have HZS : Hid (z.size = cl.toArray.size) := by simp [Hid, hzs, hlen]
  have HO : Hid (cl.toArray.all (·.oneCell') = true) := hone
  clear hz hz0 hzs hcl hlen hone hR hR' hi hi2 hT
  go_enter Try.func14, Try.ntmps14
  go_wp2_with (first
    | (refine wpList_fresh rfl 23 rfl z HZ.out ?_)
    | (refine wpList_load_mid rfl 23 _ rfl hb 1 rfl cl _ HR.out Try.underlying23 rfl HI.out ?_)
    | (refine wpList_store_row rfl 23 _ _ rfl w.heap.size cl.toArray rfl rfl 23 z (heap_alloc_new w _) HI2.out HZS.out HO.out ?_))
  exact bodyPost_ret (v := .agg cl.toArray) (results_cell_row Try.results14 _ _ w.heap.size 23 cl.toArray (0, 0) _ rfl (setRow_heap _ _ z _ 23 _ (heap_alloc_new w _)) Try.underlying23 rfl HI2.out) rfl ⟨rfl, below_setRow ((Below.refl _ _).alloc (Nat.le_refl _) _) (Nat.le_refl _) _⟩
end Go.Proofs.Qxb6606338a
