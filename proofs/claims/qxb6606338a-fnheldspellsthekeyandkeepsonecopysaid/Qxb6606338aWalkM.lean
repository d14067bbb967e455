import Derived.Test.Qxb6606338aHeld
namespace Go.Proofs.Qxb6606338a
open Go.RowKit Go.Maps Go.WideMaps

theorem fold_set (off : Nat) : ∀ (l : List Value) (i : Nat) (z : Array Value) (k : Nat),
    ((l.zipIdx i).foldl (fun acc p => acc.setIfInBounds (off + p.2) p.1) z)[k]? = if off + i ≤ k ∧ k < off + i + l.length ∧ k < z.size then l[k - off - i]? else z[k]?
  | [], i, z, k => by simp; intros; omega
  | v :: l, i, z, k => by
    simp only [List.zipIdx_cons, List.foldl_cons]
    rw [fold_set off l (i + 1)]
    simp only [Array.size_setIfInBounds, List.length_cons]
    by_cases h1 : off + (i + 1) ≤ k ∧ k < off + (i + 1) + l.length ∧ k < z.size
    · rw [if_pos h1, if_pos (by omega)]
      obtain ⟨m, hm⟩ : ∃ m, k - off - i = m + 1 := ⟨k - off - i - 1, by omega⟩
      rw [hm, show k - off - (i + 1) = m by omega]
      simp
    · rw [if_neg h1, Array.getElem?_setIfInBounds]
      by_cases h2 : off + i = k
      · rw [if_pos h2]
        by_cases h3 : k < z.size
        · rw [if_pos (by omega), if_pos (by omega)]
          simp [show k - off - i = 0 by omega]
        · rw [if_neg (by omega), if_neg (by omega)]
          simp at h3
          simp [h3]
      · rw [if_neg h2]
        by_cases h3 : off + i ≤ k ∧ k < off + i + (l.length + 1) ∧ k < z.size
        · omega
        · rw [if_neg h3]

theorem info44 : (Try.prog.info? 44).map (fun i => i.zero.map (fun z => z.cells.size)) = some (some 1025) := by kernel_rfl
theorem info23 : (Try.prog.info? 23).map (·.size) = some 1024 := by kernel_rfl
theorem places44 : ∃ fields, Try.prog.underlying 44 = some (.struct fields) ∧ fields.toList.mapM (fun f => (Try.prog.info? f.type).map fun i => (f.offset, i.size)) = some [(0, 1), (1, 1024)] := ⟨_, Try.underlying44, by kernel_rfl⟩

theorem built44 (r : Option Nat) (cs : Array Value) (hcs : cs.size = 1024) : Try.prog.built 44 [(0, .map r), (1, .agg cs)] = some (#[Value.map r] ++ cs) := by
  obtain ⟨fields, hu, hp⟩ := places44
  have hi := info44
  cases hinfo : Try.prog.info? 44 with
  | none => rw [hinfo] at hi; cases hi
  | some it =>
    rw [hinfo] at hi
    simp only [Option.map_some, Option.some.injEq] at hi
    cases hz : it.zero with
    | none => rw [hz] at hi; cases hi
    | some z =>
      rw [hz] at hi
      simp only [Option.map_some, Option.some.injEq] at hi
      unfold Program.built
      rw [hinfo, hu]
      simp only [hz, hp]
      have h0 : (Value.map r).cells = #[Value.map r] := rfl
      have h1 : (Value.agg cs).cells = cs := rfl
      simp only [Instr.fill]
      rw [show (([(0, 1), (1, 1024)] : List (Nat × Nat)).toArray[0]?) = some (0, 1) from rfl, show (([(0, 1), (1, 1024)] : List (Nat × Nat)).toArray[1]?) = some (1, 1024) from rfl]
      simp only [h0, h1, hcs, hi]
      have e1 : ((#[Value.map r] : Array Value).zipIdx.foldl (fun cs (x : Value × Nat) => cs.setIfInBounds (0 + x.2) x.1) z.cells) = z.cells.setIfInBounds 0 (.map r) := by
        simp
      rw [if_neg (by simp)]
      rw [e1, if_neg (by simp [hi])]
      congr 1
      apply Array.ext_getElem?
      intro k
      rw [← Array.foldl_toList, Array.toList_zipIdx, fold_set 1 cs.toList 0 (z.cells.setIfInBounds 0 (.map r)) k]
      simp only [Array.size_setIfInBounds, hi, Array.length_toList, hcs]
      rw [Array.getElem?_append]
      by_cases h2 : k < 1
      · have : k = 0 := by omega
        subst this
        simp [hi]
      · by_cases h3 : k < 1025
        · rw [if_pos (by omega), if_neg (by simpa using h2)]
          simp
        · rw [if_neg (by omega), if_neg (by simpa using h2)]
          rw [Array.getElem?_eq_none (by simp; omega), Array.getElem?_eq_none (by simp; omega)]

theorem wpList_built {P : Program} {ops : Array Oper} {rest : List Oper} {o : Oper} {a : Act} {w : World} {Q : Exit → Act → World → Prop} (hg : o.guard = none) (t : TypeId) (parts : Array (Nat × Operand)) (ho : o.op = .build t parts)
    (cells : Array Value) (hf : P.built t (parts.map fun (i, x) => (i, a.eval x)).toList = some cells) (h : wpList P ops Q rest (a.put o.dst (.agg cells)) w) : wpList P ops Q (o :: rest) a w :=
  wpList_build hg t parts ho (by rw [hf]; rfl) (by rw [hf]; exact h)

set_option maxHeartbeats 400000 in
set_option maxRecDepth 100000 in
/-- ZZMakeHeldKeys. -/
theorem make_any (r : Option Nat) (cs : Array Value) (hcs : cs.size = 1024) (w : World) :
    Calls Try.prog 11 #[.map r, .agg cs] w fun e w' => e = .returned (.pointer (some ⟨w.heap.size + 1, 0, none⟩)) ∧ w' = (w.alloc (.cells cs 23)).alloc (.cells (#[Value.map r] ++ cs) 44) := by
  have hbd := built44 r cs hcs
  obtain ⟨big, hbig⟩ : ∃ big, big = #[Value.map r] ++ cs := ⟨_, rfl⟩
  rw [← hbig] at hbd ⊢
  have HB : Hid (Try.prog.built 44 [(0, .map r), (1, .agg cs)] = some big) := hbd
  have hi := info23
  rw [← hcs] at hi
  have HI : Hid ((Try.prog.info? 23).map (·.size) = some cs.size) := hi
  clear hi hbig hcs hbd
  go_enter Try.func11, Try.ntmps11
  go_wp2_with (first | (refine wpList_load_row rfl 23 _ rfl w.heap.size rfl 23 cs (0, 0) _ (heap_alloc_new w _) Try.underlying23 rfl HI.out ?_) | (refine wpList_built rfl 44 _ rfl big ?_ ?_; (simp only [List.map_toArray, List.map_cons, List.map_nil]; exact HB.out)))
  go_ret
  exact ⟨rfl, rfl⟩

theorem tab_made (w : World) (r : Option Nat) (rs : List ByteArray) (hrs : rs.length = 1024) :
    Tab ((w.alloc (.cells (rs.map Value.string).toArray 23)).alloc (.cells (#[Value.map r] ++ (rs.map Value.string).toArray) 44)) (w.heap.size + 1) r rs := by
  refine ⟨hrs, ?_⟩
  have := heap_alloc_new (w.alloc (.cells (rs.map Value.string).toArray 23)) (.cells (#[Value.map r] ++ (rs.map Value.string).toArray) 44)
  rw [show (w.alloc (.cells (rs.map Value.string).toArray 23)).heap.size = w.heap.size + 1 by simp] at this
  rw [this]
  simp
end Go.Proofs.Qxb6606338a
