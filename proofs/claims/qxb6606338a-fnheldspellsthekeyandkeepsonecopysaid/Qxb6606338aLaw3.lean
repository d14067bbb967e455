import Derived.Test.Qxb6606338aWalkV
namespace Go.Proofs.Qxb6606338a
open Go.RowKit Go.Maps Go.WideMaps

theorem Box.below {w w' : World} {g : Nat} {rs : List ByteArray} (h : Box w g rs) (hb : Below w.heap.size w w') : Box w' g rs := by
  have hlt : g < w.heap.size := by
    apply Nat.lt_of_not_le
    intro hle
    have := h.2
    rw [Array.getElem?_eq_none hle] at this
    cases this
  exact ⟨h.1, by rw [hb.block g hlt]; exact h.2⟩

theorem inB_snoc (K : List ByteArray) (q s : ByteArray) : inB (K ++ [q]) s = (inB K s || decide (q = s)) := by
  unfold inB
  rw [List.any_append]
  simp only [List.any_cons, List.any_nil, Bool.or_false]

/-- What a call of held does, in the law's own words. -/
def Kinds (r r' : Option Nat) (rs rs' ks ks' : List ByteArray) (zs : List Int) (j0 : Nat) : Prop :=
  (∀ i, i < 1024 → i ≠ j0 → rs'.getD i ByteArray.empty = rs.getD i ByteArray.empty) ∧
  (j0 < 1024 → rs'.getD j0 ByteArray.empty = strOf zs ∧ rs.getD j0 ByteArray.empty ≠ strOf zs) ∧
  ((1024 ≤ j0 ∧ ks' = ks ∧ r' = r ∧ ((1 ≤ zs.length ∧ zs.length ≤ 64) → inB rs (strOf zs) = true)) ∨
   ((1 ≤ zs.length ∧ zs.length ≤ 64) ∧ j0 < 1024 ∧ (inB ks (strOf zs) = true ∨ 4096 ≤ ks.length) ∧ ks' = ks ∧ r' = r) ∨
   ((1 ≤ zs.length ∧ zs.length ≤ 64) ∧ j0 < 1024 ∧ inB ks (strOf zs) = false ∧ ks.length < 4096 ∧ ks' = ks ++ [strOf zs]))

theorem held_kinds {w w' : World} {hb : Nat} {r : Option Nat} {rs ks : List ByteArray} {zs : List Int} (hp : HeldPost w w' hb r rs ks zs) (hl : rs.length = 1024) :
    ∃ r' rs' ks' j0, Tab w' hb r' rs' ∧ MapF w' r' ks' ∧ Turn (fun k => k = hb ∨ r = some k) w w' ∧ Kinds r r' rs rs' ks ks' zs j0 ∧ (∀ x ∈ ks, x ∈ ks') := by
  obtain ⟨r', h1, h2, h3, h4, h5⟩ := hp
  have hsl := slotOf_lt zs
  have hmono : ∀ x ∈ ks, x ∈ nextKs rs ks zs := fun x hx => by
    unfold nextKs; split
    · exact List.mem_append_left _ hx
    · exact hx
  by_cases hsh : 1 ≤ zs.length ∧ zs.length ≤ 64
  case neg =>
    have e1 : nextRs rs zs = rs := if_neg (fun hh => hsh hh.1)
    have e2 : nextKs rs ks zs = ks := if_neg (fun hh => hsh hh.1)
    exact ⟨r', _, _, 1024, h1, h2, h3, ⟨fun i _ _ => by rw [e1], fun h => by omega, .inl ⟨Nat.le_refl _, e2, h5 e2, fun h => absurd h hsh⟩⟩, hmono⟩
  by_cases hq : rs.getD (slotOf zs) ByteArray.empty = strOf zs
  · have e1 : nextRs rs zs = rs := if_neg (fun hh => hh.2 hq)
    have e2 : nextKs rs ks zs = ks := if_neg (fun hh => hh.2.1 hq)
    refine ⟨r', _, _, 1024, h1, h2, h3, ⟨fun i _ _ => by rw [e1], fun h => by omega, .inl ⟨Nat.le_refl _, e2, h5 e2, fun _ => inB_iff.2 ?_⟩⟩, hmono⟩
    rw [← hq, List.getD, List.getElem?_eq_getElem (by omega)]; exact List.getElem_mem _
  have e1 : nextRs rs zs = rs.set (slotOf zs) (strOf zs) := if_pos ⟨hsh, hq⟩
  have p1 : ∀ i, i < 1024 → i ≠ slotOf zs → (nextRs rs zs).getD i ByteArray.empty = rs.getD i ByteArray.empty := fun i _ hne => by
    rw [e1, List.getD, List.getD, List.getElem?_set_ne (Ne.symm hne)]
  have p2 : slotOf zs < 1024 → (nextRs rs zs).getD (slotOf zs) ByteArray.empty = strOf zs ∧ rs.getD (slotOf zs) ByteArray.empty ≠ strOf zs := fun _ => by
    refine ⟨?_, hq⟩
    rw [e1]; simp [List.getD, show slotOf zs < rs.length by omega]
  by_cases hc : inB ks (strOf zs) = false ∧ ks.length < 4096
  · have e2 : nextKs rs ks zs = ks ++ [strOf zs] := if_pos ⟨hsh, hq, hc.1, hc.2⟩
    exact ⟨r', _, _, slotOf zs, h1, h2, h3, ⟨p1, p2, .inr (.inr ⟨hsh, hsl, hc.1, hc.2, e2⟩)⟩, hmono⟩
  · have e2 : nextKs rs ks zs = ks := if_neg (fun hh => hc ⟨hh.2.2.1, hh.2.2.2⟩)
    refine ⟨r', _, _, slotOf zs, h1, h2, h3, ⟨p1, p2, .inr (.inl ⟨hsh, hsl, ?_, e2, h5 e2⟩)⟩, hmono⟩
    cases hb : inB ks (strOf zs) with
    | true => exact .inl rfl
    | false => exact .inr (by apply Nat.le_of_not_lt; intro h; exact hc ⟨hb, h⟩)

theorem MapF.below {w w' : World} {r : Option Nat} {ks : List ByteArray} (h : MapF w r ks) (hb : Below w.heap.size w w') : MapF w' r ks := h.kept (grown_of_below hb) (by simp)

set_option maxHeartbeats 3200000 in
set_option maxRecDepth 100000 in
theorem law3 (a : Option Addr) (len cap : Nat) (ss : List ByteArray) (nm : Bool) (cs : Array Value) (rs : List ByteArray) (a2 : Option Addr) (len2 cap2 : Nat) (zs : List Int) (w : World) (h : SRow w a len cap ss) (hcs : cs = (rs.map Value.string).toArray) (hrs : rs.length = 1024)
    (h2 : Row w a2 len2 cap2 zs) (hz : ∀ z ∈ zs, 0 ≤ z ∧ z ≤ 255) (hm : len ≤ maxLen) (hm2 : len2 ≤ maxLen) :
    Calls Try.prog 3 #[.slice a len cap, .bool nm, .agg cs, .slice a2 len2 cap2] w fun e w' => e = .returned (.bool true) ∧ Below w.heap.size w w' := by
  unfold maxLen at hm hm2
  have hb0 : Below w.heap.size w (w.alloc (.cells cs 23)) := (Below.refl _ _).alloc (Nat.le_refl _) _
  have hB0 : Box (w.alloc (.cells cs 23)) w.heap.size rs := ⟨hrs, by rw [← hcs]; exact heap_alloc_new w _⟩
  have hh0 : (w.alloc (.cells cs 23)).heap[w.heap.size]? = some (.cells cs 23 (0, 0)) := heap_alloc_new w _
  have hi := info23
  have hsz : cs.size = 1024 := by rw [hcs]; simp [hrs]
  rw [← hsz] at hi
  have HI : Hid ((Try.prog.info? 23).map (·.size) = some cs.size) := hi
  have HZ : Hid (∀ z ∈ zs, 0 ≤ z ∧ z ≤ 255) := hz
  have HCS : Hid (cs = (rs.map Value.string).toArray ∧ rs.length = 1024 ∧ cs.size = 1024) := ⟨hcs, hrs, hsz⟩
  have k6 := bytes6_any a len cap ss nm cs rs a2 len2 cap2 _ (h.below hb0) hcs hrs hm hm2
  have K6 : Hid (Calls Try.prog 6 #[.slice a len cap, .bool nm, .agg cs, .slice a2 len2 cap2] (w.alloc (.cells cs 23)) fun e w' => Bytes6 ss rs e ∧ Below (w.alloc (.cells cs 23)).heap.size (w.alloc (.cells cs 23)) w') := k6
  have HH0 : Hid ((w.alloc (.cells cs 23)).heap[w.heap.size]? = some (.cells cs 23 (0, 0))) := hh0
  have HS0 : Hid (SRow (w.alloc (.cells cs 23)) a len cap ss ∧ Row (w.alloc (.cells cs 23)) a2 len2 cap2 zs ∧ Box (w.alloc (.cells cs 23)) w.heap.size rs ∧ Below w.heap.size w (w.alloc (.cells cs 23))) := ⟨h.below hb0, h2.below hb0, hB0, hb0⟩
  clear hb0 hB0 hh0 hi hsz hcs hrs hz k6 h h2
  go_enter Try.func3, Try.ntmps3
  go_wp2_with (refine wpList_load_row rfl 23 _ rfl w.heap.size rfl 23 cs (0, 0) _ HH0.out Try.underlying23 rfl HI.out ?_)
  refine K6.out.mono ?_
  rintro e w1 ⟨⟨x, rfl, hx⟩, hb1⟩
  obtain ⟨hS0, hR0, hB0, hbb0⟩ := HS0.out
  have HS1 : Hid (SRow w1 a len cap ss ∧ Row w1 a2 len2 cap2 zs ∧ Box w1 w.heap.size rs ∧ Below w.heap.size w w1) := ⟨hS0.below hb1, hR0.below hb1, hB0.below hb1, hbb0.trans (hb1.mono hbb0.size)⟩
  clear hS0 hR0 hB0 hbb0 hb1 K6 HH0 HS0
  cases x with
  | false =>
    clear hx
    go_wp2_with fail
    go_ret
    exact ⟨rfl, HS1.out.2.2.2⟩
  | true =>
  have HX : Hid ((∀ s ∈ ss, s.size ≤ 1048576) ∧ ∀ q ∈ rs, q.size ≤ 1048576) := hx rfl
  clear hx
  have HH1 : Hid (w1.heap[w.heap.size]? = some (.cells cs 23 (0, 0))) := by have := HS1.out.2.2.1.2; rw [← HCS.out.1] at this; exact this
  have k7 := fits7_any a len cap ss cs rs a2 len2 cap2 w1 HS1.out.1 HCS.out.1 HCS.out.2.1 hm hm2 HX.out.1 HX.out.2
  have K7 : Hid (Calls Try.prog 7 #[.slice a len cap, .agg cs, .slice a2 len2 cap2] w1 fun e w' => Fits7 len len2 e ∧ Below w1.heap.size w1 w') := k7
  clear k7
  go_wp2_with (refine wpList_load_row rfl 23 _ rfl w.heap.size rfl 23 cs (0, 0) _ HH1.out Try.underlying23 rfl HI.out ?_)
  refine K7.out.mono ?_
  rintro e w2 ⟨⟨x, rfl, hx⟩, hb2⟩
  obtain ⟨hS1, hR1, hB1, hbb1⟩ := HS1.out
  have HS2 : Hid (SRow w2 a len cap ss ∧ Row w2 a2 len2 cap2 zs ∧ Box w2 w.heap.size rs ∧ Below w.heap.size w w2) := ⟨hS1.below hb2, hR1.below hb2, hB1.below hb2, hbb1.trans (hb2.mono hbb1.size)⟩
  clear hS1 hR1 hB1 hbb1 hb2 K7 HH1 HS1
  cases x with
  | false =>
    clear hx
    go_wp2_with fail
    go_ret
    exact ⟨rfl, HS2.out.2.2.2⟩
  | true =>
  obtain ⟨hl1, hl2⟩ := hx rfl
  clear hx hm hm2
  go_wp2_with fail
  refine (cloneS_any a len cap ss w2 HS2.out.1 (by omega)).mono ?_
  rintro e w3 ⟨a3, c3, rfl, hS3, hb3⟩
  obtain ⟨_, hR2, hB2, hbb2⟩ := HS2.out
  have HS3 : Hid (SRow w3 a3 len c3 ss ∧ Row w3 a2 len2 cap2 zs ∧ Box w3 w.heap.size rs ∧ Below w.heap.size w w3) := ⟨hS3, hR2.below hb3, hB2.below hb3, hbb2.trans (hb3.mono hbb2.size)⟩
  clear hR2 hB2 hbb2 hb3 hS3 HS2
  go_wp2_with fail
  refine (clone_any a2 len2 cap2 zs w3 HS3.out.2.1 (by omega)).mono ?_
  rintro e w4 ⟨a4, c4, rfl, hR4, hb4⟩
  obtain ⟨hS3, _, hB3, hbb3⟩ := HS3.out
  have HS4 : Hid (SRow w4 a3 len c3 ss ∧ Row w4 a4 len2 c4 zs ∧ Box w4 w.heap.size rs ∧ Below w.heap.size w w4) := ⟨hS3.below hb4, hR4, hB3.below hb4, hbb3.trans (hb4.mono hbb3.size)⟩
  clear hS3 hR4 hB3 hbb3 hb4 HS3
  go_wp2_with fail
  refine (heldMap_any a3 len c3 ss nm w4 HS4.out.1 hl1 HX.out.1).mono ?_
  rintro e w5 ⟨r, rfl, hM5, hmb5, hb5⟩
  obtain ⟨s, hs⟩ : ∃ s, s = strOf zs := ⟨_, rfl⟩
  obtain ⟨ks, hks⟩ : ∃ ks, ks = ss.foldl addS [] := ⟨_, rfl⟩
  rw [← hks] at hM5
  have hss : s.size ≤ maxLen := by rw [hs, strOf_size, HS4.out.2.1.1]; unfold maxLen; omega
  have hcv := conv_run (HS4.out.2.1.below hb5)
  rw [← hs] at hcv
  have hln := fun ty => hM5.len7 ty
  have hlk := hM5.look7 hss
  have hnl := run_eql_map_nil (P := Try.prog) w5 29 9 9 r Try.underlying29
  obtain ⟨n0, hn0⟩ : ∃ n0, n0 = ks.length := ⟨_, rfl⟩
  obtain ⟨had, hhad⟩ : ∃ had, had = inB ks s := ⟨_, rfl⟩
  obtain ⟨v0, hv0⟩ : ∃ v0, v0 = if inB ks s then s else ByteArray.empty := ⟨_, rfl⟩
  obtain ⟨wn, hwn⟩ : ∃ wn, wn = r.isNone := ⟨_, rfl⟩
  rw [← hv0, ← hhad] at hlk
  rw [← hn0] at hln
  rw [← hwn] at hnl
  have HD : Hid (s = strOf zs ∧ ks = ss.foldl addS [] ∧ n0 = ks.length ∧ had = inB ks s ∧ wn = r.isNone) := ⟨hs, hks, hn0, hhad, hwn⟩
  have HM5 : Hid (MapF w5 r ks ∧ (∀ mb, r = some mb → w4.heap.size ≤ mb) ∧ Below w4.heap.size w4 w5) := ⟨hM5, hmb5, hb5⟩
  clear hs hks hn0 hhad hv0 hwn hM5 hmb5 hb5
  go_wp2_with fail
  clear hlk hnl hcv
  have hB5 := HS4.out.2.2.1.below HM5.out.2.2
  have HB5 : Hid (∀ i, i < 1024 → w5.cell? ⟨w.heap.size, i, none⟩ = some (.string (rs.getD i ByteArray.empty))) := fun i hi => hB5.cell hi
  have HH5 : Hid (w5.heap[w.heap.size]? = some (.cells cs 23 (0, 0))) := by have := hB5.2; rw [← HCS.out.1] at this; exact this
  clear hB5 hln
  go_loop [15, 16] (fun sh si => ∃ (i : Nat) (hd : Bool), i ≤ 1024 ∧ si = .int .i64 i ∧ sh = .bool hd ∧ Hid (hd = inB (rs.take i) s)) (fun _ si => 1024 - (intOf si).toNat)
  case atStart => exact ⟨0, false, Nat.zero_le _, rfl, rfl, by simp [Hid, inB]⟩
  case round =>
    obtain ⟨i, hd, hi, rfl, rfl, HHd⟩ := hrel
    by_cases hlt : i < 1024
    · have hcell := HB5.out i hlt
      obtain ⟨q, hq⟩ : ∃ q, q = rs.getD i ByteArray.empty := ⟨_, rfl⟩
      rw [← hq] at hcell
      have hstep : inB (rs.take (i + 1)) s = (inB (rs.take i) s || decide (q = s)) := by
        have hlt' : i < rs.length := by rw [HCS.out.2.1]; exact hlt
        have e : rs[i] = q := by rw [hq]; simp [List.getD, hlt']
        rw [List.take_succ_eq_append_getElem hlt', e]
        exact inB_snoc _ _ _
      have HSt : Hid (inB (rs.take (i + 1)) s = (inB (rs.take i) s || decide (q = s))) := hstep
      clear hq hstep
      by_cases hqs : q = s
      · have hbe : (q.toList == s.toList) = true := by rw [hqs]; simp
        have HQ : Hid (q = s) := hqs
        clear hqs
        go_wp2_with fail
        go_round
        case rel => exact ⟨i + 1, true, by omega, by go_num, rfl, by rw [HSt.out]; simp [Hid, HQ.out]⟩
        case measure => simp [intOf]; omega
      · have hbe := ne_beq hqs
        have HQ : Hid (¬ q = s) := hqs
        clear hqs
        go_wp2_with fail
        go_round
        case rel => exact ⟨i + 1, hd, by omega, by go_num, rfl, by rw [HSt.out, ← HHd.out]; have := HQ.out; simp [Hid, this]⟩
        case measure => simp [intOf]; omega
    · have HHs : Hid (hd = inB rs s) := by
        have := HHd.out
        rw [List.take_of_length_le (by rw [HCS.out.2.1]; omega)] at this
        exact this
      clear HHd HB5
      have k11 := make_any r cs HCS.out.2.2 w5
      have K11 : Hid (Calls Try.prog 11 #[.map r, .agg cs] w5 fun e w' => e = .returned (.pointer (some ⟨w5.heap.size + 1, 0, none⟩)) ∧ w' = (w5.alloc (.cells cs 23)).alloc (.cells (#[Value.map r] ++ cs) 44)) := k11
      clear k11
      go_wp2_with (refine wpList_load_row rfl 23 _ rfl w.heap.size rfl 23 cs (0, 0) _ HH5.out Try.underlying23 rfl HI.out ?_)
      clear hlt hi
      refine K11.out.mono ?_
      rintro e w6 ⟨rfl, hw6⟩
      have hT6 : Tab w6 (w5.heap.size + 1) r rs := by rw [hw6, HCS.out.1]; exact tab_made w5 r rs HCS.out.2.1
      have hb6 : Below w5.heap.size w5 w6 := by rw [hw6]; exact ((Below.refl _ _).alloc (Nat.le_refl _) _).alloc (by simp) _
      have hM6 := HM5.out.1.below hb6
      have hb46 : Below w4.heap.size w4 w6 := HM5.out.2.2.trans (hb6.mono HM5.out.2.2.size)
      have hR6 := HS4.out.2.1.below hb46
      have hs6 : w4.heap.size ≤ w6.heap.size := hb46.size
      have hs56 : w4.heap.size ≤ w5.heap.size := HM5.out.2.2.size
      have k12 := heldOn_any (w5.heap.size + 1) r rs ks a4 len2 c4 zs w6 hT6 hM6 hR6 HZ.out (by omega)
      rw [← HD.out.1] at k12
      have K12 : Hid (Calls Try.prog 12 #[.pointer (some ⟨w5.heap.size + 1, 0, none⟩), .slice a4 len2 c4] w6 fun e w' => e = .returned (.string s) ∧ HeldPost w6 w' (w5.heap.size + 1) r rs ks zs) := k12
      have HB46 : Hid (Below w4.heap.size w4 w6) := hb46
      clear hw6 hT6 hb6 hM6 hb46 hR6 k12 K11 HH5
      go_wp2_with fail
      refine K12.out.mono ?_
      rintro e w7 ⟨rfl, hp⟩
      obtain ⟨r7, rs7, ks7, j0, hT7, hM7, ht7, hkinds, hmono⟩ := held_kinds hp HCS.out.2.1
      have hb47 : Below w4.heap.size w4 w7 := ht7.below HB46.out hs6 (fun k hk => by
        rcases hk with rfl | hk
        · omega
        · exact HM5.out.2.1 k hk)
      have hc7 := hT7.map
      have HT7 : Hid (Tab w7 (w5.heap.size + 1) r7 rs7) := hT7
      have HM7 : Hid (MapF w7 r7 ks7) := hM7
      have HK7 : Hid (Kinds r r7 rs rs7 ks ks7 zs j0 ∧ ∀ x ∈ ks, x ∈ ks7) := ⟨hkinds, hmono⟩
      have HB47 : Hid (Below w4.heap.size w4 w7) := hb47
      clear hp hT7 hM7 ht7 hkinds hmono hb47 K12 HB46
      go_wp2_with fail
      refine (byText_any (w5.heap.size + 1) r7 w7 hc7).mono ?_
      rintro e w7' ⟨rfl, rfl⟩
      clear hc7
      go_wp2_with fail
      refine (recent_any (w5.heap.size + 1) r7 rs7 w7' HT7.out).mono ?_
      rintro e w8 ⟨rfl, hb8⟩
      have hlen7 : rs7.length = 1024 := HT7.out.1
      obtain ⟨cs7, hcs7⟩ : ∃ cs7, cs7 = (rs7.map Value.string).toArray := ⟨_, rfl⟩
      rw [← hcs7]
      obtain ⟨z, hz⟩ : ∃ z, z = ((List.replicate 1024 ByteArray.empty).map Value.string).toArray := ⟨_, rfl⟩
      have hz0 := zero23
      rw [← hz] at hz0
      have HZ0 : Hid (∀ w, (zeroValue 23).run Try.prog w = .ok (.agg z) w) := hz0
      have hzs : z.size = cs7.size := by rw [hz, hcs7]; simp [hlen7]
      have HZS : Hid (z.size = cs7.size) := hzs
      have hi7 : (Try.prog.info? 23).map (·.size) = some cs7.size := by rw [← hzs, hz]; simpa using info23
      have HI7 : Hid ((Try.prog.info? 23).map (·.size) = some cs7.size) := hi7
      have hone : cs7.all (·.oneCell') = true := by rw [hcs7]; simp [Value.oneCell']
      have HO : Hid (cs7.all (·.oneCell') = true) := hone
      have hb9 : Below w8.heap.size w8 ((w8.alloc (.cells z 23)).setRow w8.heap.size cs7) := below_setRow ((Below.refl _ _).alloc (Nat.le_refl _) _) (Nat.le_refl _) _
      have hb79 : Below w7'.heap.size w7' ((w8.alloc (.cells z 23)).setRow w8.heap.size cs7) := hb8.trans (hb9.mono hb8.size)
      have hb49 : Below w4.heap.size w4 ((w8.alloc (.cells z 23)).setRow w8.heap.size cs7) := HB47.out.trans (hb79.mono HB47.out.size)
      have hM9 := HM7.out.below hb79
      have hX9 : Box ((w8.alloc (.cells z 23)).setRow w8.heap.size cs7) w8.heap.size rs7 := ⟨hlen7, by rw [← hcs7]; exact setRow_heap _ _ z _ 23 _ (heap_alloc_new w8 _)⟩
      have hS9 := HS4.out.1.below hb49
      have hY9 := HS4.out.2.2.1.below hb49
      have hallk : ∀ x ∈ ss, x.size ≤ 1048576 ∧ x ∈ ks7 := fun x hx => ⟨HX.out.1 x hx, HK7.out.2 x (by rw [HD.out.2.1]; exact (mem_foldS ss [] x).2 (.inr hx))⟩
      have k15 := selfMapped_any r7 ks7 a3 len c3 ss _ hM9 hS9 hl1 hallk
      have K15 : Hid (Calls Try.prog 15 #[.map r7, .slice a3 len c3] ((w8.alloc (.cells z 23)).setRow w8.heap.size cs7) fun e w' => e = .returned (.bool true) ∧ w' = (w8.alloc (.cells z 23)).setRow w8.heap.size cs7) := k15
      have H9 : Hid (MapF ((w8.alloc (.cells z 23)).setRow w8.heap.size cs7) r7 ks7 ∧ Box ((w8.alloc (.cells z 23)).setRow w8.heap.size cs7) w8.heap.size rs7 ∧ Box ((w8.alloc (.cells z 23)).setRow w8.heap.size cs7) w.heap.size rs ∧ Below w.heap.size w ((w8.alloc (.cells z 23)).setRow w8.heap.size cs7)) :=
        ⟨hM9, hX9, hY9, HS4.out.2.2.2.trans (hb49.mono HS4.out.2.2.2.size)⟩
      clear hcs7 hz hz0 hzs hi7 hone hb9 hb79 hb49 hM9 hX9 hS9 hY9 hallk k15 hlen7 hb8 HT7 HM7 HB47
      go_wp2_with (first
        | (refine wpList_fresh rfl 23 rfl z HZ0.out ?_)
        | (refine wpList_store_row rfl 23 _ _ rfl w8.heap.size cs7 rfl rfl 23 z (heap_alloc_new w8 _) HI7.out HZS.out HO.out ?_))
      refine K15.out.mono ?_
      rintro e w9 ⟨rfl, hw9⟩
      rw [← hw9] at H9
      clear hw9 K15 HO HI7 HZS HZ0
      have HBa : Hid (∀ i, i < 1024 → w9.cell? ⟨w8.heap.size, i, none⟩ = some (.string (rs7.getD i ByteArray.empty))) := fun i hi => H9.out.2.1.cell hi
      have HBb : Hid (∀ i, i < 1024 → w9.cell? ⟨w.heap.size, i, none⟩ = some (.string (rs.getD i ByteArray.empty))) := fun i hi => H9.out.2.2.1.cell hi
      have hs98 : w8.heap.size < w9.heap.size := by
        have := H9.out.2.1.2
        exact (Array.getElem?_eq_some_iff.1 this).1
      have hs9w : w.heap.size < w9.heap.size := by
        have := H9.out.2.2.1.2
        exact (Array.getElem?_eq_some_iff.1 this).1
      go_wp2_with fail
      go_loopw [21, 22] (fun sc si wr => ∃ (i c : Nat), i ≤ 1024 ∧ si = .int .i64 i ∧ sc = .int .i64 c ∧ c ≤ 1 ∧ Hid (c = if j0 < i then 1 else 0) ∧ Below w9.heap.size w9 wr) (fun _ si _ => 1024 - (intOf si).toNat)
      case atStart => exact ⟨0, 0, Nat.zero_le _, rfl, rfl, by omega, by simp [Hid], Below.refl _ _⟩
      case round =>
        obtain ⟨i9, c, hi9, rfl, rfl, hc1, HC, hbel⟩ := hrel
        by_cases hlt9 : i9 < 1024
        · have hca : wr.cell? ⟨w8.heap.size, i9, none⟩ = some (.string (rs7.getD i9 ByteArray.empty)) := (hbel.cell (by exact hs98)).trans (HBa.out i9 hlt9)
          have hcb : wr.cell? ⟨w.heap.size, i9, none⟩ = some (.string (rs.getD i9 ByteArray.empty)) := (hbel.cell (by exact hs9w)).trans (HBb.out i9 hlt9)
          by_cases hj : i9 = j0
          · have hp2 := HK7.out.1.2.1 (by omega)
            rw [← hj, ← HD.out.1] at hp2
            rw [hp2.1] at hca
            have hne := ne_beq (Ne.symm hp2.2)
            obtain ⟨q, hq⟩ : ∃ q, q = rs.getD i9 ByteArray.empty := ⟨_, rfl⟩
            rw [← hq] at hcb hne
            have hc0 : c = 0 := by rw [HC.out, if_neg (by omega)]
            subst hc0
            have HJ : Hid (i9 = j0) := hj
            clear hp2 hq hj
            go_wp2_with fail
            go_region
            all_goals go_wp2_with fail
            go_roundw
            case rel => exact ⟨i9 + 1, 1, by omega, by go_num, by go_num, by omega, by have := HJ.out; simp [Hid, this], hbel.drew⟩
            case measure => simp [intOf]; omega
          · have hp1 := HK7.out.1.1 i9 hlt9 hj
            rw [hp1] at hca
            obtain ⟨q, hq⟩ : ∃ q, q = rs.getD i9 ByteArray.empty := ⟨_, rfl⟩
            rw [← hq] at hcb hca
            have HJ : Hid (¬ i9 = j0) := hj
            clear hp1 hq hj
            go_wp2_with fail
            go_region
            all_goals go_wp2_with fail
            go_roundw
            case rel => exact ⟨i9 + 1, c, by omega, by go_num, rfl, hc1, by have h1 := HJ.out; have h2 := HC.out; show c = _; rw [h2]; by_cases h3 : j0 < i9 <;> simp [h3] <;> omega, hbel.drew⟩
            case measure => simp [intOf]; omega
        · have hMr := H9.out.1.below hbel
          have hln := fun ty => hMr.len7 ty
          have hlk := hMr.look7 hss
          have hnl := run_eql_map_nil (P := Try.prog) wr 29 9 9 r7 Try.underlying29
          have HF : Hid (Below w.heap.size w wr) := H9.out.2.2.2.trans (hbel.mono (by omega))
          obtain ⟨eS, eK, eN, eH, eW⟩ := HD.out
          have hzl : zs.length = len2 := HS4.out.2.1.1
          have hi9' : i9 = 1024 := by omega
          have hcv := HC.out
          rw [hi9'] at hcv
          clear hMr
          rcases HK7.out.1.2.2 with ⟨g1, g2, g3, g4⟩ | ⟨g0, g1, g2, g3, g4⟩ | ⟨g0, g1, g2, g3, g4⟩
          · rw [g2, ← eN] at hln
            have hnl' : (binOp .eql 29 (.map r7) (.map none)).run Try.prog wr = .ok (.bool wn) wr := by rw [hnl, eW, g3]
            clear hnl
            rw [if_neg (by omega)] at hcv
            subst hcv
            rw [hzl, ← eS, ← HHs.out] at g4
            have HG : Hid ((1 ≤ len2 ∧ len2 ≤ 64) → hd = true) := g4
            clear eS eK eN eH eW hzl g1 g2 g3 g4 hlk HK7 hi9' HC HD
            by_cases hsh1 : len2 = 0
            · subst hsh1
              go_wp2_with fail
              go_ret
              exact ⟨rfl, HF.out⟩
            · have hd0 : ((len2 : Int) == 0) = false := by simp only [beq_eq_false_iff_ne, ne_eq]; omega
              by_cases hsh2 : 64 < len2
              · go_wp2_with fail
                go_ret
                exact ⟨rfl, HF.out⟩
              · have hdt := HG.out ⟨by omega, by omega⟩
                subst hdt
                have hd64 : decide ((64 : Int) < (len2 : Int)) = false := decide_eq_false (by omega)
                go_wp2_with fail
                go_ret
                exact ⟨rfl, HF.out⟩
          · rw [g3, ← eN] at hln
            have hnl' : (binOp .eql 29 (.map r7) (.map none)).run Try.prog wr = .ok (.bool wn) wr := by rw [hnl, eW, g4]
            clear hnl
            rw [if_pos g1] at hcv
            subst hcv
            rw [hzl] at g0
            rw [← eS, ← eH, ← eN] at g2
            obtain ⟨q1, q2⟩ := g0
            have hd0 : ((len2 : Int) == 0) = false := by simp only [beq_eq_false_iff_ne, ne_eq]; omega
            have hd64 : decide ((64 : Int) < (len2 : Int)) = false := decide_eq_false (by omega)
            clear eS eK eN eH eW hzl g1 g3 g4 hlk HK7 hi9' HC HD
            cases had with
            | true =>
              clear g2
              go_wp2_with fail
              go_ret
              exact ⟨rfl, HF.out⟩
            | false =>
              have hn4 : 4096 ≤ n0 := by simpa using g2
              have hd4 : decide ((n0 : Int) < 4096) = false := decide_eq_false (by omega)
              clear g2
              go_wp2_with fail
              go_ret
              exact ⟨rfl, HF.out⟩
          · rw [g4] at hln hlk
            rw [← eS] at hln hlk
            have hin : inB (ks ++ [s]) s = true := inB_iff.2 (by simp)
            rw [hin] at hlk
            simp only [if_true] at hlk
            have hln' : ∀ ty, (Builtin.len_ #[29] ty #[.map r7]).run Try.prog wr = .ok (.int .i64 ((n0 : Int) + 1)) wr := fun ty => by
              rw [hln ty, eN]; simp
            rw [if_pos g1] at hcv
            subst hcv
            rw [hzl] at g0
            rw [← eS, ← eH] at g2
            subst g2
            rw [← eN] at g3
            obtain ⟨q1, q2⟩ := g0
            have hd0 : ((len2 : Int) == 0) = false := by simp only [beq_eq_false_iff_ne, ne_eq]; omega
            have hd64 : decide ((64 : Int) < (len2 : Int)) = false := decide_eq_false (by omega)
            have hd4 : decide ((n0 : Int) < 4096) = true := decide_eq_true (by omega)
            have hdn : ((n0 : Int) + 1 == (n0 : Int)) = false := by simp only [beq_eq_false_iff_ne, ne_eq]; omega
            clear eS eK eN eH eW hzl g1 g4 hin hln HK7 hi9' HC HD
            go_wp2_with fail
            go_ret
            exact ⟨rfl, HF.out⟩
end Go.Proofs.Qxb6606338a
