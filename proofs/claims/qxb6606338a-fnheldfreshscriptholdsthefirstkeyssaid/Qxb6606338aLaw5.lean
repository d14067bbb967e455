import Derived.Test.Qxb6606338aKeys
namespace Go.Proofs.Qxb6606338a
open Go.RowKit Go.Maps Go.WideMaps

/-- What zzBytes' yes says. -/
def BytesPost (zss : List (List Int)) (len : Nat) (e : Ending) : Prop := ∃ x, e = .returned (.bool x) ∧ (x = true → ∀ t, t < len → (zss.getD t []).length ≤ 1048576)

set_option maxHeartbeats 800000 in
theorem bytes17_sure (a : Option Addr) (len cap : Nat) (zss : List (List Int)) (w : World) (h : Rows2 w a len cap zss) (hm : len ≤ 9223372036854775807) :
    Calls Try.prog 17 #[.slice a len cap] w fun e w' => BytesPost zss len e ∧ w' = w := by
  by_cases hl : 1048576 < len
  · go_enter Try.func17, Try.ntmps17
    go_wp2
    go_ret
    exact ⟨⟨false, rfl, fun h => by cases h⟩, rfl⟩
  go_enter Try.func17, Try.ntmps17
  go_wp2
  go_loop [3, 4] (fun sz si => ∃ (k : Nat) (z : Int), k ≤ len ∧ si = .int .i64 k ∧ sz = .int .i64 z ∧ 0 ≤ z ∧ z ≤ 1048576 ∧ Hid (∀ t, t < k → (zss.getD t []).length ≤ 1048576)) (fun _ si => len - (intOf si).toNat)
  case atStart => exact ⟨0, _, Nat.zero_le _, rfl, rfl, by omega, by omega, fun t ht => absurd ht (by omega)⟩
  case round =>
    obtain ⟨k, z, hk, rfl, rfl, hz0, hz1, HT⟩ := hrel
    by_cases hlt : k < len
    · obtain ⟨b, o, a', l', c', rfl, hb, hcell, hr⟩ := h.at k hlt
      have HL : Hid ((zss.getD k []).length = l') := hr.1
      clear hr h
      by_cases hl' : 1048576 < l'
      · go_wp2
        go_ret
        exact ⟨⟨false, rfl, fun h => by cases h⟩, rfl⟩
      · by_cases hs : 1048576 < z + l'
        · go_wp2
          go_ret
          exact ⟨⟨false, rfl, fun h => by cases h⟩, rfl⟩
        · go_wp2
          go_round
          case rel =>
            refine ⟨k + 1, z + l', by omega, by go_num, rfl, by omega, by omega, fun t ht => ?_⟩
            by_cases e : t = k
            · subst e; rw [HL.out]; omega
            · exact HT.out t (by omega)
          case measure => simp [intOf]; omega
    · have e : k = len := by omega
      subst e
      go_wp2
      go_ret
      exact ⟨⟨true, rfl, fun _ => HT.out⟩, rfl⟩

theorem built23 : Try.prog.built 23 [] = some ((List.replicate 1024 ByteArray.empty).map Value.string).toArray := by kernel_rfl

theorem zero3 (w : World) : (zeroValue 3).run Try.prog w = .ok (.int .i64 0) w := by kernel_rfl

def keysTo (zss : List (List Int)) (k : Nat) : List ByteArray := (zss.take k).foldl addK []
theorem keysTo_succ {zss : List (List Int)} {k : Nat} (hk : k < zss.length) : keysTo zss (k + 1) = addK (keysTo zss k) (zss.getD k []) := by
  unfold keysTo
  rw [List.take_succ_eq_append_getElem hk, List.foldl_append]
  simp [List.getD, hk]

theorem keysTo_mem {zss : List (List Int)} {t : Nat} (hs : 1 ≤ (zss.getD t []).length ∧ (zss.getD t []).length ≤ 64) : ∀ k, t < k → k ≤ zss.length → strOf (zss.getD t []) ∈ keysTo zss k := by
  intro k
  induction k with
  | zero => intro h; omega
  | succ k ih =>
    intro h1 h2
    rw [keysTo_succ (by omega)]
    by_cases e : t = k
    · subst e; exact addK_mem hs
    · exact addK_mono (ih (by omega) (by omega))

theorem Inv2.rank {wB w3 w4 : World} {B hb rb : Nat} {K Kr : List ByteArray} (h : Inv2 wB B hb rb w3 K Kr) (hg : w3.grownBy w4 (some rb)) (hS : SMap Try.prog 3 w4 rb (rankMap K) K.length) (hne : hb ≠ rb) (hB : B ≤ rb) : Inv2 wB B hb rb w4 K K := by
  obtain ⟨r, rs, hT, hM, hR, hrs, hnil, hmb, hbel⟩ := h
  refine ⟨r, rs, hT.kept hg (fun e => hne (Option.some.inj e)), hM.kept hg (fun mb e e' => (hmb mb e).2 (Option.some.inj e')), hS, hrs, hnil, hmb, ?_⟩
  exact hbel.grown hg (by have := hR.lt; omega) (fun k hk => by cases hk; exact hB)

theorem MapF.len {w : World} {r : Option Nat} {ks : List ByteArray} (h : MapF w r ks) (ty : TypeId) : (Builtin.len_ #[29] ty #[.map r]).run Try.prog w = .ok (.int .i64 ks.length) w := by
  rcases h with ⟨rfl, rfl⟩ | ⟨mb, rfl, h⟩
  · exact Maps.len_nil Try.underlying29 ty
  · exact h.len Try.underlying29 ty

theorem MapF.look {w : World} {r : Option Nat} {ks : List ByteArray} (h : MapF w r ks) {s : ByteArray} (hs : s.size ≤ maxLen) : (Instr.lookup 29 (.map r) (.string s) true).run Try.prog w = .ok (.tuple #[.string (if inB ks s then s else ByteArray.empty), .bool (inB ks s)]) w := by
  rcases h with ⟨rfl, rfl⟩ | ⟨mb, rfl, h⟩
  · exact Maps.look_nil true (string_keyed Try.underlying9) Try.underlying29 (zero9 _) (keyOf_string_mk Try.underlying9 hs)
  · rw [h.look Try.underlying9 Try.underlying29 (apart_string Try.underlying9) (zero9 _) (elem9 (by simp [maxLen])) hs]
    cases hi : inB ks s <;> simp [selfMap, hi]

set_option maxHeartbeats 3200000 in
set_option maxRecDepth 100000 in
theorem law5 (a : Option Addr) (len cap : Nat) (zss : List (List Int)) (w : World) (h : Rows2 w a len cap zss) (hz : ∀ zs ∈ zss, ∀ z ∈ zs, 0 ≤ z ∧ z ≤ 255) (hm : len ≤ maxLen) :
    Calls Try.prog 5 #[.slice a len cap] w fun e w' => e = .returned (.bool true) ∧ Below w.heap.size w w' := by
  unfold maxLen at hm
  have HZ : Hid (∀ zs ∈ zss, ∀ z ∈ zs, 0 ≤ z ∧ z ≤ 255) := hz
  have HL : Hid (zss.length = len) := h.1
  clear hz
  go_enter Try.func5, Try.ntmps5
  go_wp2_with fail
  refine (bytes17_sure _ _ _ zss _ h hm).mono ?_
  rintro e w' ⟨⟨x, rfl, hx⟩, rfl⟩
  cases x with
  | false =>
    go_wp2_with fail
    go_ret
    exact ⟨rfl, Below.refl _ _⟩
  | true =>
  have HB : Hid (∀ t, t < len → (zss.getD t []).length ≤ 1048576) := hx rfl
  clear hx
  by_cases h0 : 65536 < len
  · go_wp2_with fail
    go_ret
    exact ⟨rfl, Below.refl _ _⟩
  go_wp2_with fail
  go_loop [3, 4] (fun ss si => ∃ k s : Nat, k ≤ len ∧ si = .int .i64 k ∧ ss = .int .i64 s ∧ s ≤ 1048576) (fun _ si => len - (intOf si).toNat)
  case atStart => exact ⟨0, 0, Nat.zero_le _, rfl, by go_num, by omega⟩
  case round =>
    obtain ⟨k, s, hk, rfl, rfl, hs⟩ := hrel
    by_cases hlt : k < len
    · obtain ⟨b, o, a', l', c', rfl, hb, hcell, hr⟩ := h.at k hlt
      have hl' : l' ≤ 1048576 := by rw [← hr.1]; exact HB.out k hlt
      clear hr
      by_cases hs2 : 1048576 < s + (24 + l')
      · go_wp2_with fail
        go_ret
        exact ⟨rfl, Below.refl _ _⟩
      · go_wp2_with fail
        go_round
        case rel => exact ⟨k + 1, s + (24 + l'), by omega, by go_num, by go_num, by omega⟩
        case measure => simp [intOf]; omega
    · have hC := cloneLists_any a len cap zss w' h (by omega) HB.out
      have HC : Hid (Calls Try.prog 18 #[.slice a len cap] w' fun e w'' => ∃ a' cap', e = .returned (.slice a' len cap') ∧ Rows2 w'' a' len cap' zss ∧ Below w'.heap.size w' w'') := hC
      clear hC h
      go_wp2_with fail
      refine HC.out.mono ?_
      rintro e w1 ⟨a1, c1, rfl, hR1, hb1⟩
      have HR1 : Hid (Rows2 w1 a1 len c1 zss) := hR1
      have HB1 : Hid (Below w'.heap.size w' w1) := hb1
      clear HC hR1 hb1 hs hk hlt
      obtain ⟨rs0, hrs0⟩ : ∃ rs0, rs0 = List.replicate 1024 ByteArray.empty := ⟨_, rfl⟩
      have hb23 := built23
      rw [← hrs0] at hb23
      have hlen0 : rs0.length = 1024 := by rw [hrs0]; simp
      have hemp : ∀ q ∈ rs0, q = ByteArray.empty := fun q hq => by rw [hrs0] at hq; exact List.eq_of_mem_replicate hq
      have HE : Hid ((∀ q ∈ rs0, q = ByteArray.empty) ∧ rs0.length = 1024) := ⟨hemp, hlen0⟩
      obtain ⟨cs, hcs⟩ : ∃ cs, cs = (rs0.map Value.string).toArray := ⟨_, rfl⟩
      rw [← hcs] at hb23
      have HB23 : Hid (Try.prog.built 23 [] = some cs) := hb23
      have HCS : Hid (cs = (rs0.map Value.string).toArray) := hcs
      have hsz : cs.size = 1024 := by rw [hcs]; simp [hlen0]
      have hM := make_any none cs hsz w1
      have HM : Hid (Calls Try.prog 11 #[.map none, .agg cs] w1 fun e w' => e = .returned (.pointer (some ⟨w1.heap.size + 1, 0, none⟩)) ∧ w' = (w1.alloc (.cells cs 23)).alloc (.cells (#[Value.map none] ++ cs) 44)) := hM
      have hmm := @run_makeMap Try.prog
      clear hrs0 hb23 hcs hlen0 hemp hsz hM
      go_wp2_with (refine wpList_built rfl 23 _ rfl cs ?_ ?_; (simp only [List.map_toArray, List.map_nil]; exact HB23.out))
      refine HM.out.mono ?_
      rintro e w2 ⟨rfl, hw2⟩
      have hT2 : Tab w2 (w1.heap.size + 1) none rs0 := by rw [hw2, HCS.out]; exact tab_made w1 none rs0 HE.out.2
      have hb2 : Below w1.heap.size w1 w2 := by rw [hw2]; exact ((Below.refl _ _).alloc (Nat.le_refl _) _).alloc (by simp) _
      have hs2 : w2.heap.size = w1.heap.size + 2 := by rw [hw2]; simp
      have HI0 : Hid (Inv2 w1 w1.heap.size (w1.heap.size + 1) w2.heap.size (w2.alloc (.map #[] 0)) (keysTo zss 0) (keysTo zss 0)) :=
        ⟨none, rs0, hT2.kept (World.grownBy_alloc _ _ none) (by simp), .inl ⟨rfl, by simp [keysTo]⟩, SMap.congr (SMap.made w2) (fun s => by simp [keysTo, rankMap, inB]) (by simp [keysTo]), fun q hq => .inl (HE.out.1 q hq), by simp [keysTo], (fun mb e => by cases e), hb2.alloc (by omega) _⟩
      have hs2' : w1.heap.size + 2 ≤ w2.heap.size := by omega
      have HS2 : Hid (w2.heap.size = w1.heap.size + 2) := hs2
      have hpos : w1.heap.size ≤ w2.heap.size := by omega
      clear hw2 hT2 hb2 hs2 HM HCS HB23 HE
      go_wp2_with fail
      clear hmm
      go_loopw [7, 8] (fun sd si wr => ∃ k D : Nat, k ≤ len ∧ si = .int .i64 k ∧ sd = .int .i64 D ∧ D ≤ k ∧ Hid (D = (keysTo zss k).length) ∧ Hid (Inv2 w1 w1.heap.size (w1.heap.size + 1) w2.heap.size wr (keysTo zss k) (keysTo zss k)) ∧ w2.heap.size < wr.heap.size) (fun _ si _ => len - (intOf si).toNat)
      case atStart => exact ⟨0, 0, Nat.zero_le _, rfl, rfl, Nat.le_refl _, by simp [Hid, keysTo], HI0, by simp⟩
      case round =>
        clear HI0
        obtain ⟨k, D, hk, rfl, rfl, hD, HD, HI, hsw⟩ := hrel
        obtain ⟨r, rs, hT, hM, hRk, hrs, hnil, hmb, hbel⟩ := HI.out
        by_cases hlt : k < len
        · obtain ⟨b, o, a', l', c', rfl, hb, hcell1, hr1⟩ := HR1.out.at k hlt
          have hcell : wr.cell? ⟨b, o + k, none⟩ = some (.slice a' l' c') := (hbel.cell (by exact hb)).trans hcell1
          have hr := hr1.below hbel
          have HC1 : Hid (w1.cell? ⟨b, o + k, none⟩ = some (.slice a' l' c')) := hcell1
          obtain ⟨zs, hzs⟩ : ∃ zs, zs = zss.getD k [] := ⟨_, rfl⟩
          rw [← hzs] at hr
          obtain ⟨s, hs⟩ : ∃ s, s = strOf zs := ⟨_, rfl⟩
          have hc0 := conv_run hr
          have hzb : ∀ z ∈ zs, 0 ≤ z ∧ z ≤ 255 := HZ.out zs (by rw [hzs, List.getD, List.getElem?_eq_getElem (by rw [HL.out]; exact hlt)]; exact List.getElem_mem _)
          have hl' : l' ≤ 1048576 := by rw [← hr.1, hzs]; exact HB.out k hlt
          have hH := heldOn_any (w1.heap.size + 1) r rs ((keysTo zss k).take 4096) a' l' c' zs wr hT hM hr hzb hl'
          rw [← hs] at hc0 hH
          have HH : Hid (Calls Try.prog 12 #[.pointer (some ⟨w1.heap.size + 1, 0, none⟩), .slice a' l' c'] wr fun e w' => e = .returned (.string s) ∧ HeldPost wr w' (w1.heap.size + 1) r rs ((keysTo zss k).take 4096) zs) := hH
          have HP : Hid (∀ w3, HeldPost wr w3 (w1.heap.size + 1) r rs ((keysTo zss k).take 4096) zs → Inv2 w1 w1.heap.size (w1.heap.size + 1) w2.heap.size w3 (addK (keysTo zss k) zs) (keysTo zss k) ∧ wr.heap.size ≤ w3.heap.size) :=
            fun w3 hp => ⟨Inv2.held hT hRk hrs hnil hmb hbel (by omega) (by omega) (by omega) hp, by obtain ⟨_, _, _, ht, _⟩ := hp; exact ht.size⟩
          have HZS : Hid (zs = zss.getD k [] ∧ s = strOf zs ∧ zs.length = l' ∧ keysTo zss (k + 1) = addK (keysTo zss k) zs) := ⟨hzs, hs, hr.1, by rw [keysTo_succ (by rw [HL.out]; exact hlt), hzs]⟩
          clear hzb hH hT hM hRk hrs hnil hmb hbel hzs hs hr hr1 hcell1 HI
          go_wp2_with fail
          refine HH.out.mono ?_
          rintro e w3 ⟨rfl, hp⟩
          obtain ⟨hI3, hsz3⟩ := HP.out w3 hp
          have HI3 : Hid (Inv2 w1 w1.heap.size (w1.heap.size + 1) w2.heap.size w3 (addK (keysTo zss k) zs) (keysTo zss k)) := hI3
          obtain ⟨r3, rs3, hT3, hM3, hRk3, hrs3, hnil3, hmb3, hbel3⟩ := hI3
          have hcell3 : w3.cell? ⟨b, o + k, none⟩ = some (.slice a' l' c') := (hbel3.cell (by exact hb)).trans HC1.out
          have hss : s.size ≤ maxLen := by rw [HZS.out.2.1, strOf_size, HZS.out.2.2.1]; unfold maxLen; omega
          have hlk := hRk3.look Try.underlying9 Try.underlying41 (apart_int Try.underlying3) (zero3 _) (plainElem_int Try.underlying3 (by decide)) hss
          have HRk : Hid (SMap Try.prog 3 w3 w2.heap.size (rankMap (keysTo zss k)) (keysTo zss k).length) := hRk3
          have hsw3 : w2.heap.size < w3.heap.size := by omega
          clear hp HP HH hcell hc0 hT3 hM3 hRk3 hrs3 hnil3 hmb3 hbel3 hsz3
          by_cases hsh : 1 ≤ l' ∧ l' ≤ 64
          case neg =>
            have hK : keysTo zss (k + 1) = keysTo zss k := by
              rw [HZS.out.2.2.2]; unfold addK
              rw [if_neg (fun h => hsh (by rw [← HZS.out.2.2.1]; exact h.1))]
            have HN : Hid (D = (keysTo zss (k + 1)).length) := by rw [hK]; exact HD
            have HN2 : Hid (Inv2 w1 w1.heap.size (w1.heap.size + 1) w2.heap.size w3 (keysTo zss (k + 1)) (keysTo zss (k + 1))) := by
              have h1 := HI3.out
              rw [← HZS.out.2.2.2] at h1
              rw [hK] at h1 ⊢
              exact h1
            clear hK hlk HI3 HRk
            by_cases h1 : 1 ≤ l'
            · have h2 : 64 < l' := by omega
              go_wp2_with fail
              go_roundw
              case rel => exact ⟨k + 1, D, by omega, by go_num, rfl, by omega, HN, HN2, hsw3⟩
              case measure => simp [intOf]; omega
            · go_wp2_with fail
              go_roundw
              case rel => exact ⟨k + 1, D, by omega, by go_num, rfl, by omega, HN, HN2, hsw3⟩
              case measure => simp [intOf]; omega
          obtain ⟨hsh1, hsh2⟩ := hsh
          by_cases hin : inB (keysTo zss k) s = true
          · have hK : keysTo zss (k + 1) = keysTo zss k := by
              rw [HZS.out.2.2.2]; unfold addK
              rw [if_neg (fun h => by rw [← HZS.out.2.1, hin] at h; cases h.2)]
            have HN : Hid (D = (keysTo zss (k + 1)).length) := by rw [hK]; exact HD
            have HN2 : Hid (Inv2 w1 w1.heap.size (w1.heap.size + 1) w2.heap.size w3 (keysTo zss (k + 1)) (keysTo zss (k + 1))) := by
              have h1 := HI3.out
              rw [← HZS.out.2.2.2] at h1
              rw [hK] at h1 ⊢
              exact h1
            have hlk' : (Instr.lookup 41 (.map (some w2.heap.size)) (.string s) true).run Try.prog w3 = .ok (.tuple #[.int .i64 (idxB (keysTo zss k) s), .bool true]) w3 := by
              rw [hlk]; simp [rankMap, hin]
            obtain ⟨ix, hix⟩ : ∃ ix : Int, ix = (idxB (keysTo zss k) s : Int) := ⟨_, rfl⟩
            rw [← hix] at hlk'
            clear hK hlk HI3 HRk hin hix
            go_wp2_with fail
            go_roundw
            case rel => exact ⟨k + 1, D, by omega, by go_num, rfl, by omega, HN, HN2, hsw3⟩
            case measure => simp [intOf]; omega
          · have hin' : inB (keysTo zss k) s = false := by simpa using hin
            have hK : keysTo zss (k + 1) = keysTo zss k ++ [s] := by
              rw [HZS.out.2.2.2]; unfold addK
              rw [if_pos ⟨by rw [HZS.out.2.2.1]; exact ⟨hsh1, hsh2⟩, by rw [← HZS.out.2.1]; exact hin'⟩, ← HZS.out.2.1]
            have HN : Hid (D + 1 = (keysTo zss (k + 1)).length) := by rw [hK]; have := HD.out; simp [Hid]; omega
            have hlk' : (Instr.lookup 41 (.map (some w2.heap.size)) (.string s) true).run Try.prog w3 = .ok (.tuple #[.int .i64 0, .bool false]) w3 := by
              rw [hlk]; simp [rankMap, hin']
            have HNI : Hid (s ∉ keysTo zss k) := fun h => hin (inB_iff.2 h)
            have HNF : Hid (rankMap (keysTo zss k) s = none) := by simp [Hid, rankMap, hin']
            have HKK : Hid (keysTo zss (k + 1) = keysTo zss k ++ [s]) := hK
            have HDl : Hid ((keysTo zss k).length < maxLen) := by rw [← HD.out]; unfold maxLen; show D < _; omega
            clear hlk hin hin' hK
            go_wp2_with (at_mapUpdate; refine wpList_put _ rfl _ _ _ 41 rfl 3 Try.underlying9 Try.underlying41 w2.heap.size (keysTo zss k).length _ rfl HRk.out HDl.out s (.int .i64 D) _ rfl hss rfl (plainElem_int Try.underlying3 (WalkArith.wf_i64 (by omega))) ?_; intro w4 hS4 hg4)
            have HI4 : Hid (Inv2 w1 w1.heap.size (w1.heap.size + 1) w2.heap.size w4 (keysTo zss (k + 1)) (keysTo zss (k + 1))) := by
              have h1 := HI3.out
              rw [← HZS.out.2.2.2] at h1
              rw [HNF.out, ← HD.out] at hS4
              exact h1.rank hg4 (hS4.congr (fun s' => by rw [HKK.out, ← rankMap_snoc HNI.out s', HD.out]) (by simpa using HN.out)) (by omega) (by omega)
            have hsw4 : w2.heap.size < w4.heap.size := Nat.lt_of_lt_of_le hsw3 hg4.size
            go_roundw
            case rel => exact ⟨k + 1, D + 1, by omega, by go_num, by go_num, by omega, HN, HI4, hsw4⟩
            case measure => simp [intOf]; omega
        · have ek : k = len := by omega
          subst ek
          have hcm := hT.map
          have heq : (binOp .eql 29 (.map r) (.map none)).run Try.prog wr = .ok (.bool ((D : Int) == 0)) wr := by
            rw [run_eql_map_nil (P := Try.prog) wr 29 9 9 r Try.underlying29]
            congr 2
            cases hr : r with
            | none => have := hnil.1 hr; have hd := HD.out; rw [this] at hd; simp at hd; simp [hd]
            | some mb =>
              have hK : keysTo zss k ≠ [] := fun e => by rw [hnil.2 e] at hr; cases hr
              have hd := HD.out
              have : 0 < (keysTo zss k).length := List.length_pos_iff.2 hK
              simp; omega
          have hln := fun ty => hM.len ty
          obtain ⟨M, hMl⟩ : ∃ M, M = ((keysTo zss k).take 4096).length := ⟨_, rfl⟩
          rw [← hMl] at hln
          have hMm : M = min 4096 D := by rw [hMl, HD.out]; simp
          have HMF : Hid (MapF wr r ((keysTo zss k).take 4096)) := hM
          have HRk : Hid (SMap Try.prog 3 wr w2.heap.size (rankMap (keysTo zss k)) (keysTo zss k).length) := hRk
          have hBT := byText_any (w1.heap.size + 1) r wr hcm
          have HBT : Hid (Calls Try.prog 13 #[.pointer (some ⟨w1.heap.size + 1, 0, none⟩)] wr fun e w' => e = .returned (.map r) ∧ w' = wr) := hBT
          clear hT hM hRk hrs hnil hmb hcm hMl hBT HI
          go_wp2_with fail
          refine HBT.out.mono ?_
          rintro e w3 ⟨rfl, rfl⟩
          by_cases hbig : 4096 < D
          · have e1 : M = 4096 := by omega
            subst e1
            clear hMm
            go_wp2_with fail
            go_loop [14] (fun si => ∃ t : Nat, t ≤ k ∧ si = .int .i64 t) (fun si => k - (intOf si).toNat)
            case atStart => exact ⟨0, Nat.zero_le _, rfl⟩
            case round =>
              obtain ⟨t, ht, rfl⟩ := hrel
              by_cases hlt3 : t < k
              · obtain ⟨b, o, a', l', c', rfl, hb, hcell1, hr1⟩ := HR1.out.at t hlt3
                have hcell : w3.cell? ⟨b, o + t, none⟩ = some (.slice a' l' c') := (hbel.cell (by exact hb)).trans hcell1
                have hr := hr1.below hbel
                have hl' : l' ≤ 1048576 := by rw [← hr.1]; exact HB.out t hlt3
                have hcv := conv_run hr
                have hzl := hr.1
                clear hcell1 hr1 hr heq hln
                by_cases h1 : 1 ≤ l'
                · by_cases h2 : l' ≤ 64
                  · obtain ⟨s, hs⟩ : ∃ s, s = strOf (zss.getD t []) := ⟨_, rfl⟩
                    have hsK : s ∈ keysTo zss k := by rw [hs]; exact keysTo_mem (by rw [hzl]; exact ⟨h1, h2⟩) k hlt3 (by rw [HL.out]; exact Nat.le_refl _)
                    have hss : s.size ≤ maxLen := by rw [hs, strOf_size, hzl]; unfold maxLen; omega
                    rw [← hs] at hcv
                    have hlk := HMF.out.look hss
                    have hlr := HRk.out.look1 Try.underlying9 Try.underlying41 (apart_int Try.underlying3) (zero3 _) (plainElem_int Try.underlying3 (by decide)) hss
                    have eR : (rankMap (keysTo zss k) s).getD (Value.int .i64 0) = .int .i64 (idxB (keysTo zss k) s) := by simp [rankMap, inB_iff.2 hsK]
                    rw [eR] at hlr
                    have hiff := idxB_take hsK 4096
                    obtain ⟨ix, hix⟩ : ∃ ix, ix = idxB (keysTo zss k) s := ⟨_, rfl⟩
                    rw [← hix] at hlr hiff
                    cases hok : inB ((keysTo zss k).take 4096) s with
                    | true =>
                      have hlt4 : ix < 4096 := hiff.2 (inB_iff.1 hok)
                      have hd4 : decide ((ix : Int) < 4096) = true := decide_eq_true (by omega)
                      rw [hok] at hlk
                      simp only [if_true] at hlk
                      clear hs hsK hss hix hiff eR hok hzl
                      go_wp2_with fail
                      go_round
                      case rel => exact ⟨t + 1, by omega, by go_num⟩
                      case measure => simp [intOf]; omega
                    | false =>
                      have hlt4 : 4096 ≤ ix := by
                        apply Nat.le_of_not_lt
                        intro h
                        rw [inB_iff.2 (hiff.1 h)] at hok
                        cases hok
                      have hd4 : decide ((ix : Int) < 4096) = false := decide_eq_false (by omega)
                      rw [hok] at hlk
                      simp only [Bool.false_eq_true, if_false] at hlk
                      clear hs hsK hss hix hiff eR hok hzl
                      go_wp2_with fail
                      go_round
                      case rel => exact ⟨t + 1, by omega, by go_num⟩
                      case measure => simp [intOf]; omega
                  · have h3 : 64 < l' := by omega
                    clear hcv hzl
                    go_wp2_with fail
                    go_round
                    case rel => exact ⟨t + 1, by omega, by go_num⟩
                    case measure => simp [intOf]; omega
                · clear hcv hzl
                  go_wp2_with fail
                  go_round
                  case rel => exact ⟨t + 1, by omega, by go_num⟩
                  case measure => simp [intOf]; omega
              · go_wp2_with fail
                go_ret
                exact ⟨rfl, HB1.out.trans (hbel.mono HB1.out.size)⟩
          · have e1 : M = D := by omega
            subst e1
            clear hMm
            go_wp2_with fail
            go_loop [14] (fun si => ∃ t : Nat, t ≤ k ∧ si = .int .i64 t) (fun si => k - (intOf si).toNat)
            case atStart => exact ⟨0, Nat.zero_le _, rfl⟩
            case round =>
              obtain ⟨t, ht, rfl⟩ := hrel
              by_cases hlt3 : t < k
              · obtain ⟨b, o, a', l', c', rfl, hb, hcell1, hr1⟩ := HR1.out.at t hlt3
                have hcell : w3.cell? ⟨b, o + t, none⟩ = some (.slice a' l' c') := (hbel.cell (by exact hb)).trans hcell1
                have hr := hr1.below hbel
                have hl' : l' ≤ 1048576 := by rw [← hr.1]; exact HB.out t hlt3
                have hcv := conv_run hr
                have hzl := hr.1
                clear hcell1 hr1 hr heq hln
                by_cases h1 : 1 ≤ l'
                · by_cases h2 : l' ≤ 64
                  · obtain ⟨s, hs⟩ : ∃ s, s = strOf (zss.getD t []) := ⟨_, rfl⟩
                    have hsK : s ∈ keysTo zss k := by rw [hs]; exact keysTo_mem (by rw [hzl]; exact ⟨h1, h2⟩) k hlt3 (by rw [HL.out]; exact Nat.le_refl _)
                    have hss : s.size ≤ maxLen := by rw [hs, strOf_size, hzl]; unfold maxLen; omega
                    rw [← hs] at hcv
                    have hlk := HMF.out.look hss
                    have hlr := HRk.out.look1 Try.underlying9 Try.underlying41 (apart_int Try.underlying3) (zero3 _) (plainElem_int Try.underlying3 (by decide)) hss
                    have eR : (rankMap (keysTo zss k) s).getD (Value.int .i64 0) = .int .i64 (idxB (keysTo zss k) s) := by simp [rankMap, inB_iff.2 hsK]
                    rw [eR] at hlr
                    have hiff := idxB_take hsK 4096
                    obtain ⟨ix, hix⟩ : ∃ ix, ix = idxB (keysTo zss k) s := ⟨_, rfl⟩
                    rw [← hix] at hlr hiff
                    cases hok : inB ((keysTo zss k).take 4096) s with
                    | true =>
                      have hlt4 : ix < 4096 := hiff.2 (inB_iff.1 hok)
                      have hd4 : decide ((ix : Int) < 4096) = true := decide_eq_true (by omega)
                      rw [hok] at hlk
                      simp only [if_true] at hlk
                      clear hs hsK hss hix hiff eR hok hzl
                      go_wp2_with fail
                      go_round
                      case rel => exact ⟨t + 1, by omega, by go_num⟩
                      case measure => simp [intOf]; omega
                    | false =>
                      have hlt4 : 4096 ≤ ix := by
                        apply Nat.le_of_not_lt
                        intro h
                        rw [inB_iff.2 (hiff.1 h)] at hok
                        cases hok
                      have hd4 : decide ((ix : Int) < 4096) = false := decide_eq_false (by omega)
                      rw [hok] at hlk
                      simp only [Bool.false_eq_true, if_false] at hlk
                      clear hs hsK hss hix hiff eR hok hzl
                      go_wp2_with fail
                      go_round
                      case rel => exact ⟨t + 1, by omega, by go_num⟩
                      case measure => simp [intOf]; omega
                  · have h3 : 64 < l' := by omega
                    clear hcv hzl
                    go_wp2_with fail
                    go_round
                    case rel => exact ⟨t + 1, by omega, by go_num⟩
                    case measure => simp [intOf]; omega
                · clear hcv hzl
                  go_wp2_with fail
                  go_round
                  case rel => exact ⟨t + 1, by omega, by go_num⟩
                  case measure => simp [intOf]; omega
              · go_wp2_with fail
                go_ret
                exact ⟨rfl, HB1.out.trans (hbel.mono HB1.out.size)⟩
end Go.Proofs.Qxb6606338a
