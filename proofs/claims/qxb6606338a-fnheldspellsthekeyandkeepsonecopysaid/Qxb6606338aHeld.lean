import Derived.Test.Qxb6606338aWalkH
namespace Go.Proofs.Qxb6606338a
open Go.RowKit Go.Maps Go.WideMaps

def slotOf (zs : List Int) : Nat := slotAt zs.length (zs.getD 0 0) (zs.getD (zs.length - 1) 0)
theorem slotOf_lt (zs : List Int) : slotOf zs < 1024 := slotAt_lt _ _ _

/-- The slots behind a call. -/
def nextRs (rs : List ByteArray) (zs : List Int) : List ByteArray :=
  if (1 ≤ zs.length ∧ zs.length ≤ 64) ∧ rs.getD (slotOf zs) ByteArray.empty ≠ strOf zs then rs.set (slotOf zs) (strOf zs) else rs
/-- The map's keys behind a call. -/
def nextKs (rs ks : List ByteArray) (zs : List Int) : List ByteArray :=
  if (1 ≤ zs.length ∧ zs.length ≤ 64) ∧ rs.getD (slotOf zs) ByteArray.empty ≠ strOf zs ∧ inB ks (strOf zs) = false ∧ ks.length < 4096 then ks ++ [strOf zs] else ks

theorem toList_inj {s s' : ByteArray} (h : s.toList = s'.toList) : s = s' := by
  rw [ByteArray.toList_eq, ByteArray.toList_eq] at h
  exact data_inj h

theorem ne_beq {q s : ByteArray} (h : q ≠ s) : (q.toList == s.toList) = false := by
  simp only [beq_eq_false_iff_ne, ne_eq]
  exact fun e => h (toList_inj e)

theorem selfMap_snoc (ks : List ByteArray) (s s' : ByteArray) : (if s' = s then some (Value.string s) else selfMap ks s') = selfMap (ks ++ [s]) s' := by
  unfold selfMap
  by_cases h : s' = s
  · subst h
    rw [if_pos rfl, if_pos (inB_iff.2 (by simp))]
  · rw [if_neg h]
    by_cases h1 : inB ks s' = true
    · rw [if_pos h1, if_pos (inB_iff.2 (List.mem_append_left _ (inB_iff.1 h1)))]
    · have h2 : ¬ inB (ks ++ [s]) s' = true := by
        intro h3
        rcases List.mem_append.1 (inB_iff.1 h3) with h4 | h4
        · exact h1 (inB_iff.2 h4)
        · exact h (by simpa using h4)
      rw [if_neg h1, if_neg h2]

/-- What a call of held leaves. -/
def HeldPost (w w' : World) (hb : Nat) (r : Option Nat) (rs ks : List ByteArray) (zs : List Int) : Prop :=
  ∃ r', Tab w' hb r' (nextRs rs zs) ∧ MapF w' r' (nextKs rs ks zs) ∧ Turn (fun k => k = hb ∨ r = some k) w w' ∧ (r' = r ∨ (r = none ∧ ∃ m, r' = some m ∧ w.heap.size ≤ m)) ∧ (nextKs rs ks zs = ks → r' = r)

theorem MapF.drew {w : World} {r : Option Nat} {ks : List ByteArray} (h : MapF w r ks) : MapF w.drew r ks := h

theorem MapF.kept {w w' : World} {r : Option Nat} {ks : List ByteArray} (h : MapF w r ks) {row : Option Nat} (hg : w.grownBy w' row) (hne : ∀ mb, r = some mb → some mb ≠ row) : MapF w' r ks := by
  rcases h with h | ⟨mb, rfl, h⟩
  · exact .inl h
  · exact .inr ⟨mb, rfl, h.kept hg (hne mb rfl)⟩

theorem MapF.setCell {w : World} {r : Option Nat} {ks : List ByteArray} (h : MapF w r ks) {ad : Addr} (hne : ∀ mb, r = some mb → mb ≠ ad.block) (u : Value) : MapF (w.setCell ad u) r ks := by
  rcases h with h | ⟨mb, rfl, h⟩
  · exact .inl h
  · exact .inr ⟨mb, rfl, h.setCell (hne mb rfl) u⟩

theorem Tab.ne_mapF {w : World} {hb : Nat} {r : Option Nat} {rs ks : List ByteArray} (h : Tab w hb r rs) (hM : MapF w r ks) : ∀ mb, r = some mb → mb ≠ hb := by
  rcases hM with ⟨rfl, _⟩ | ⟨mb, rfl, hS⟩
  · intro mb e; cases e
  · intro mb' e; cases e; exact h.ne_map hS

/-- (*heldKeys).held, at whatever bytes. -/
theorem held_any (hb : Nat) (r : Option Nat) (rs ks : List ByteArray) (a : Option Addr) (len cap : Nat) (zs : List Int) (w : World) (hT : Tab w hb r rs) (hM : MapF w r ks) (h : Row w a len cap zs) (hz : ∀ z ∈ zs, 0 ≤ z ∧ z ≤ 255) (hm : len ≤ 1048576) :
    Calls Try.prog 19 #[.pointer (some ⟨hb, 0, none⟩), .slice a len cap] w fun e w' => e = .returned (.string (strOf zs)) ∧ HeldPost w w' hb r rs ks zs := by
  have hlen := h.1
  by_cases hsh : 1 ≤ zs.length ∧ zs.length ≤ 64
  case neg =>
    have e1 : nextRs rs zs = rs := if_neg (fun hh => hsh hh.1)
    have e2 : nextKs rs ks zs = ks := if_neg (fun hh => hsh hh.1)
    refine (held_long hb a len cap zs w h hm (by omega)).mono ?_
    rintro e w' ⟨rfl, rfl⟩
    exact ⟨rfl, r, by rw [e1]; exact hT, by rw [e2]; exact hM, Turn.refl _ _, .inl rfl, fun _ => rfl⟩
  obtain ⟨b, o, rfl, hbl, hc⟩ := h.2.2.2 (by omega)
  have hx := hz (zs.getD 0 0) (by rw [List.getD, List.getElem?_eq_getElem (by omega)]; exact List.getElem_mem _)
  have hy := hz (zs.getD (zs.length - 1) 0) (by rw [List.getD, List.getElem?_eq_getElem (by omega)]; exact List.getElem_mem _)
  have cx : w.cell? ⟨b, o, none⟩ = some (.int .u8 (zs.getD 0 0)) := hc 0 (by omega)
  have cy : w.cell? ⟨b, o + (len - 1), none⟩ = some (.int .u8 (zs.getD (zs.length - 1) 0)) := by rw [hlen]; exact hc (len - 1) (by omega)
  have hslot := hT.slot (slotOf_lt zs)
  have hfro := hT.frozen (1 + slotOf zs)
  have esl : slotOf zs = (((len : Int) * 31 + zs.getD 0 0 * 7 + zs.getD (zs.length - 1) 0) % 1024).toNat := by unfold slotOf slotAt; rw [hlen]
  have hs : (strOf zs).size ≤ maxLen := by rw [strOf_size]; unfold maxLen; omega
  have hc2 : (convert 24 9 (.slice (some ⟨b, o, none⟩) len cap)).run Try.prog w.drew.drew = .ok (.string (strOf zs)) w.drew.drew := conv_run (w := w.drew.drew) h
  have hc3 : (convert 24 9 (.slice (some ⟨b, o, none⟩) len cap)).run Try.prog w.drew.drew.drew = .ok (.string (strOf zs)) w.drew.drew.drew := conv_run (w := w.drew.drew.drew) h
  have hne := hT.ne_mapF hM
  by_cases hq : rs.getD (slotOf zs) ByteArray.empty = strOf zs
  · have e1 : nextRs rs zs = rs := if_neg (fun hh => hh.2 hq)
    have e2 : nextKs rs ks zs = ks := if_neg (fun hh => hh.2.1 hq)
    rw [hq, esl] at hslot
    refine (held_hit hb b o len cap (strOf zs) _ _ w (by omega) (by omega) hx hy hc2 cx cy hslot).mono ?_
    rintro e w' ⟨rfl, rfl⟩
    exact ⟨rfl, r, by rw [e1]; exact hT, by rw [e2]; exact hM, (Turn.refl _ _).drew.drew, .inl rfl, fun _ => rfl⟩
  have e1 : nextRs rs zs = rs.set (slotOf zs) (strOf zs) := if_pos ⟨hsh, hq⟩
  have hq' := ne_beq hq
  rw [esl] at hslot hfro
  have store : ∀ (had : Bool) (n : Nat), (Instr.lookup 29 (.map r) (.string (strOf zs)) true).run Try.prog w.drew.drew.drew = .ok (.tuple #[.string (if had then strOf zs else ByteArray.empty), .bool had]) w.drew.drew.drew →
      (∀ ty, (Builtin.len_ #[29] ty #[.map r]).run Try.prog w.drew.drew.drew = .ok (.int .i64 n) w.drew.drew.drew) → (had = true ∨ 4096 ≤ n) → nextKs rs ks zs = ks →
      Calls Try.prog 19 #[.pointer (some ⟨hb, 0, none⟩), .slice (some ⟨b, o, none⟩) len cap] w fun e w' => e = .returned (.string (strOf zs)) ∧ HeldPost w w' hb r rs ks zs := by
    intro had n hlk hln hn e2
    refine (held_store hb b o len cap (strOf zs) _ _ w (.map r) _ n had (by omega) (by omega) hx hy hc2 hc3 cx cy hslot (by rw [← esl]; exact hq') hfro hT.map hlk hln hn).mono ?_
    rintro e w' ⟨rfl, rfl⟩
    rw [← esl]
    exact ⟨rfl, r, by rw [e1]; exact (hT.setSlot _ _), by rw [e2]; exact hM.setCell hne _, ((Turn.refl _ _).setCell (.inl rfl) _).drew.drew.drew, .inl rfl, fun _ => rfl⟩
  rcases hM with ⟨rfl, rfl⟩ | ⟨mb, rfl, hS⟩
  · have e2 : nextKs rs [] zs = [strOf zs] := if_pos ⟨hsh, hq, rfl, by simp⟩
    refine (held_first hb b o len cap (strOf zs) _ _ w _ (by omega) (by omega) hx hy hc2 hc3 cx cy hslot (by rw [← esl]; exact hq') hfro hT.map (hT.frozen 0) hT.lt hs).mono ?_
    rintro e w' ⟨rfl, w1, hg, hS1, rfl⟩
    rw [← esl]
    have hsz : (w.setCell ⟨hb, 0, none⟩ (.map (some w.heap.size))).heap.size = w.heap.size := by simp [World.setCell]
    have hT1 : Tab ((w.setCell ⟨hb, 0, none⟩ (.map (some w.heap.size))).alloc (.map #[] 0)) hb (some w.heap.size) rs :=
      (hT.setMap (some w.heap.size)).kept (World.grownBy_alloc _ _ none) (by simp)
    have hT2 : Tab w1 hb (some w.heap.size) rs := hT1.kept hg (fun e => by have := Option.some.inj e; have := hT.lt; omega)
    have hlt := hT.lt
    refine ⟨rfl, some w.heap.size, by rw [e1]; exact hT2.setSlot _ _, ?_, ?_, .inr ⟨rfl, _, rfl, Nat.le_refl _⟩, fun e => by rw [e2] at e; cases e⟩
    · rw [e2]
      refine .inr ⟨w.heap.size, rfl, (hS1.setCell (fun e => by simp only at e; omega) _).congr (fun s' => ?_) (by simp)⟩
      have := selfMap_snoc [] (strOf zs) s'
      simpa [selfMap, inB] using this
    · exact ((((Turn.refl _ w).setCell (.inl rfl) _).alloc _).grown hg (fun k hk hlt => by cases hk; omega)).setCell (.inl rfl) _
  · have hlk0 := hS.drew.drew.drew.look Try.underlying9 Try.underlying29 (apart_string Try.underlying9) (zero9 _) (elem9 (by simp [maxLen])) hs
    have hln := fun ty => hS.drew.drew.drew.len Try.underlying29 ty
    by_cases hin : inB ks (strOf zs) = true
    · have e2 : nextKs rs ks zs = ks := if_neg (fun hh => by rw [hin] at hh; cases hh.2.2.1)
      exact store true _ (by rw [hlk0]; simp [selfMap, hin]) hln (.inl rfl) e2
    · have hin' : inB ks (strOf zs) = false := by simpa using hin
      by_cases hfull : ks.length < 4096
      · have e2 : nextKs rs ks zs = ks ++ [strOf zs] := if_pos ⟨hsh, hq, hin', hfull⟩
        have hnm := hne mb rfl
        refine (held_add hb b o len cap (strOf zs) _ _ w mb _ ks.length _ (by omega) (by omega) hx hy hc2 hc3 cx cy hslot (by rw [← esl]; exact hq') hfro hT.map (Ne.symm hnm) hT.lt hS (by simp [selfMap, hin']) hs hfull).mono ?_
        rintro e w' ⟨rfl, w1, hg, hS1, rfl⟩
        rw [← esl]
        have hT1 : Tab w1 hb (some mb) rs := hT.kept hg (fun e => hnm (Option.some.inj e).symm)
        refine ⟨rfl, some mb, by rw [e1]; exact hT1.setSlot _ _, ?_, ?_, .inl rfl, fun _ => rfl⟩
        · rw [e2]
          exact .inr ⟨mb, rfl, (hS1.setCell hnm _).congr (fun s' => selfMap_snoc ks (strOf zs) s') (by simp)⟩
        · exact ((Turn.refl _ w).grown hg (fun k hk _ => .inr hk)).setCell (.inl rfl) _
      · have e2 : nextKs rs ks zs = ks := if_neg (fun hh => hfull hh.2.2.2)
        exact store false _ (by rw [hlk0]; simp [selfMap, hin']) hln (.inr (by omega)) e2

/-- ZZHeldOn. -/
theorem heldOn_any (hb : Nat) (r : Option Nat) (rs ks : List ByteArray) (a : Option Addr) (len cap : Nat) (zs : List Int) (w : World) (hT : Tab w hb r rs) (hM : MapF w r ks) (h : Row w a len cap zs) (hz : ∀ z ∈ zs, 0 ≤ z ∧ z ≤ 255) (hm : len ≤ 1048576) :
    Calls Try.prog 12 #[.pointer (some ⟨hb, 0, none⟩), .slice a len cap] w fun e w' => e = .returned (.string (strOf zs)) ∧ HeldPost w w' hb r rs ks zs := by
  have H : Hid (Calls Try.prog 19 #[.pointer (some ⟨hb, 0, none⟩), .slice a len cap] w fun e w' => e = .returned (.string (strOf zs)) ∧ HeldPost w w' hb r rs ks zs) := held_any hb r rs ks a len cap zs w hT hM h hz hm
  clear hT hM h hz
  go_enter Try.func12, Try.ntmps12
  go_wp2_with fail
  refine H.out.mono ?_
  rintro e w' ⟨rfl, hp⟩
  go_wp2_with fail
  go_ret
  exact ⟨rfl, hp⟩

/-- ZZHeldKeysByText. -/
theorem byText_any (hb : Nat) (r : Option Nat) (w : World) (hc : w.cell? ⟨hb, 0, none⟩ = some (.map r)) :
    Calls Try.prog 13 #[.pointer (some ⟨hb, 0, none⟩)] w fun e w' => e = .returned (.map r) ∧ w' = w := by
  go_enter Try.func13, Try.ntmps13
  go_wp2_with fail
  go_ret
  exact ⟨rfl, rfl⟩
end Go.Proofs.Qxb6606338a
