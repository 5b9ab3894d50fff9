import Derived.Test.Qxb6609358aDoorE
namespace Go.Proofs.Qxb6609358aDoor.A
open Go.ChangeShapes Go.WideShapes Go.ChangeAt Go.RowKit P
set_option linter.unusedVariables false

theorem idx_tail {c : UInt8} {l : List UInt8} {sub : List UInt8} (h : Lib.index (c :: l) sub = -1) : sub.isPrefixOf (c :: l) = false ∧ Lib.index l sub = -1 := by
  have hge := Lib.index_ge l sub
  rw [Lib.index] at h
  split at h
  · cases h
  · rename_i hp
    refine ⟨Bool.eq_false_iff.2 hp, ?_⟩
    split at h
    · rename_i hq; exact beq_iff_eq.1 hq
    · omega
theorem has1_no : ∀ (l : List UInt8) (b : Bool), (b = true → Lib.index (126 :: l) [126, 49] = -1) → Lib.index l [126, 49] = -1 → has1 b l = false
  | [], b, _, _ => by cases b <;> rfl
  | c :: l, false, _, h => by
    rw [has1]
    refine has1_no l _ (fun e => ?_) (idx_tail h).2
    by_cases hc : c = 126
    · subst hc; exact h
    · simp [hc] at e
  | c :: l, true, hb, h => by
    have hp := (idx_tail (hb rfl)).1
    have hc : c ≠ 49 := by rintro rfl; simp at hp
    rw [has1, if_neg hc, Bool.false_or]
    refine has1_no l _ (fun e => ?_) (idx_tail h).2
    by_cases hc : c = 126
    · subst hc; exact h
    · simp [hc] at e
theorem has1_of (l : List UInt8) (h : Lib.contains (47 :: l) [126, 49] = false) : has1 false l = false := by
  have h1 : Lib.index (47 :: l) [126, 49] = -1 := by
    have := Lib.index_ge (47 :: l) [126, 49]
    have h2 : ¬ 0 ≤ Lib.index (47 :: l) [126, 49] := by simpa [Lib.contains] using h
    omega
  exact has1_no l false (fun e => by cases e) (idx_tail h1).2
theorem txt_map_le (ts : List (List UInt8)) : (txt (ts.map (dec false))).length ≤ (txt ts).length := by
  induction ts with
  | nil => exact Nat.le_refl _
  | cons t ts ih => have := dec_le false t; simp [txt]; omega

/-- A parsed pointer: its text and its tokens. -/
def PtrIs (w : World) (v : Value) (t : ByteArray) (ts : List (List UInt8)) : Prop :=
  L t = txt ts ∧ t.size ≤ 4194304 ∧ ((v = .slice none 0 0 ∧ ∀ x ∈ ts, ∀ c ∈ x, c ≠ 47) ∨ ∃ g cap, v = .slice (some ⟨g, 0, none⟩) ts.length cap ∧ EndsAt w g ts)
theorem EndsAt.below {w w' : World} {g : Nat} {ts : List (List UInt8)} (h : EndsAt w g ts) (hb : Below w.heap.size w w') : EndsAt w' g ts :=
  ⟨Nat.lt_of_lt_of_le h.1 hb.size, fun i e hi => (hb.cell (p := ⟨g, i, none⟩) h.1).trans (h.2 i e hi)⟩
theorem PtrIs.below {w w' : World} {v : Value} {t : ByteArray} {ts : List (List UInt8)} (h : PtrIs w v t ts) (hb : Below w.heap.size w w') : PtrIs w' v t ts :=
  ⟨h.1, h.2.1, h.2.2.elim .inl fun ⟨g, cap, e, hg⟩ => .inr ⟨g, cap, e, hg.below hb⟩⟩
/-- The pointer's tokens. -/
def ptoks : List UInt8 → List (List UInt8)
  | [] => []
  | _ :: l => toks l

/-- unescape, both ways. -/
theorem unesc_any (s : ByteArray) (l : List UInt8) (m : Int) (w : World) (hs : s.size ≤ 4194304) (hL : L s = 47 :: l) (hw : wf false l = true) (hm : w.cell? ⟨4, 0, none⟩ = some (.int .i64 m)) :
    Calls Tryd.prog 39 #[.string s] w fun e w' => (∃ v t, e = .returned (.tuple #[.agg #[.string t, v], .nilIface]) ∧ PtrIs w' v t (toks l) ∧ v.cells.size = 1) ∧ Below w.heap.size w w' := by
  have hsz : (mkB (txt (toks l))).size ≤ 4194304 := by
    rw [mk_size]
    have h1 := txt_map_le (raw l)
    rw [txt_raw, ← hL, L_len] at h1
    exact Nat.le_trans h1 hs
  cases hc : Lib.contains s.data.toList [126, 49] with
  | false =>
    refine (unesc_nil s l m w hs hL hw hm hc).mono ?_
    rintro e w' ⟨rfl, hB⟩
    refine ⟨⟨_, _, rfl, ⟨rfl, hsz, .inl ⟨rfl, ?_⟩⟩, rfl⟩, hB⟩
    exact toks_no47 l hw (has1_of l (by rw [← hL]; exact hc))
  | true =>
    refine (unesc_ends s l m w hs hL hw hm hc).mono ?_
    rintro e w' ⟨⟨g, cap, rfl, hE⟩, hB⟩
    exact ⟨⟨_, _, rfl, ⟨rfl, hsz, .inr ⟨g, cap, rfl, hE⟩⟩, rfl⟩, hB⟩

theorem box31 {X : World} {n : Nat} {x y : Value} (A B : Value) (h : X.heap[n]? = some (.cells #[x, y] 31)) : ((X.setCell ⟨n, 0, none⟩ A).setCell ⟨n, 1, none⟩ B).heap[n]? = some (.cells #[A, B] 31) := by
  simp [World.setCell, Array.getElem?_modify, h]
theorem below31 {w X : World} {n : Nat} (A B : Value) (h : Below n w X) : Below n w ((X.setCell ⟨n, 0, none⟩ A).setCell ⟨n, 1, none⟩ B) :=
  (h.setCell (p := ⟨n, 0, none⟩) (Nat.le_refl _) _).setCell (p := ⟨n, 1, none⟩) (Nat.le_refl _) _

set_option maxHeartbeats 2000000 in
/-- Parse, at a well-formed text. -/
theorem parse_any (s : ByteArray) (m : Int) (w : World) (hs : s.size ≤ 4194304) (hw : wfp (L s) = true) (hm : w.cell? ⟨4, 0, none⟩ = some (.int .i64 m)) :
    Calls Tryd.prog 17 #[.string s] w fun e w' => (∃ v t, e = .returned (.tuple #[.agg #[.string t, v], .nilIface]) ∧ PtrIs w' v t (ptoks (L s))) ∧ Below w.heap.size w w' := by
  have hm4 : 4 < w.heap.size := by
    rcases Nat.lt_or_ge 4 w.heap.size with h | h
    · exact h
    · simp [World.cell?, Array.getElem?_eq_none h] at hm
  have hma := Lib.cell?_alloc_some (.cells #[.string { data := #[] }, .slice none 0 0] 31) hm
  have hb0 := World.alloc_heap_new w (.cells #[.string { data := #[] }, .slice none 0 0] 31)
  have hBa : Below w.heap.size w (w.alloc (.cells #[.string { data := #[] }, .slice none 0 0] 31)) := (Below.refl _ w).alloc (Nat.le_refl _) _
  obtain ⟨n0, hn0⟩ : ∃ n, w.heap.size = n := ⟨_, rfl⟩
  rw [hn0] at hb0 hBa hm4 ⊢
  have HB : Hid _ := hBa
  have H0 : Hid _ := hb0
  have HM : Hid _ := hma
  clear hBa hb0 hma hm
  by_cases hz : s.size = 0
  · have hse : s = ⟨#[]⟩ := by
      cases s with | mk d => cases d with | mk l => cases l with
        | nil => rfl
        | cons a b => simp [ByteArray.size] at hz
    subst hse
    clear hz hw hs
    have hc := H0.out
    have hc1 : (w.alloc (.cells #[.string { data := #[] }, .slice none 0 0] 31)).cell? ⟨n0, 0, none⟩ = some (.string { data := #[] }) := by simp only [World.cell?, hc]; rfl
    have hc2 : (w.alloc (.cells #[.string { data := #[] }, .slice none 0 0] 31)).cell? ⟨n0, 1, none⟩ = some (.slice none 0 0) := by simp only [World.cell?, hc]; rfl
    clear hc
    go_enter Tryd.func17, Tryd.ntmps17
    go_wp2
    refine bodyPost_ret (v := .tuple #[.agg #[.string ⟨#[]⟩, .slice none 0 0], .nilIface]) ?_ rfl ?_
    · simp [results, Tryd.results17, go_sem, hc1, hc2]
    · exact ⟨⟨_, _, rfl, rfl, by simp [ByteArray.size], .inl ⟨rfl, fun x hx => by cases hx⟩⟩, HB.out⟩
  · have hp : 0 < s.size := by omega
    have hse : s.toList.isEmpty = false := by
      rw [Lib.toList_data]
      cases hl : s.data.toList with
      | nil => have := L_len s; rw [L, hl] at this; simp at this; omega
      | cons _ _ => rfl
    have hL := L_drop s 0 hp
    rw [List.drop_zero] at hL
    obtain ⟨l, hl⟩ : ∃ l, (L s).drop 1 = l := ⟨_, rfl⟩
    rw [show (0 : Nat) + 1 = 1 from rfl, hl] at hL
    have h47 : s[0] = 47 := by
      by_cases h : s[0] = 47
      · exact h
      · rw [hL] at hw; simp [wfp, h] at hw
    rw [h47] at hL
    have hwl : wf false l = true := by rw [hL] at hw; simpa [wfp, wf] using hw
    have hn47 : ((s[0].toNat : Int) != 47) = false := by rw [h47]; rfl
    have hpt : ptoks (L s) = toks l := by rw [hL]; rfl
    have k38 := Tryd.strings_IndexByte s 126 (w.alloc (.cells #[.string { data := #[] }, .slice none 0 0] 31))
    rw [show ((126 : Int).toNat.toUInt8) = (126 : UInt8) from rfl, show s.data.toList = L s from rfl] at k38
    rcases idx_spec (L s) 126 with ⟨hi, hno⟩ | ⟨j, hj, hjl, hno⟩
    · rw [hi] at k38
      have hts : toks l = raw l := toks_same l (fun c hc => hno c (by rw [hL]; exact List.mem_cons_of_mem _ hc))
      have HF : Hid (L s = txt (ptoks (L s)) ∧ ∀ x ∈ ptoks (L s), ∀ c ∈ x, c ≠ 47) := hid (by rw [hpt, hts]; exact ⟨by rw [hL, txt_raw], raw_no47 l⟩)
      have K38 : Hid _ := k38
      have hc : (w.alloc (.cells #[.string s, .slice none 0 0] 31)).heap[n0]? = some (.cells #[.string s, .slice none 0 0] 31) := by rw [← hn0]; exact World.alloc_heap_new w _
      have hc1 : (w.alloc (.cells #[.string s, .slice none 0 0] 31)).cell? ⟨n0, 0, none⟩ = some (.string s) := by simp only [World.cell?, hc]; rfl
      have hc2 : (w.alloc (.cells #[.string s, .slice none 0 0] 31)).cell? ⟨n0, 1, none⟩ = some (.slice none 0 0) := by simp only [World.cell?, hc]; rfl
      have HB2 : Hid (Below n0 w (w.alloc (.cells #[.string s, .slice none 0 0] 31))) := hid (by rw [← hn0]; exact (Below.refl _ w).alloc (Nat.le_refl _) _)
      clear hc k38 hi hno hts hpt hL h47 hw hwl hl
      go_enter Tryd.func17, Tryd.ntmps17
      go_wp2_with fail
      refine use K38.out ?_
      go_wp2
      refine bodyPost_ret (v := .tuple #[.agg #[.string s, .slice none 0 0], .nilIface]) ?_ rfl ?_
      · simp [results, Tryd.results17, go_sem, hc1, hc2]
      · exact ⟨⟨_, _, rfl, HF.out.1, hs, .inl ⟨rfl, HF.out.2⟩⟩, HB2.out⟩
    · rw [hj] at k38
      have HNE : Hid (∃ x xs, ptoks (L s) = x :: xs) := hid (by rw [hpt]; exact ⟨_, _, rfl⟩)
      have k39 := unesc_any s l m _ hs hL hwl HM.out
      rw [← hpt] at k39
      rw [World.size_alloc, hn0] at k39
      have K38 : Hid _ := k38
      have K39 : Hid _ := k39
      clear k38 k39 hj hjl hno hpt hL h47 hw hwl hl
      go_enter Tryd.func17, Tryd.ntmps17
      go_wp2_with fail
      refine use K38.out ?_
      go_wp2_with fail
      refine (Calls.mono K39.out) ?_
      rintro e w4 ⟨⟨v, t, rfl, hP, hv1⟩, hB4⟩
      have hb4 : w4.heap[n0]? = some (.cells #[.string { data := #[] }, .slice none 0 0] 31) := (hB4.block n0 (by omega)).trans H0.out
      have hB5 : Below n0 w w4 := HB.out.trans (hB4.mono (by omega))
      have hp4 := hB4.size
      have hx1 : w4.cell? ⟨n0, 0, none⟩ = some (.string { data := #[] }) := by simp [World.cell?, hb4]
      have hx2 : w4.cell? ⟨n0, 1, none⟩ = some (.slice none 0 0) := by simp [World.cell?, hb4]
      have hx3 : w4.frozen? ⟨n0, 0, none⟩ = false := by simp [World.frozen?, hb4]
      have hx4 : w4.frozen? ⟨n0, 1, none⟩ = false := by simp [World.frozen?, hb4]
      have hg0 : ∀ g ts, EndsAt w4 g ts → g ≠ n0 → EndsAt ((w4.setCell ⟨n0, 0, none⟩ (.string t)).setCell ⟨n0, 1, none⟩ v) g ts := fun g ts h hne =>
        ⟨by simpa [World.setCell] using h.1, fun i e hi => by
          rw [World.cell?_of_block (w := w4) (a := ⟨g, i, none⟩) (by rw [Below.heap_setCell _ _ _ _ hne, Below.heap_setCell _ _ _ _ hne])]; exact h.2 i e hi⟩
      have hc := box31 (.string t) v hb4
      have hc1 : ((w4.setCell ⟨n0, 0, none⟩ (.string t)).setCell ⟨n0, 1, none⟩ v).cell? ⟨n0, 0, none⟩ = some (.string t) := by simp only [World.cell?, hc]; rfl
      have hc2 : ((w4.setCell ⟨n0, 0, none⟩ (.string t)).setCell ⟨n0, 1, none⟩ v).cell? ⟨n0, 1, none⟩ = some v := by simp only [World.cell?, hc]; rfl
      have hres : PtrIs ((w4.setCell ⟨n0, 0, none⟩ (.string t)).setCell ⟨n0, 1, none⟩ v) v t (ptoks (L s)) := by
        refine ⟨hP.1, hP.2.1, hP.2.2.elim .inl fun ⟨g, cap, e, hg⟩ => .inr ⟨g, cap, e, hg0 g _ hg fun hgn => ?_⟩⟩
        obtain ⟨x, xs, hxs⟩ := HNE.out
        have := hg.2 0 (0 + 1 + x.length) (by rw [hxs]; rfl)
        rw [hgn, hx1] at this
        cases this
      have hB6 := below31 (.string t) v hB5
      have HR : Hid (PtrIs ((w4.setCell ⟨n0, 0, none⟩ (.string t)).setCell ⟨n0, 1, none⟩ v) v t (ptoks (L s))) := hres
      have HB6 : Hid _ := hB6
      have hcases := hP.2.2
      clear hres hB6 hP hB4 hB5 hc hg0 K38 K39 hb4
      rcases hcases with ⟨rfl, _⟩ | ⟨g, cap, rfl, _⟩
      · go_wp2
        refine bodyPost_ret (v := .tuple #[.agg #[.string t, .slice none 0 0], .nilIface]) ?_ rfl ?_
        · simp [results, Tryd.results17, go_sem, hc1, hc2]
        · exact ⟨⟨_, _, rfl, HR.out⟩, HB6.out⟩
      · go_wp2
        refine bodyPost_ret (v := .tuple #[.agg #[.string t, .slice (some ⟨g, 0, none⟩) (ptoks (L s)).length cap], .nilIface]) ?_ rfl ?_
        · simp [results, Tryd.results17, go_sem, hc1, hc2]
        · exact ⟨⟨_, _, rfl, HR.out⟩, HB6.out⟩
end Go.Proofs.Qxb6609358aDoor.A
