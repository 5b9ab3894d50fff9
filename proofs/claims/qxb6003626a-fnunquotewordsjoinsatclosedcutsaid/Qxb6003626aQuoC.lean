import Derived.Test.Qxb6003626aQuoB
import Derived.WalkSpells
namespace Go.Proofs.Qxb6003626a.QuoC
open Go.ChangeShapes Go.WideShapes Go.ChangeAt Go.RowKit QuoP QuoA QuoB
set_option linter.unusedVariables false

theorem _root_.Go.Lib.size_of_mk (l : List UInt8) : (⟨l.toArray⟩ : ByteArray).size = l.length := by simp [ByteArray.size]

/-- A builder of the call's own stays one while only newer blocks are written. -/
theorem isB_below {T e : TypeId} {B b : Nat} {bs : List Value} {w w' : World} (h : Lib.IsBuilder T e B b bs w) (hb : Below w.heap.size w w') : Lib.IsBuilder T e B b bs w' := by
  have key : ∀ p, Lib.BuilderAt T e B b p bs w → Lib.BuilderAt T e B b p bs w' := by
    rintro p h
    have hlt := h.lt
    obtain ⟨hB, v, hbk, ⟨hl, hown⟩, hne⟩ := h
    refine ⟨hB, v, by rw [hb.block b hlt]; exact hbk, ⟨hl, ?_⟩, hne⟩
    rcases hown with h1 | ⟨g, cap, cur, hv, hg, hh, r⟩
    · exact Or.inl h1
    · have hgl : g < w.heap.size := by
        rcases Nat.lt_or_ge g w.heap.size with h' | h'
        · exact h'
        · simp [Array.getElem?_eq_none h'] at hh
      exact Or.inr ⟨g, cap, cur, hv, hg, by rw [hb.block g hgl]; exact hh, r⟩
  rcases h with h | h
  · exact Or.inl (key _ h)
  · exact Or.inr (key _ h)

/-- No quote at all: the string as it is. -/
theorem words_plain (s : ByteArray) (w : World) (h34 : ∀ x ∈ L s, x ≠ 34) :
    Calls Try.prog 17 #[.string s] w fun e w' => e = .returned (.string ⟨(out 0 (L s)).toArray⟩) ∧ Below w.heap.size w w' := by
  have k20 := Try.strings_IndexByte s 34 w
  have e1 : Lib.indexByte s.data.toList (Int.toNat 34).toUInt8 = -1 := index_no _ _ h34
  rw [e1] at k20
  have HO : Hid (out 0 (L s) = L s) := out_plain _ h34
  have K20 : Hid _ := k20
  clear k20 e1 h34
  go_enter Try.func17, Try.ntmps17
  go_wp2_with fail
  refine use K20.out ?_
  go_wp2
  go_ret
  exact ⟨ret_str (by rw [HO.out, mk_L]), Below.refl _ _⟩

/-- One quoted string and nothing else. -/
theorem words_one (s : ByteArray) (w : World) (hs : s.size ≤ 4194304) (q : List UInt8) (hq : L s = 34 :: (q ++ 34 :: [])) (hb : body false q = true) :
    Calls Try.prog 17 #[.string s] w fun e w' => e = .returned (.string ⟨(out 0 (L s)).toArray⟩) ∧ Below w.heap.size w w' := by
  have k20 := Try.strings_IndexByte s 34 w
  have e1 : 0 ≤ Lib.indexByte s.data.toList (Int.toNat 34).toUInt8 := index_yes _ _ (by show (34 : UInt8) ∈ L s; rw [hq]; simp)
  generalize Lib.indexByte s.data.toList (Int.toNat 34).toUInt8 = j at k20 e1
  have hsz : s.size = q.length + 2 := by rw [← L_len, hq]; simp
  have hz : 2 ≤ s.size := by omega
  have hp : 0 < s.size := by omega
  have h0 : s[0] = 34 := by
    have := L_drop s 0 hp
    rw [List.drop_zero, hq] at this
    exact (List.cons.inj this).1.symm
  have hc : ((s[0].toNat : Int) == 34) = true := by rw [h0]; rfl
  have k21 := closing_any s 0 q [] w hs (by rw [hq]; rfl) hb
  have e21 : ((0 + 1 + q.length : Nat) : Int) = (s.size : Int) - 1 := by omega
  rw [e21, show ((0 : Nat) : Int) = 0 from rfl] at k21
  have hLq : L (s.extract 1 (s.size - 1)) = q := by
    unfold L
    rw [Lib.extract_data]
    show List.take (s.size - 1 - 1) (List.drop 1 (L s)) = q
    rw [hq, show s.size - 1 - 1 = q.length by omega]
    simp
  have k22 := unquote_any (s.extract 1 (s.size - 1)) w (by rw [← L_len, hLq]; omega) (by rw [hLq]; exact hb)
  rw [hLq] at k22
  have HO : Hid (out 0 (L s) = out 1 q) := by
    show out 0 (L s) = out 1 q
    rw [hq, out_body q [] hb]; simp [out]
  have K20 : Hid _ := k20
  have K21 : Hid _ := k21
  have K22 : Hid _ := k22
  have e22 : (((s.size : Int) - 1) == (s.size : Int) - 1) = true := beq_iff_eq.2 rfl
  clear k20 k21 k22 hLq e21 h0 hsz hq hb
  go_enter Try.func17, Try.ntmps17
  go_wp2_with fail
  refine use K20.out ?_
  go_wp2_with fail
  refine use K21.out ?_
  go_wp2_with fail
  refine (Calls.mono K22.out) ?_
  rintro e w2 ⟨rfl, hb3⟩
  clear K20 K21 K22
  go_wp2
  go_ret
  exact ⟨ret_str (by rw [HO.out]), hb3⟩

set_option maxHeartbeats 2000000 in
/-- A quoted string first, and more behind it. -/
theorem words_more (s : ByteArray) (w : World) (hs : s.size ≤ 4194304) (q r : List UInt8) (hq : L s = 34 :: (q ++ 34 :: r)) (hb : body false q = true) (hr : r ≠ []) (hcl : endSt 0 (L s) = 0) :
    Calls Try.prog 17 #[.string s] w fun e w' => e = .returned (.string ⟨(out 0 (L s)).toArray⟩) ∧ Below w.heap.size w w' := by
  have k20 := Try.strings_IndexByte s 34 w
  have e1 : 0 ≤ Lib.indexByte s.data.toList (Int.toNat 34).toUInt8 := index_yes _ _ (by show (34 : UInt8) ∈ L s; rw [hq]; simp)
  generalize Lib.indexByte s.data.toList (Int.toNat 34).toUInt8 = j at k20 e1
  have hrl : r.length ≠ 0 := by simpa using hr
  have hsz : s.size = q.length + 2 + r.length := by rw [← L_len, hq]; simp; omega
  have hp : 0 < s.size := by omega
  have h0 : s[0] = 34 := by
    have := L_drop s 0 hp
    rw [List.drop_zero, hq] at this
    exact (List.cons.inj this).1.symm
  have hc : ((s[0].toNat : Int) == 34) = true := by rw [h0]; rfl
  have k21 := closing_any s 0 q r w hs (by rw [hq]; rfl) hb
  obtain ⟨E, hE⟩ : ∃ E, E = 0 + 1 + q.length := ⟨_, rfl⟩
  rw [← hE, show ((0 : Nat) : Int) = 0 from rfl] at k21
  have e22 : ((E : Int) == (s.size : Int) - 1) = false := beq_eq_false_iff_ne.2 (by omega)
  have K20 : Hid _ := k20
  have K21 : Hid _ := k21
  have HC : Hid _ := hcl
  clear k20 k21 h0 hsz hq hb hr hrl hE hcl
  · go_enter Try.func17, Try.ntmps17
    go_wp2_with fail
    refine use K20.out ?_
    go_wp2_with fail
    refine use K21.out ?_
    clear K20 K21
    go_wp2_with fail
    clear hc e22
    refine (Try.Builder_Grow_fresh w.heap.size w.heap.size s.size _ (Nat.le_refl _) (heap_alloc_new w _) (by simp) (by omega)).mono ?_
    rintro e w1 ⟨rfl, hI, hb1⟩
    have hb2 : Below w.heap.size w w1 := ((Below.refl _ w).alloc (Nat.le_refl _) _).trans hb1
    clear hb1
    go_wp2_with fail
    go_loopw [4, 5] (fun i j wr => ∃ (k : Nat) (acc : List UInt8), k ≤ s.size ∧ i = .int .i64 k ∧ endSt 0 ((L s).drop k) = 0 ∧ acc ++ out 0 ((L s).drop k) = out 0 (L s) ∧ acc.length ≤ k ∧ Lib.IsBuilder 38 5 w.heap.size w.heap.size (Lib.byteCells acc) wr ∧ Below w.heap.size w wr)
      (fun i j wr => s.size - (intOf i).toNat)
    case atStart => exact ⟨0, [], Nat.zero_le _, rfl, HC.out, rfl, Nat.le_refl _, Or.inr hI, hb2⟩
    case round =>
      obtain ⟨k, acc, hk, rfl, hend, hacc, hal, hIs, hbw⟩ := hrel
      have HEND : Hid _ := hend
      have HACC : Hid _ := hacc
      clear hend hacc HC hI hb2
      by_cases hlt : k < s.size
      · cases hc : ((s[k].toNat : Int) == 34) with
        | false =>
          have fin : endSt 0 ((L s).drop (k + 1)) = 0 ∧ (acc ++ [s[k]]) ++ out 0 ((L s).drop (k + 1)) = out 0 (L s) := by
            have h1 := HEND.out
            have h2 := HACC.out
            rw [L_drop s k hlt] at h1 h2
            simp [endSt, stp, out, emit, no34 hc] at h1 h2
            exact ⟨h1, by simpa using h2⟩
          have FIN : Hid _ := fin
          clear fin HEND HACC
          have hc' : ((s[k].toNat : Int) != 34) = true := by simp [bne, hc]
          go_wp2_with fail
          refine (Try.Builder_WriteByte w.heap.size w.heap.size (Lib.byteCells acc) _ wr hIs (by rw [Lib.byteCells_length]; omega) hbw.size).mono ?_
          rintro e w2 ⟨rfl, hI2, hb3⟩
          have hbw2 := hbw.trans hb3
          clear hIs hbw hb3
          go_wp2
          go_roundw
          case rel => exact ⟨k + 1, acc ++ [s[k]], by omega, by go_num, FIN.out.1, FIN.out.2, by simp; omega, by rw [Lib.byteCells_append]; exact Or.inr hI2, hbw2⟩
          case measure => simp [intOf]; omega
        | true =>
          have h1 := HEND.out
          rw [L_drop s k hlt, yes34 hc] at h1
          obtain ⟨q, r, hqr, hbq, her⟩ := split_open _ h1
          obtain ⟨E, hE⟩ : ∃ E, E = k + 1 + q.length := ⟨_, rfl⟩
          have hlen : E < s.size := by
            have := congrArg List.length hqr
            simp [L_len] at this
            omega
          have hkE : k + 1 ≤ E := by omega
          have K21 : ∀ wx, Calls Try.prog 21 #[.string s, .int .i64 k, .int .u8 34] wx fun e w' => e = .returned (.int .i64 (E : Nat)) ∧ w' = wx := by
            intro wx
            have := closing_any s k q r wx hs hqr hbq
            rw [← hE] at this
            exact this
          have hLq : L (s.extract (k + 1) E) = q := by
            unfold L
            rw [Lib.extract_data]
            show List.take (E - (k + 1)) (List.drop (k + 1) (L s)) = q
            rw [hqr, show E - (k + 1) = q.length by omega, List.take_left]
          have hqs : (s.extract (k + 1) E).size ≤ 4194304 := by rw [← L_len, hLq]; omega
          have hqz : (s.extract (k + 1) E).size = q.length := by rw [← L_len, hLq]
          have K22 : ∀ wx, Calls Try.prog 22 #[.string (s.extract (k + 1) E)] wx fun e w' => e = .returned (.string ⟨(out 1 q).toArray⟩) ∧ Below wx.heap.size wx w' := by
            intro wx
            have := unquote_any (s.extract (k + 1) E) wx hqs (by rw [hLq]; exact hbq)
            rw [hLq] at this
            exact this
          have hol := out_le 1 q
          have hdrop : (L s).drop (E + 1) = r := by
            rw [show E + 1 = (k + 1) + (q.length + 1) by omega, ← List.drop_drop, hqr]
            simp
          have fin : endSt 0 ((L s).drop (E + 1)) = 0 ∧ (acc ++ out 1 q) ++ out 0 ((L s).drop (E + 1)) = out 0 (L s) := by
            rw [hdrop]
            refine ⟨her, ?_⟩
            rw [← HACC.out, L_drop s k hlt, yes34 hc, hqr, out_body q r hbq]
            simp
          have hoE : (out 1 q).length + k + 1 ≤ E := by omega
          have FIN : Hid _ := fin
          have HK21 : Hid _ := K21
          have HK22 : Hid _ := K22
          have hc' : ((s[k].toNat : Int) != 34) = false := by simp [bne, hc]
          clear fin HEND HACC h1 hqr hbq her hE K21 K22 hLq hqs hqz hol hdrop
          go_wp2_with fail
          refine use (HK21.out _) ?_
          go_wp2_with fail
          refine (Calls.mono (HK22.out _)) ?_
          rintro e w2 ⟨rfl, hb3⟩
          have hIs2 := isB_below hIs hb3
          have hbw2 := hbw.trans (hb3.mono hbw.size)
          clear hIs hbw hb3 HK21 HK22
          go_wp2_with fail
          refine (Try.Builder_WriteString w.heap.size w.heap.size (Lib.byteCells acc) _ w2 hIs2 (by rw [Lib.byteCells_length, Lib.size_of_mk]; omega) hbw2.size).mono ?_
          rintro e w3 ⟨rfl, hI3, hb4⟩
          have hbw3 := hbw2.trans hb4
          clear hIs2 hbw2 hb4
          go_wp2
          go_roundw
          case rel => exact ⟨E + 1, acc ++ out 1 q, by omega, by go_num, FIN.out.1, FIN.out.2, by simp; omega, by rw [Lib.byteCells_append]; exact Or.inr hI3, hbw3⟩
          case measure => simp [intOf]; omega
      · go_wp2_with fail
        refine (Try.Builder_String_any w.heap.size w.heap.size acc wr hIs hbw.size).mono ?_
        rintro e w2 ⟨rfl, hb3⟩
        have hbw2 := hbw.trans hb3
        clear hIs hbw hb3
        go_wp2
        go_ret
        have h1 := HACC.out
        rw [L_end s k hlt, out, List.append_nil] at h1
        exact ⟨ret_str (by rw [h1]), hbw2⟩

set_option maxHeartbeats 2000000 in
/-- Another byte first. -/
theorem words_else (s : ByteArray) (w : World) (hs : s.size ≤ 4194304) (hp : 0 < s.size) (h34 : (34 : UInt8) ∈ L s) (h0 : s[0] ≠ 34) (hcl : endSt 0 (L s) = 0) :
    Calls Try.prog 17 #[.string s] w fun e w' => e = .returned (.string ⟨(out 0 (L s)).toArray⟩) ∧ Below w.heap.size w w' := by
  have k20 := Try.strings_IndexByte s 34 w
  have e1 : 0 ≤ Lib.indexByte s.data.toList (Int.toNat 34).toUInt8 := index_yes _ _ h34
  generalize Lib.indexByte s.data.toList (Int.toNat 34).toUInt8 = j at k20 e1
  have hc : ((s[0].toNat : Int) == 34) = false := beq_eq_false_iff_ne.2 (fun h => h0 (yes34 (beq_iff_eq.2 h)))
  have K20 : Hid _ := k20
  have HC : Hid _ := hcl
  clear k20 h34 hcl h0
  · go_enter Try.func17, Try.ntmps17
    go_wp2_with fail
    refine use K20.out ?_
    clear K20
    go_wp2_with fail
    clear hc
    refine (Try.Builder_Grow_fresh w.heap.size w.heap.size s.size _ (Nat.le_refl _) (heap_alloc_new w _) (by simp) (by omega)).mono ?_
    rintro e w1 ⟨rfl, hI, hb1⟩
    have hb2 : Below w.heap.size w w1 := ((Below.refl _ w).alloc (Nat.le_refl _) _).trans hb1
    clear hb1
    go_wp2_with fail
    go_loopw [4, 5] (fun i j wr => ∃ (k : Nat) (acc : List UInt8), k ≤ s.size ∧ i = .int .i64 k ∧ endSt 0 ((L s).drop k) = 0 ∧ acc ++ out 0 ((L s).drop k) = out 0 (L s) ∧ acc.length ≤ k ∧ Lib.IsBuilder 38 5 w.heap.size w.heap.size (Lib.byteCells acc) wr ∧ Below w.heap.size w wr)
      (fun i j wr => s.size - (intOf i).toNat)
    case atStart => exact ⟨0, [], Nat.zero_le _, rfl, HC.out, rfl, Nat.le_refl _, Or.inr hI, hb2⟩
    case round =>
      obtain ⟨k, acc, hk, rfl, hend, hacc, hal, hIs, hbw⟩ := hrel
      have HEND : Hid _ := hend
      have HACC : Hid _ := hacc
      clear hend hacc HC hI hb2
      by_cases hlt : k < s.size
      · cases hc : ((s[k].toNat : Int) == 34) with
        | false =>
          have fin : endSt 0 ((L s).drop (k + 1)) = 0 ∧ (acc ++ [s[k]]) ++ out 0 ((L s).drop (k + 1)) = out 0 (L s) := by
            have h1 := HEND.out
            have h2 := HACC.out
            rw [L_drop s k hlt] at h1 h2
            simp [endSt, stp, out, emit, no34 hc] at h1 h2
            exact ⟨h1, by simpa using h2⟩
          have FIN : Hid _ := fin
          clear fin HEND HACC
          have hc' : ((s[k].toNat : Int) != 34) = true := by simp [bne, hc]
          go_wp2_with fail
          refine (Try.Builder_WriteByte w.heap.size w.heap.size (Lib.byteCells acc) _ wr hIs (by rw [Lib.byteCells_length]; omega) hbw.size).mono ?_
          rintro e w2 ⟨rfl, hI2, hb3⟩
          have hbw2 := hbw.trans hb3
          clear hIs hbw hb3
          go_wp2
          go_roundw
          case rel => exact ⟨k + 1, acc ++ [s[k]], by omega, by go_num, FIN.out.1, FIN.out.2, by simp; omega, by rw [Lib.byteCells_append]; exact Or.inr hI2, hbw2⟩
          case measure => simp [intOf]; omega
        | true =>
          have h1 := HEND.out
          rw [L_drop s k hlt, yes34 hc] at h1
          obtain ⟨q, r, hqr, hbq, her⟩ := split_open _ h1
          obtain ⟨E, hE⟩ : ∃ E, E = k + 1 + q.length := ⟨_, rfl⟩
          have hlen : E < s.size := by
            have := congrArg List.length hqr
            simp [L_len] at this
            omega
          have hkE : k + 1 ≤ E := by omega
          have K21 : ∀ wx, Calls Try.prog 21 #[.string s, .int .i64 k, .int .u8 34] wx fun e w' => e = .returned (.int .i64 (E : Nat)) ∧ w' = wx := by
            intro wx
            have := closing_any s k q r wx hs hqr hbq
            rw [← hE] at this
            exact this
          have hLq : L (s.extract (k + 1) E) = q := by
            unfold L
            rw [Lib.extract_data]
            show List.take (E - (k + 1)) (List.drop (k + 1) (L s)) = q
            rw [hqr, show E - (k + 1) = q.length by omega, List.take_left]
          have hqs : (s.extract (k + 1) E).size ≤ 4194304 := by rw [← L_len, hLq]; omega
          have hqz : (s.extract (k + 1) E).size = q.length := by rw [← L_len, hLq]
          have K22 : ∀ wx, Calls Try.prog 22 #[.string (s.extract (k + 1) E)] wx fun e w' => e = .returned (.string ⟨(out 1 q).toArray⟩) ∧ Below wx.heap.size wx w' := by
            intro wx
            have := unquote_any (s.extract (k + 1) E) wx hqs (by rw [hLq]; exact hbq)
            rw [hLq] at this
            exact this
          have hol := out_le 1 q
          have hdrop : (L s).drop (E + 1) = r := by
            rw [show E + 1 = (k + 1) + (q.length + 1) by omega, ← List.drop_drop, hqr]
            simp
          have fin : endSt 0 ((L s).drop (E + 1)) = 0 ∧ (acc ++ out 1 q) ++ out 0 ((L s).drop (E + 1)) = out 0 (L s) := by
            rw [hdrop]
            refine ⟨her, ?_⟩
            rw [← HACC.out, L_drop s k hlt, yes34 hc, hqr, out_body q r hbq]
            simp
          have hoE : (out 1 q).length + k + 1 ≤ E := by omega
          have FIN : Hid _ := fin
          have HK21 : Hid _ := K21
          have HK22 : Hid _ := K22
          have hc' : ((s[k].toNat : Int) != 34) = false := by simp [bne, hc]
          clear fin HEND HACC h1 hqr hbq her hE K21 K22 hLq hqs hqz hol hdrop
          go_wp2_with fail
          refine use (HK21.out _) ?_
          go_wp2_with fail
          refine (Calls.mono (HK22.out _)) ?_
          rintro e w2 ⟨rfl, hb3⟩
          have hIs2 := isB_below hIs hb3
          have hbw2 := hbw.trans (hb3.mono hbw.size)
          clear hIs hbw hb3 HK21 HK22
          go_wp2_with fail
          refine (Try.Builder_WriteString w.heap.size w.heap.size (Lib.byteCells acc) _ w2 hIs2 (by rw [Lib.byteCells_length, Lib.size_of_mk]; omega) hbw2.size).mono ?_
          rintro e w3 ⟨rfl, hI3, hb4⟩
          have hbw3 := hbw2.trans hb4
          clear hIs2 hbw2 hb4
          go_wp2
          go_roundw
          case rel => exact ⟨E + 1, acc ++ out 1 q, by omega, by go_num, FIN.out.1, FIN.out.2, by simp; omega, by rw [Lib.byteCells_append]; exact Or.inr hI3, hbw3⟩
          case measure => simp [intOf]; omega
      · go_wp2_with fail
        refine (Try.Builder_String_any w.heap.size w.heap.size acc wr hIs hbw.size).mono ?_
        rintro e w2 ⟨rfl, hb3⟩
        have hbw2 := hbw.trans hb3
        clear hIs hbw hb3
        go_wp2
        go_ret
        have h1 := HACC.out
        rw [L_end s k hlt, out, List.append_nil] at h1
        exact ⟨ret_str (by rw [h1]), hbw2⟩

/-- unquoteWords at a local part whose quoted strings are closed: what the automaton keeps of it. -/
theorem words_any (s : ByteArray) (w : World) (hs : s.size ≤ 4194304) (hcl : endSt 0 (L s) = 0) :
    Calls Try.prog 17 #[.string s] w fun e w' => e = .returned (.string ⟨(out 0 (L s)).toArray⟩) ∧ Below w.heap.size w w' := by
  by_cases h34 : ∀ x ∈ L s, x ≠ 34
  · exact words_plain s w h34
  · have hm : (34 : UInt8) ∈ L s := by
      have ⟨x, hx⟩ := Classical.not_forall.1 h34
      have ⟨h1, h2⟩ := Classical.not_imp.1 hx
      have h3 : x = 34 := Classical.not_not.1 h2
      rw [h3] at h1
      exact h1
    have hp : 0 < s.size := by rw [← L_len]; exact List.length_pos_of_mem hm
    by_cases h0 : s[0] = 34
    · have hL : L s = 34 :: (L s).drop 1 := by
        have := L_drop s 0 hp
        rw [List.drop_zero, h0] at this
        exact this
      have h1 := hcl
      rw [hL] at h1
      obtain ⟨q, r, hqr, hbq, her⟩ := split_open _ h1
      rw [hqr] at hL
      by_cases hr : r = []
      · subst hr
        exact words_one s w hs q hL hbq
      · exact words_more s w hs q r hL hbq hr hcl
    · exact words_else s w hs hp hm h0 hcl

theorem zzwords_any (s : ByteArray) (w : World) (hs : s.size ≤ 4194304) (hcl : endSt 0 (L s) = 0) :
    Calls Try.prog 9 #[.string s] w fun e w' => e = .returned (.string ⟨(out 0 (L s)).toArray⟩) ∧ Below w.heap.size w w' := by
  have k := words_any s w hs hcl
  have K : Hid _ := k
  clear k hcl
  go_enter Try.func9, Try.ntmps9
  go_wp2_with fail
  refine (Calls.mono K.out) ?_
  rintro e w2 ⟨rfl, hb3⟩
  clear K
  go_wp2
  go_ret
  exact ⟨rfl, hb3⟩
end Go.Proofs.Qxb6003626a.QuoC
