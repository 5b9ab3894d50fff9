import Derived.Test.Qxb6003626aQuoA
import Derived.Test.Qxb6003626aShelf
import Derived.Lib.Bytealg
namespace Go.Proofs.Qxb6003626a.QuoB
open Go.ChangeShapes Go.WideShapes Go.ChangeAt Go.RowKit QuoP QuoA
set_option linter.unusedVariables false

theorem index_no (l : List UInt8) (c : UInt8) (h : ∀ x ∈ l, x ≠ c) : Lib.indexByte l c = -1 := by
  induction l with
  | nil => rfl
  | cons b l ih =>
    have hb := h b (List.mem_cons_self ..)
    rw [Lib.indexByte, ih (fun x hx => h x (List.mem_cons_of_mem _ hx))]
    simp [hb]
theorem index_yes (l : List UInt8) (c : UInt8) (h : c ∈ l) : 0 ≤ Lib.indexByte l c := by
  induction l with
  | nil => cases h
  | cons b l ih =>
    rw [Lib.indexByte]
    by_cases hb : b = c
    · simp [hb]
    · have hc : c ∈ l := by
        rcases List.mem_cons.1 h with h | h
        · exact absurd h.symm hb
        · exact h
      have := ih hc
      rw [if_neg (by simpa using hb), if_neg (by simp; omega)]
      omega

theorem mk_L (s : ByteArray) : (⟨(L s).toArray⟩ : ByteArray) = s := Lib.mk_data s

/-- The bytes of a string as cells. -/
theorem isB_of {B b : Nat} {bs : List Value} {p : Value} {w : World} (h : Lib.BuilderAt 38 5 B b (.pointer (some ⟨b, 0, none⟩)) bs w) : Lib.IsBuilder 38 5 B b bs w := Or.inr h

set_option maxHeartbeats 1000000 in
theorem unquote_any (q : ByteArray) (w : World) (hs : q.size ≤ 4194304) (hb : body false (L q) = true) :
    Calls Try.prog 22 #[.string q] w fun e w' => e = .returned (.string ⟨(out 1 (L q)).toArray⟩) ∧ Below w.heap.size w w' := by
  by_cases h92 : ∀ x ∈ L q, x ≠ 92
  · have k20 := Try.strings_IndexByte q 92 w
    have e1 : Lib.indexByte q.data.toList (Int.toNat 92).toUInt8 = -1 := index_no _ _ h92
    rw [e1] at k20
    have HO : Hid (out 1 (L q) = L q) := out_bare _ hb h92
    have K20 : Hid _ := k20
    clear k20 e1 h92 hb
    go_enter Try.func22, Try.ntmps22
    go_wp2_with fail
    refine use K20.out ?_
    go_wp2
    go_ret
    exact ⟨ret_str (by rw [HO.out, mk_L]), Below.refl _ _⟩
  · have k20 := Try.strings_IndexByte q 92 w
    have e1 : 0 ≤ Lib.indexByte q.data.toList (Int.toNat 92).toUInt8 := index_yes _ _ (by
      have ⟨x, hx⟩ := Classical.not_forall.1 h92
      have ⟨h1, h2⟩ := Classical.not_imp.1 hx
      have h3 : x = 92 := Classical.not_not.1 h2
      rw [h3] at h1
      exact h1)
    generalize Lib.indexByte q.data.toList (Int.toNat 92).toUInt8 = j at k20 e1
    have K20 : Hid _ := k20
    have HB : Hid _ := hb
    clear k20 h92 hb
    go_enter Try.func22, Try.ntmps22
    go_wp2_with fail
    refine use K20.out ?_
    clear K20
    go_wp2_with fail
    refine (Try.Builder_Grow_fresh w.heap.size w.heap.size q.size _ (Nat.le_refl _) (heap_alloc_new w _) (by simp) (by omega)).mono ?_
    rintro e w1 ⟨rfl, hI, hb1⟩
    have hb2 : Below w.heap.size w w1 := ((Below.refl _ w).alloc (Nat.le_refl _) _).trans hb1
    clear hb1
    go_wp2_with fail
    go_loopw [4] (fun i wr => ∃ (k : Nat) (acc : List UInt8), k ≤ q.size ∧ i = .int .i64 k ∧ body false ((L q).drop k) = true ∧ acc ++ out 1 ((L q).drop k) = out 1 (L q) ∧ acc.length ≤ k ∧ Lib.IsBuilder 38 5 w.heap.size w.heap.size (Lib.byteCells acc) wr ∧ Below w.heap.size w wr)
      (fun i wr => q.size - (intOf i).toNat)
    case atStart => exact ⟨0, [], Nat.zero_le _, rfl, HB.out, rfl, Nat.le_refl _, Or.inr hI, hb2⟩
    case round =>
      obtain ⟨k, acc, hk, rfl, hbd, hacc, hal, hIs, hbw⟩ := hrel
      have HBD : Hid _ := hbd
      have HACC : Hid _ := hacc
      clear hbd hacc HB hI hb2
      by_cases hlt : k < q.size
      · cases hc : ((q[k].toNat : Int) == 92) with
        | true =>
          have hd := HBD.out
          rw [L_drop q k hlt, yes92 hc] at hd
          obtain ⟨d, r, hr, hb', ho⟩ := body_pair _ hd
          have hlt2 : k + 1 < q.size := by
            rcases Nat.lt_or_ge (k + 1) q.size with h | h
            · exact h
            · rw [L_end q (k + 1) (by omega)] at hr; cases hr
          have hdd : q[k + 1] = d ∧ (L q).drop (k + 2) = r := by
            rw [L_drop q (k + 1) hlt2] at hr
            exact ⟨(List.cons.inj hr).1, (List.cons.inj hr).2⟩
          have fin : body false ((L q).drop (k + 2)) = true ∧ (acc ++ [q[k + 1]]) ++ out 1 ((L q).drop (k + 2)) = out 1 (L q) := by
            rw [hdd.2, hdd.1]
            refine ⟨hb', ?_⟩
            rw [← HACC.out, L_drop q k hlt, yes92 hc, ho]
            simp
          have FIN : Hid _ := fin
          clear fin hdd hr hb' ho hd HBD HACC
          have hm : k + 1 < q.size := hlt2
          go_wp2_with fail
          refine (Try.Builder_WriteByte w.heap.size w.heap.size (Lib.byteCells acc) _ wr hIs (by rw [Lib.byteCells_length]; omega) hbw.size).mono ?_
          rintro e w2 ⟨rfl, hI2, hb3⟩
          have hbw2 := hbw.trans hb3
          clear hIs hbw hb3
          go_wp2
          go_roundw
          case rel => exact ⟨k + 2, acc ++ [q[k + 1]], by omega, by go_num, FIN.out.1, FIN.out.2, by simp; omega, by rw [Lib.byteCells_append]; exact Or.inr hI2, hbw2⟩
          case measure => simp [intOf]; omega
        | false =>
          have hd := HBD.out
          rw [L_drop q k hlt] at hd
          obtain ⟨_, hb', ho⟩ := body_step _ _ hd (no92 hc)
          have fin : body false ((L q).drop (k + 1)) = true ∧ (acc ++ [q[k]]) ++ out 1 ((L q).drop (k + 1)) = out 1 (L q) := by
            refine ⟨hb', ?_⟩
            rw [← HACC.out, L_drop q k hlt, ho]
            simp
          have FIN : Hid _ := fin
          clear fin hb' ho hd HBD HACC
          go_wp2_with fail
          refine (Try.Builder_WriteByte w.heap.size w.heap.size (Lib.byteCells acc) _ wr hIs (by rw [Lib.byteCells_length]; omega) hbw.size).mono ?_
          rintro e w2 ⟨rfl, hI2, hb3⟩
          have hbw2 := hbw.trans hb3
          clear hIs hbw hb3
          go_wp2
          go_roundw
          case rel => exact ⟨k + 1, acc ++ [q[k]], by omega, by go_num, FIN.out.1, FIN.out.2, by simp; omega, by rw [Lib.byteCells_append]; exact Or.inr hI2, hbw2⟩
          case measure => simp [intOf]; omega
      · go_wp2_with fail
        refine (Try.Builder_String_any w.heap.size w.heap.size acc wr hIs hbw.size).mono ?_
        rintro e w2 ⟨rfl, hb3⟩
        have hbw2 := hbw.trans hb3
        clear hIs hbw hb3
        go_wp2
        go_ret
        have h1 := HACC.out
        rw [L_end q k hlt, out, List.append_nil] at h1
        exact ⟨ret_str (by rw [h1]), hbw2⟩
end Go.Proofs.Qxb6003626a.QuoB
