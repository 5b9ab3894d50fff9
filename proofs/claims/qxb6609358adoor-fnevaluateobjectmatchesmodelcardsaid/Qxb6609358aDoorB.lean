import Derived.Test.Qxb6609358aDoorA
import Derived.Lib.IndexLaws
import Derived.Lib.BufferKept
namespace Go.Proofs.Qxb6609358aDoor.A
open Go.ChangeShapes Go.WideShapes Go.ChangeAt Go.RowKit P
set_option linter.unusedVariables false

theorem idx_spec (l : List UInt8) (c : UInt8) : (Lib.indexByte l c = -1 ∧ ∀ x ∈ l, x ≠ c) ∨ ∃ j : Nat, Lib.indexByte l c = j ∧ j < l.length ∧ ∀ x ∈ l.take j, x ≠ c := by
  have hge := Lib.indexByte_ge l c
  by_cases h : Lib.indexByte l c = -1
  · refine .inl ⟨h, fun x hx e => ?_⟩
    obtain ⟨k, hk, rfl⟩ := List.getElem_of_mem hx
    exact Lib.indexByte_none h k (by rw [List.getElem?_eq_getElem hk, e])
  · obtain ⟨j, hj⟩ := Int.eq_ofNat_of_zero_le (by omega : 0 ≤ Lib.indexByte l c)
    obtain ⟨h1, h2⟩ := Lib.indexByte_some hj
    have hlt := (List.getElem?_eq_some_iff.1 h1).1
    refine .inr ⟨j, hj, hlt, fun x hx e => ?_⟩
    obtain ⟨k, hk, rfl⟩ := List.getElem_of_mem hx
    have hk2 : k < j ∧ k < l.length := by rw [List.length_take] at hk; omega
    exact h2 k hk2.1 (by rw [List.getElem_take] at e; rw [List.getElem?_eq_getElem hk2.2, e])

theorem dec_free (p q : List UInt8) (h : ∀ x ∈ p, x ≠ 126) : dec false (p ++ q) = p ++ dec false q := by
  induction p with
  | nil => rfl
  | cons c p ih =>
    rw [List.cons_append, dec, if_neg (h c (List.mem_cons_self ..)), ih (fun x hx => h x (List.mem_cons_of_mem _ hx)), List.cons_append]
theorem wf_free (p q : List UInt8) (h : ∀ x ∈ p, x ≠ 126) : wf false (p ++ q) = wf false q := by
  induction p with
  | nil => rfl
  | cons c p ih =>
    rw [List.cons_append, wf, if_neg (h c (List.mem_cons_self ..)), ih (fun x hx => h x (List.mem_cons_of_mem _ hx))]
theorem byteCells_append (a b : List UInt8) : Lib.byteCells (a ++ b) = Lib.byteCells a ++ Lib.byteCells b := by simp [Lib.byteCells]
theorem u8_byte (c : UInt8) : Lib.byteCells [c] = [.int .u8 (c.toNat : Int)] := rfl

/-- The builder's state. -/
abbrev Bld (B b : Nat) (l : List UInt8) (w : World) : Prop := Lib.BuilderAtF 92 5 B b (.pointer (some ⟨b, 0, none⟩)) (Lib.byteCells l) w

theorem wb (B b : Nat) (l : List UInt8) (c : UInt8) (w : World) (h : Bld B b l w) (hlen : l.length + 1 ≤ 140737488355328) (hBw : B ≤ w.heap.size) :
    Calls Tryd.prog 46 #[.pointer (some ⟨b, 0, none⟩), .int .u8 c.toNat] w fun e w' => e = .returned .nilIface ∧ Bld B b (l ++ [c]) w' ∧ Below B w w' ∧ Lib.OthersKept 5 (some b) w w' := by
  refine (Tryd.Builder_WriteByte_k B b (Lib.byteCells l) c.toNat w (.inr h) (by rw [Lib.byteCells_length]; exact hlen) hBw).mono ?_
  rintro e w' ⟨rfl, h1, h2, h3⟩
  exact ⟨rfl, by unfold Bld; rw [byteCells_append, u8_byte]; exact h1, h2, h3⟩
theorem ws (B b : Nat) (l : List UInt8) (s : ByteArray) (w : World) (h : Bld B b l w) (hlen : l.length + s.size ≤ 140737488355328) (hBw : B ≤ w.heap.size) :
    Calls Tryd.prog 44 #[.pointer (some ⟨b, 0, none⟩), .string s] w fun e w' => e = .returned (.tuple #[.int .i64 s.size, .nilIface]) ∧ Bld B b (l ++ L s) w' ∧ Below B w w' ∧ Lib.OthersKept 5 (some b) w w' := by
  refine (Tryd.Builder_WriteString_k B b (Lib.byteCells l) s w (.inr h) (by rw [Lib.byteCells_length]; exact hlen) hBw).mono ?_
  rintro e w' ⟨rfl, h1, h2, h3⟩
  exact ⟨rfl, by unfold Bld; rw [byteCells_append]; exact h1, h2, h3⟩

/-- What one writer's walk has done so far. -/
structure Wrote (B b : Nat) (l : List UInt8) (w w' : World) : Prop where
  bld : Bld B b l w'
  below : Below B w w'
  others : Lib.OthersKept 5 (some b) w w'
theorem Wrote.size {B b : Nat} {l : List UInt8} {w w' : World} (h : Wrote B b l w w') : w.heap.size ≤ w'.heap.size := h.below.size
theorem wbW (B b : Nat) (l : List UInt8) (c : UInt8) (w0 w : World) (h : Wrote B b l w0 w) (hlen : l.length + 1 ≤ 140737488355328) (hBw : B ≤ w0.heap.size) :
    Calls Tryd.prog 46 #[.pointer (some ⟨b, 0, none⟩), .int .u8 c.toNat] w fun e w' => e = .returned .nilIface ∧ Wrote B b (l ++ [c]) w0 w' :=
  (wb B b l c w h.bld hlen (Nat.le_trans hBw h.size)).mono (by rintro e w' ⟨rfl, h1, h2, h3⟩; exact ⟨rfl, h1, h.below.trans h2, h.others.trans h3⟩)

set_option maxHeartbeats 4000000 in
/-- unescapeToken: the token's decoded bytes are written. -/
theorem unt (B b : Nat) (l : List UInt8) (t : ByteArray) (w : World) (h : Bld B b l w) (hw : wf false (L t) = true) (ht : t.size ≤ 4194304) (hl : l.length ≤ 70368744177664) (hBw : B ≤ w.heap.size) :
    Calls Tryd.prog 57 #[.pointer (some ⟨b, 0, none⟩), .string t] w fun e w' => e = .returned (.int .i64 (-1)) ∧ Wrote B b (l ++ dec false (L t)) w w' := by
  have k38 := Tryd.strings_IndexByte t 126 w
  have hlen := L_len t
  rw [show ((126 : Int).toNat.toUInt8) = (126 : UInt8) from rfl, show t.data.toList = L t from rfl] at k38
  rcases idx_spec (L t) 126 with ⟨hi, hno⟩ | ⟨j, hj, hjl, hno⟩
  · rw [hi] at k38
    have k44 := ws B b l t w h (by omega) hBw
    have hd : dec false (L t) = L t := dec_same _ hno
    rw [hd]
    have K38 : Hid _ := k38
    have K44 : Hid _ := k44
    clear k38 k44 hd hi hno hlen h hw
    go_enter Tryd.func57, Tryd.ntmps57
    go_wp2_with fail
    refine use K38.out ?_
    go_wp2_with fail
    refine (Calls.mono K44.out) ?_
    rintro e w1 ⟨rfl, h1, h2, h3⟩
    have H1 : Hid (Wrote B b (l ++ L t) w w1) := hid ⟨h1, h2, h3⟩
    clear h1 h2 h3 K38 K44
    go_wp2
    go_ret
    exact ⟨rfl, H1.out⟩
  · rw [hj] at k38
    rw [hlen] at hjl
    have hsz : (t.extract 0 j).size = j := by simp; omega
    have hLx : L (t.extract 0 j) = (L t).take j := by simp [L, ByteArray.data_extract]
    have k44 := ws B b l (t.extract 0 j) w h (by rw [hsz]; omega) hBw
    rw [hLx] at k44
    have hsplit : (L t).take j ++ (L t).drop j = L t := List.take_append_drop ..
    have hd0 : (L t).take j ++ dec false ((L t).drop j) = dec false (L t) := by rw [← dec_free _ _ hno, hsplit]
    have hw0 : wf false ((L t).drop j) = true := by rw [← wf_free _ _ hno, hsplit]; exact hw
    have htl : ((L t).take j).length ≤ t.size := by simp [hlen]; omega
    have hdl : (dec false (L t)).length ≤ t.size := by rw [← hlen]; exact dec_le _ _
    have K38 : Hid _ := k38
    have K44 : Hid _ := k44
    have HD0 : Hid _ := hd0
    have HW0 : Hid _ := hw0
    have HDL : Hid _ := hdl
    clear k38 k44 hd0 hw0 hsplit hLx hsz hj hno hlen h hw hdl
    go_enter Tryd.func57, Tryd.ntmps57
    go_wp2_with fail
    refine use K38.out ?_
    go_wp2_with fail
    refine (Calls.mono K44.out) ?_
    rintro e w1 ⟨rfl, h1, h2, h3⟩
    have H1 : Hid (Wrote B b (l ++ (L t).take j) w w1) := hid ⟨h1, h2, h3⟩
    clear h1 h2 h3 K38 K44
    go_wp2
    go_loopw [5] (fun i wr => ∃ (k : Nat) (o : List UInt8), k ≤ t.size ∧ i = .int .i64 k ∧ o ++ dec false ((L t).drop k) = dec false (L t) ∧ wf false ((L t).drop k) = true ∧ Wrote B b (l ++ o) w wr) (fun i _ => t.size - (intOf i).toNat)
    case atStart => exact ⟨j, _, by omega, rfl, HD0.out, HW0.out, H1.out⟩
    case round =>
      obtain ⟨k, o, hk, rfl, ho, hwk, hwr⟩ := hrel
      have hol : o.length ≤ t.size := by
        have h1 := congrArg List.length ho
        have h2 := HDL.out
        simp at h1
        omega
      have hol2 : (l ++ o).length + 1 ≤ 140737488355328 := by simp; omega
      have HO : Hid _ := ho
      have HW : Hid (wf false ((L t).drop k) = true) := hwk
      have k46 : ∀ c : UInt8, _ := fun c => wbW B b (l ++ o) c w wr hwr hol2 hBw
      clear ho hwk H1 HD0 HW0 hol2 HDL
      by_cases hlt : k < t.size
      · cases h126 : ((t[k].toNat : Int) == 126) with
        | false =>
          have HO2 : Hid ((o ++ [t[k]]) ++ dec false ((L t).drop (k + 1)) = dec false (L t)) := hid (by rw [← HO.out, L_drop t k hlt, dec, if_neg (n126 h126)]; simp)
          have HW2 : Hid (wf false ((L t).drop (k + 1)) = true) := hid (by have := HW.out; rw [L_drop t k hlt, wf, if_neg (n126 h126)] at this; exact this)
          have K46 : Hid _ := k46 t[k]
          clear HO HW hwr k46
          go_wp2_with fail
          refine (Calls.mono K46.out) ?_
          rintro e w2 ⟨rfl, hwr2⟩
          have HR : Hid _ := hwr2
          clear hwr2 K46
          go_wp2
          go_roundw
          case rel => exact ⟨k + 1, o ++ [t[k]], hlt, by go_num, HO2.out, HW2.out, by rw [← List.append_assoc]; exact HR.out⟩
          case measure => simp [intOf]; omega
        | true =>
          have hwx := HW.out
          rw [L_drop t k hlt, y126 h126, wf] at hwx
          simp only [if_true] at hwx
          have hlt2 : k + 1 < t.size := by
            rcases Nat.lt_or_ge (k + 1) t.size with h | h
            · exact h
            · rw [L_end t (k + 1) (by omega)] at hwx; simp [wf] at hwx
          have hneq : ((k + 1 : Nat) : Int) ≠ t.size := by omega
          have hnb : (((k : Int) + 1) == (t.size : Int)) = false := beq_eq_false_iff_ne.2 (by omega)
          rw [L_drop t (k + 1) hlt2, wf] at hwx
          have hO1 := HO.out
          rw [L_drop t k hlt, y126 h126, dec, if_pos rfl, L_drop t (k + 1) hlt2, dec] at hO1
          cases h48 : ((t[k + 1].toNat : Int) == 48) with
          | true =>
            rw [y48 h48] at hwx hO1
            have HO2 : Hid ((o ++ [126]) ++ dec false ((L t).drop (k + 2)) = dec false (L t)) := hid (by rw [← hO1]; simp)
            have HW2 : Hid (wf false ((L t).drop (k + 2)) = true) := hid (by simpa using hwx)
            have K46 : Hid _ := k46 126
            clear HO HW hwr k46 hwx hO1
            go_wp2_with fail
            refine (Calls.mono K46.out) ?_
            rintro e w2 ⟨rfl, hwr2⟩
            have HR : Hid _ := hwr2
            clear hwr2 K46
            go_wp2
            go_roundw
            case rel => exact ⟨k + 2, o ++ [126], by omega, by go_num, HO2.out, HW2.out, by rw [← List.append_assoc]; exact HR.out⟩
            case measure => simp [intOf]; omega
          | false =>
            cases h49 : ((t[k + 1].toNat : Int) == 49) with
            | true =>
              rw [y49 h49] at hwx hO1
              have HO2 : Hid ((o ++ [47]) ++ dec false ((L t).drop (k + 2)) = dec false (L t)) := hid (by rw [← hO1]; simp)
              have HW2 : Hid (wf false ((L t).drop (k + 2)) = true) := hid (by simpa using hwx)
              have K46 : Hid _ := k46 47
              clear HO HW hwr k46 hwx hO1
              go_wp2_with fail
              refine (Calls.mono K46.out) ?_
              rintro e w2 ⟨rfl, hwr2⟩
              have HR : Hid _ := hwr2
              clear hwr2 K46
              go_wp2
              go_roundw
              case rel => exact ⟨k + 2, o ++ [47], by omega, by go_num, HO2.out, HW2.out, by rw [← List.append_assoc]; exact HR.out⟩
              case measure => simp [intOf]; omega
            | false =>
              simp [n48 h48, n49 h49] at hwx
      · have he : (L t).drop k = [] := L_end t k hlt
        have HF : Hid (o = dec false (L t)) := hid (by rw [← HO.out, he]; simp [dec])
        have HR : Hid _ := hwr
        clear HO HW hwr k46 he
        go_wp2
        go_ret
        exact ⟨rfl, by rw [← HF.out]; exact HR.out⟩

set_option maxHeartbeats 1000000 in
/-- tokenEnd with ends: the end listed. -/
theorem end_at (t : ByteArray) (g n cap : Nat) (i : Nat) (e : Nat) (start : Int) (w : World) (hi : i < n) (hn : n ≤ 4194304) (hc : w.cell? ⟨g, i, none⟩ = some (.int .i64 (e : Int))) :
    Calls Tryd.prog 59 #[.agg #[.string t, .slice (some ⟨g, 0, none⟩) n cap], .int .i64 i, .int .i64 start] w fun r w' => r = .returned (.int .i64 (e : Int)) ∧ w' = w.alloc (boxP t (.slice (some ⟨g, 0, none⟩) n cap)) := by
  have q27 : ∀ (w : World) (a : Option Addr) (n c n' c' : Nat), (binOp .neq 27 (.slice a n c) (.slice none n' c')).run Tryd.prog w = .ok (.bool (!a.isNone)) w := fun w a n c n' c' => run_neq_slice_nil_any w _ _ a n c n' c' Tryd.underlying27
  unfold boxP
  have hc' := Lib.cell?_alloc_some (.cells #[.string t, .slice (some ⟨g, 0, none⟩) n cap] 31) hc
  clear hc
  go_enter Tryd.func59, Tryd.ntmps59
  go_wp2
  go_ret
  exact ⟨rfl, rfl⟩
end Go.Proofs.Qxb6609358aDoor.A
