import Derived.Test.Qxb6609358aDoorH
import Derived.Laws.IdiomStrings
namespace Go.Proofs.Qxb6609358aDoor.A
open Go.ChangeShapes Go.WideShapes Go.ChangeAt Go.RowKit P
set_option linter.unusedVariables false

theorem Tryd.info9x : (Tryd.prog.info? 9).map (fun i => (i.zero, i.size, i.bytes)) = some (some (.string ⟨#[]⟩), 1, 16) := by kernel_rfl
theorem Tryd.info5x : (Tryd.prog.info? 5).map (fun i => (i.zero, i.size, i.bytes)) = some (some (.int .u8 0), 1, 1) := by kernel_rfl

def sv (t : List UInt8) : Value := .string (mkB t)
/-- A row of one type is no row of another. -/
theorem rows_ne {w : World} {B1 B2 n1 n2 : Nat} {e1 e2 : TypeId} {v1 v2 : Value} {x1 x2 : List Value} {s1 s2 : Nat} (h1 : w.ownsRow B1 e1 s1 v1 n1 x1) (h2 : w.ownsRow B2 e2 s2 v2 n2 x2) (he : e1 ≠ e2) : v1.ownBlock = none ∨ v1.ownBlock ≠ v2.ownBlock := by
  rcases h1.2 with ⟨rfl, _⟩ | ⟨g, cap, cur, rfl, _, hg, _⟩
  · exact .inl rfl
  · refine .inr fun e => ?_
    rcases h2.2 with ⟨rfl, _⟩ | ⟨g2, cap2, cur2, rfl, _, hg2, _⟩
    · cases e
    · have : g = g2 := by simpa [Value.ownBlock] using e
      subst this
      rw [hg] at hg2
      cases hg2
      exact he rfl
theorem row_zero {w : World} {B n g cap : Nat} {e : TypeId} {xs : List Value} (h : w.ownsRow B e 1 (.slice (some ⟨g, 0, none⟩) n cap) n xs) : w.ownsRow B e 1 (.slice (some ⟨g, 0, none⟩) 0 cap) 0 [] := by
  rcases h.2 with ⟨h, _⟩ | ⟨g', cap', cur, he, hb, hg, h1, h2, h3, h4⟩
  · cases h
  · cases he
    exact ⟨rfl, .inr ⟨_, _, cur, rfl, hb, hg, Nat.zero_le _, h2, h3, by simp⟩⟩
theorem row_cells {w : World} {B n g cap : Nat} {e : TypeId} {xs : List Value} (h : w.ownsRow B e 1 (.slice (some ⟨g, 0, none⟩) n cap) n xs) (i : Nat) (v : Value) (hi : xs[i]? = some v) : w.cell? ⟨g, i, none⟩ = some v := by
  rcases h.2 with ⟨h, _⟩ | ⟨g', cap', cur, he, hb, hg, h1, h2, h3, h4⟩
  · cases h
  · cases he
    rw [Nat.mul_one] at h4
    rw [← h4, List.getElem?_take] at hi
    split at hi
    · rw [Array.getElem?_toList] at hi
      simp [World.cell?, hg, hi]
    · cases hi

/-- The law's own tokens. -/
def TokRow (w : World) (v : Value) (ts : List (List UInt8)) : Prop := (ts = [] ∧ v = .slice none 0 0) ∨ ∃ g cap, v = .slice (some ⟨g, 0, none⟩) ts.length cap ∧ g < w.heap.size ∧ ∀ i t, ts[i]? = some t → w.cell? ⟨g, i, none⟩ = some (sv t)

set_option maxRecDepth 100000 in
set_option maxHeartbeats 4000000 in
theorem ptk_any (s : ByteArray) (l : List UInt8) (w : World) (hs : s.size ≤ 4194304) (hL : L s = 47 :: l) (hw : wf false l = true) :
    Calls Tryd.prog 19 #[.string s] w fun e w' => (∃ v, e = .returned v ∧ TokRow w' v (toks l)) ∧ Below w.heap.size w w' := by
  obtain ⟨i9, hi9, h90, h91, h92⟩ := info_parts Tryd.info9x
  obtain ⟨i5, hi5, h50, h51, h52⟩ := info_parts Tryd.info5x
  have hp : 0 < s.size := by rw [← L_len, hL]; simp
  have h0 : ((s.size : Int) == 0) = false := beq_eq_false_iff_ne.2 (by omega)
  have HS : Hid (wf false ((L s).drop 1) = true ∧ pt false [] ((L s).drop 1) = toks l) := hid (by rw [hL]; exact ⟨hw, pt_eq l hw⟩)
  clear hL hw
  obtain ⟨n0, hn0⟩ : ∃ n, w.heap.size = n := ⟨_, rfl⟩
  rw [hn0]
  go_enter Tryd.func19, Tryd.ntmps19
  go_wp2_with (first
    | (at_make; refine wpList_make_own _ rfl _ _ 44 rfl n0 9 i9 (.string ⟨#[]⟩) 1 Tryd.underlying44 hi9 h90 h91 .i64 .i64 4 4 rfl rfl rfl (by rw [h92]; omega) (by unfold maxLen; omega) (by omega) ?_; intro w0 own0 gr0; obtain ⟨g0, hg0⟩ : ∃ n, w0.heap.size = n := ⟨_, rfl⟩; have hg1 := gr0.size)
    | (at_make; refine wpList_make_own _ rfl _ _ 56 rfl n0 5 i5 (.int .u8 0) 1 Tryd.underlying56 hi5 h50 h51 _ _ _ s.size rfl rfl rfl (by rw [h52]; omega) (by unfold maxLen; omega) (by omega) ?_; intro w1 own1 gr1))
  rw [hn0] at own0
  rw [hg0] at own1 hg1
  rw [hn0] at hg1
  have own0' : w1.ownsRow n0 9 1 (.slice (some ⟨n0, 0, none⟩) 0 4) 0 [] := own0.kept gr1 (.inr (by simp [Value.ownBlock]))
  have hb1 : Below n0 w w1 := (((Below.refl n0 w).grown gr0 (by omega) (by intro k hk; cases hk))).grown gr1 (by omega) (by intro k hk; cases hk)
  clear own0 gr0 gr1
  go_loopw [3, 4, 5] (fun tv cv i wr => ∃ (k : Nat) (T : List (List UInt8)) (C : List UInt8) (g cap : Nat), k ≤ s.size ∧ i = .int .i64 k ∧ tv = .slice (some ⟨g, 0, none⟩) T.length cap ∧ cv = .slice (some ⟨g0, 0, none⟩) C.length s.size ∧ C.length + 1 ≤ k ∧ T.length + 1 ≤ k ∧ wf false ((L s).drop k) = true ∧ T ++ pt false C ((L s).drop k) = toks l ∧ wr.ownsRow n0 9 1 (.slice (some ⟨g, 0, none⟩) T.length cap) T.length (T.map sv) ∧ wr.ownsRow n0 5 1 (.slice (some ⟨g0, 0, none⟩) C.length s.size) C.length (Lib.byteCells C) ∧ Below n0 w wr)
    (fun tv cv i wr => s.size - (intOf i).toNat)
  case atStart => exact ⟨1, [], [], n0, 4, hp, rfl, rfl, rfl, Nat.le_refl _, Nat.le_refl _, HS.out.1, HS.out.2, own0', own1, hb1⟩
  case round =>
    obtain ⟨k, T, C, g, cap, hk, rfl, rfl, rfl, hCk, hTk, hwk, hpk, hT, hC, hb⟩ := hrel
    have HW : Hid (wf false ((L s).drop k) = true) := hwk
    have HP : Hid (T ++ pt false C ((L s).drop k) = toks l) := hpk
    clear hwk hpk HS own0' own1 hb1
    have hbs := hb.size
    have hcv : (convert 56 9 (.slice (some ⟨g0, 0, none⟩) C.length s.size)).run Tryd.prog wr = .ok (.string (mkB C)) wr :=
      run_convert_bytes_back wr 56 9 5 ⟨g0, 0, none⟩ s.size C Tryd.underlying56 Tryd.underlying5 Tryd.underlying9 (fun j hj => by
        rw [Go.WideShapes.add_plain, Nat.zero_add]
        exact row_cells hC j _ (by simp [Lib.byteCells, hj]))
    by_cases hlt : k < s.size
    · cases h47 : ((s[k].toNat : Int) == 47) with
      | true =>
        have HW2 : Hid (wf false ((L s).drop (k + 1)) = true) := hid (by have := HW.out; rw [L_drop s k hlt, y47 h47, wf] at this; simpa using this)
        have HP2 : Hid ((T ++ [C]) ++ pt false [] ((L s).drop (k + 1)) = toks l) := hid (by rw [← HP.out, L_drop s k hlt, y47 h47]; simp [pt])
        clear HW HP
        go_wp2_with (at_builtin; refine wpList_append_own _ rfl (.tmp 25) (.tmp 28) 44 rfl n0 9 i9 (.string ⟨#[]⟩) 1 16 Tryd.underlying44 hi9 h90 h91 h92 rfl (by decide) _ T.length (T.map sv) rfl (hT.alloc _) ⟨wr.heap.size, 0, none⟩ 1 1 [sv C] rfl rfl (cell_one_new _ _ _) (by simp [Value.oneCell', sv]) (by unfold maxLen; omega) (by omega) (by simp; omega) ?_; intro v' w2 own2 gr2 hnl2)
        obtain ⟨g', cap', rfl⟩ := ownsRow_succ own2
        have hC2 := row_zero ((hC.alloc (.cells #[sv C] 9)).kept gr2 (rows_ne (hC.alloc (.cells #[sv C] 9)) (hT.alloc (.cells #[sv C] 9)) (by decide)))
        have hb2 : Below n0 w w2 := (hb.alloc (by omega) (.cells #[sv C] 9)).grown gr2 (by simp; omega) (fun j e => ((hT.alloc (.cells #[sv C] 9)).lt j e).1)
        go_roundw
        case rel => exact ⟨k + 1, T ++ [C], [], g', cap', hlt, by go_num, by simp, rfl, by simp, by simp; omega, HW2.out, HP2.out, by rw [List.length_append, List.map_append]; exact own2, hC2, hb2⟩
        case measure => simp [intOf]; omega
      | false =>
        clear hcv
        cases h126 : ((s[k].toNat : Int) == 126) with
        | false =>
          have HW2 : Hid (wf false ((L s).drop (k + 1)) = true) := hid (by have := HW.out; rw [L_drop s k hlt, wf, if_neg (n126 h126)] at this; exact this)
          have HP2 : Hid (T ++ pt false (C ++ [s[k]]) ((L s).drop (k + 1)) = toks l) := hid (by rw [← HP.out, L_drop s k hlt]; simp [pt, n47 h47, n126 h126])
          clear HW HP
          go_wp2_with (at_builtin; refine wpList_append_fits _ rfl (.tmp 48) (.tmp 50) 56 rfl n0 5 i5 1 Tryd.underlying56 hi5 h51 g0 C.length s.size (Lib.byteCells C) rfl (hC.alloc _) ⟨wr.heap.size, 0, none⟩ 1 1 [.int .u8 (s[k].toNat : Int)] rfl rfl (cell_one_new _ _ _) (by simp [Value.oneCell']) (by omega) ?_; intro w2 own2 gr2)
          have hT2 := (hT.alloc (.cells #[.int .u8 (s[k].toNat : Int)] 5)).kept gr2 (rows_ne hT hC (by decide))
          have hb2 : Below n0 w w2 := (hb.alloc (by omega) (.cells #[.int .u8 (s[k].toNat : Int)] 5)).grown gr2 (by simp; omega) (fun j e => ((hC.alloc (.cells #[.int .u8 (s[k].toNat : Int)] 5)).lt j e).1)
          go_roundw
          case rel => exact ⟨k + 1, T, C ++ [s[k]], g, cap, hlt, by go_num, rfl, by simp, by simp; omega, by omega, HW2.out, HP2.out, hT2, by rw [List.length_append, byteCells_append]; exact own2, hb2⟩
          case measure => simp [intOf]; omega
        | true =>
          have hwx := HW.out
          rw [L_drop s k hlt, y126 h126, wf] at hwx
          simp only [if_true] at hwx
          have hlt2 : k + 1 < s.size := by
            rcases Nat.lt_or_ge (k + 1) s.size with h | h
            · exact h
            · rw [L_end s (k + 1) (by omega)] at hwx; simp [wf] at hwx
          rw [L_drop s (k + 1) hlt2, wf, Bool.and_eq_true] at hwx
          have HW2 : Hid (wf false ((L s).drop (k + 2)) = true) := hid hwx.2
          clear hwx
          have hpx := HP.out
          rw [L_drop s k hlt, y126 h126, L_drop s (k + 1) hlt2] at hpx
          cases h49 : ((s[k + 1].toNat : Int) == 49) with
          | true =>
            have HP2 : Hid (T ++ pt false (C ++ [47]) ((L s).drop (k + 2)) = toks l) := hid (by rw [← hpx, y49 h49]; simp [pt])
            clear HW HP hpx
            go_wp2_with (at_builtin; go_loud (refine wpList_append_fits _ rfl (.tmp 48) (.tmp 50) 56 rfl n0 5 i5 1 Tryd.underlying56 hi5 h51 g0 C.length s.size (Lib.byteCells C) rfl (hC.alloc _) ⟨wr.heap.size, 0, none⟩ 1 1 [.int .u8 47] rfl rfl (cell_one_new _ _ _) (by simp [Value.oneCell']) (by omega) ?_); intro w2 own2 gr2)
            have hT2 := (hT.alloc (.cells #[.int .u8 47] 5)).kept gr2 (rows_ne hT hC (by decide))
            have hb2 : Below n0 w w2 := (hb.alloc (by omega) (.cells #[.int .u8 47] 5)).grown gr2 (by simp; omega) (fun j e => ((hC.alloc (.cells #[.int .u8 47] 5)).lt j e).1)
            go_roundw
            case rel => exact ⟨k + 2, T, C ++ [47], g, cap, by omega, by go_num, rfl, by simp, by simp; omega, by omega, HW2.out, HP2.out, hT2, by rw [List.length_append, byteCells_append]; exact own2, hb2⟩
            case measure => simp [intOf]; omega
          | false =>
            have HP2 : Hid (T ++ pt false (C ++ [126]) ((L s).drop (k + 2)) = toks l) := hid (by rw [← hpx]; simp [pt, n49 h49])
            clear HW HP hpx
            go_wp2_with (at_builtin; go_loud (refine wpList_append_fits _ rfl (.tmp 48) (.tmp 50) 56 rfl n0 5 i5 1 Tryd.underlying56 hi5 h51 g0 C.length s.size (Lib.byteCells C) rfl (hC.alloc _) ⟨wr.heap.size, 0, none⟩ 1 1 [.int .u8 126] rfl rfl (cell_one_new _ _ _) (by simp [Value.oneCell']) (by omega) ?_); intro w2 own2 gr2)
            have hT2 := (hT.alloc (.cells #[.int .u8 126] 5)).kept gr2 (rows_ne hT hC (by decide))
            have hb2 : Below n0 w w2 := (hb.alloc (by omega) (.cells #[.int .u8 126] 5)).grown gr2 (by simp; omega) (fun j e => ((hC.alloc (.cells #[.int .u8 126] 5)).lt j e).1)
            go_roundw
            case rel => exact ⟨k + 2, T, C ++ [126], g, cap, by omega, by go_num, rfl, by simp, by simp; omega, by omega, HW2.out, HP2.out, hT2, by rw [List.length_append, byteCells_append]; exact own2, hb2⟩
            case measure => simp [intOf]; omega
    · have HP2 : Hid (toks l = T ++ [C]) := hid (by rw [← HP.out, L_end s k hlt]; simp [pt])
      clear HW HP
      go_wp2_with (at_builtin; refine wpList_append_own _ rfl (.tmp 52) (.tmp 55) 44 rfl n0 9 i9 (.string ⟨#[]⟩) 1 16 Tryd.underlying44 hi9 h90 h91 h92 rfl (by decide) _ T.length (T.map sv) rfl (hT.alloc _) ⟨wr.heap.size, 0, none⟩ 1 1 [sv C] rfl rfl (cell_one_new _ _ _) (by simp [Value.oneCell', sv]) (by unfold maxLen; omega) (by omega) (by simp; omega) ?_; intro v' w2 own2 gr2 hnl2)
      obtain ⟨g', cap', rfl⟩ := ownsRow_succ own2
      have hb2 : Below n0 w w2 := (hb.alloc (by omega) (.cells #[sv C] 9)).grown gr2 (by simp; omega) (fun j e => ((hT.alloc (.cells #[sv C] 9)).lt j e).1)
      go_ret
      refine ⟨⟨_, rfl, .inr ⟨g', cap', by rw [HP2.out]; simp, (own2.lt g' rfl).2, fun i t hi => row_cells own2 i _ ?_⟩⟩, hb2⟩
      rw [HP2.out] at hi
      rw [show T.map sv ++ [sv C] = (T ++ [C]).map sv by simp, List.getElem?_map, hi]
      rfl
end Go.Proofs.Qxb6609358aDoor.A
