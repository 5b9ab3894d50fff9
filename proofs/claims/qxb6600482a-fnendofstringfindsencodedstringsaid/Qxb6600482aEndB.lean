import Derived.Test.Qxb6600482aEndA
namespace Go.Proofs.Qxb6600482a.EndB
open Go.ChangeShapes Go.WideShapes Go.ChangeAt Go.RowKit EndP EndA
set_option linter.unusedVariables false

theorem enc_take (xs : List Int) (k : Nat) (h : k < xs.length) : enc (xs.take (k + 1)) = enc (xs.take k) ++ piece (xs.getD k 0) := by
  rw [List.take_succ_eq_append_getElem h, enc_append, List.getD_eq_getElem?_getD, List.getElem?_eq_getElem h]
  simp [enc]

theorem one_new (w : World) (c : Int) : ∀ j u, [Value.int .u8 c][j]? = some u → (w.alloc (.cells #[.int .u8 c] 5)).cell? ((⟨w.heap.size, 0, none⟩ : Addr).add j) = some u := by
  intro j u hj
  match j, hj with
  | 0, hj => simp at hj; subst hj; simp [Addr.add]
theorem two_new (w : World) (c d : Int) : ∀ j u, [Value.int .u8 c, Value.int .u8 d][j]? = some u → (w.alloc (.cells #[.int .u8 c, .int .u8 d] 5)).cell? ((⟨w.heap.size, 0, none⟩ : Addr).add j) = some u := by
  intro j u hj
  match j, hj with
  | 0, hj => simp at hj; subst hj; simp [Addr.add]
  | 1, hj => simp at hj; subst hj; simp [Addr.add]
theorem one_cell (c : Int) : ∀ u ∈ [Value.int .u8 c], u.oneCell' = true := by
  intro u hu
  simp at hu
  subst hu
  rfl
theorem two_cell (c d : Int) : ∀ u ∈ [Value.int .u8 c, Value.int .u8 d], u.oneCell' = true := by
  intro u hu
  simp at hu
  rcases hu with rfl | rfl <;> rfl

/-- What encodeString lays. -/
def coded (p s t : List Int) : List Int := p ++ 34 :: (enc s ++ 34 :: t)

set_option maxHeartbeats 8000000 in
theorem encode_any (p0 p1 p2 : Option Addr) (n0 n1 n2 c0 c1 c2 : Nat) (xs0 xs1 xs2 : List Int) (w : World) (h0 : n0 ≤ 65536) (h1 : n1 ≤ 65536) (h2 : n2 ≤ 65536) (A0 : Arg w p0 n0 c0 xs0) (A1 : Arg w p1 n1 c1 xs1) (A2 : Arg w p2 n2 c2 xs2) :
    Calls Try.prog 14 #[.slice p0 n0 c0, .slice p1 n1 c1, .slice p2 n2 c2] w fun e w' => (∃ n c, e = .returned (.slice (some ⟨w.heap.size, 0, none⟩) n c) ∧ n = (coded xs0 xs1 xs2).length ∧ n ≤ 524288 ∧ ∀ i, i < n → w'.cell? ⟨w.heap.size, i, none⟩ = some (.int .u8 ((coded xs0 xs1 xs2).getD i 0))) ∧ Below w.heap.size w w' := by
  obtain ⟨i0, hi, hz0, hz1, hz2⟩ := info_parts Try.info5
  go_enter Try.func14, Try.ntmps14
  go_wp2_with (first
    | (at_make; refine wpList_make_own _ rfl _ _ 22 rfl w.heap.size 5 i0 (.int .u8 0) 1 Try.underlying22 hi hz0 hz1 _ _ _ (n0 + 2 * n1 + 2 + n2) rfl rfl (by omega) (by rw [hz2]; omega) (by unfold maxLen; omega) (Nat.le_refl _) ?_; intro w0 own0 gr0; have b0 := (Below.refl w.heap.size w).grown gr0 (Nat.le_refl _) (by intro k hk; cases hk); clear gr0)
    | (at_builtin; refine wpList_append_fits_any _ rfl (.tmp 21) (.tmp 22) 22 rfl w.heap.size 5 i0 1 Try.underlying22 hi hz1 w.heap.size 0 (n0 + 2 * n1 + 2 + n2) [] rfl own0 p0 n0 c0 (xs0.map (Value.int .u8)) rfl (by simp [A0.len]) A0.none (A0.src b0) (ints_oneCell _ _) (by omega) ?_; intro w1 own1 gr1; have b1 := b0.grown gr1 (by have := b0.size; simp; omega) (by intro k hk; cases hk; exact Nat.le_refl _); clear gr1 own0 b0; simp only [Nat.zero_add, List.nil_append] at own1)
    | (at_builtin; refine wpList_append_fits _ rfl (.tmp 24) (.tmp 25) 22 rfl w.heap.size 5 i0 1 Try.underlying22 hi hz1 w.heap.size n0 (n0 + 2 * n1 + 2 + n2) _ rfl (own1.alloc _) ⟨w1.heap.size, 0, none⟩ 1 1 [.int .u8 34] rfl rfl (one_new w1 34) (one_cell 34) (by omega) ?_; intro w2 own2 gr2; have b2 := (b1.alloc b1.size _).grown gr2 (by have := b1.size; simp; omega) (by intro k hk; cases hk; exact Nat.le_refl _); clear gr2 own1 b1))
  go_loopw [7, 8, 9] (fun v i cc wr => ∃ (k m : Nat), k ≤ n1 ∧ i = .int .i64 k ∧ m = (xs0 ++ 34 :: enc (xs1.take k)).length ∧ v = .slice (some ⟨w.heap.size, 0, none⟩) m (n0 + 2 * n1 + 2 + n2) ∧ wr.ownsRow w.heap.size 5 1 (.slice (some ⟨w.heap.size, 0, none⟩) m (n0 + 2 * n1 + 2 + n2)) m ((xs0 ++ 34 :: enc (xs1.take k)).map (Value.int .u8)) ∧ m ≤ n0 + 1 + 2 * k ∧ Below w.heap.size w wr) (fun v i cc wr => n1 - (intOf i).toNat)
  case atStart => exact ⟨0, n0 + 1, Nat.zero_le _, rfl, by simp [enc, A0.len], rfl, by simpa [enc] using own2, by omega, b2⟩
  case round =>
    obtain ⟨k, m, hk, rfl, hm, rfl, hown, hmk, hbw⟩ := hrel
    have HM : Hid (m = (xs0 ++ 34 :: enc (xs1.take k)).length) := hm
    clear hm own2 b2
    by_cases hlt : k < n1
    · obtain ⟨b, o, rfl, hcell⟩ := A1.cells (by omega)
      have hsrc : wr.cell? ⟨b, o + k, none⟩ = some (.int .u8 (xs1.getD k 0)) := by rw [hbw.cell (World.block_lt_of_cell? w _ (hcell k hlt)), hcell k hlt]
      have hxl : k < xs1.length := by rw [A1.len]; exact hlt
      generalize hx : xs1.getD k 0 = x at hsrc
      have HX : Hid _ := hx
      clear hx hcell
      cases h34 : (x == 34) with
      | true =>
        have G : Hid (x = 34) := beq_iff_eq.1 h34
        go_wp2_with (at_builtin; refine wpList_append_fits _ rfl (.tmp 45) (.tmp 47) 22 rfl w.heap.size 5 i0 1 Try.underlying22 hi hz1 w.heap.size m (n0 + 2 * n1 + 2 + n2) _ rfl (hown.alloc _) ⟨wr.heap.size, 0, none⟩ 2 2 [.int .u8 92, .int .u8 x] rfl rfl (two_new wr 92 x) (two_cell 92 x) (by omega) ?_; intro w1 own1 gr1; have b1 := (hbw.alloc hbw.size _).grown gr1 (by have := hbw.size; simp; omega) (by intro k hk; cases hk; exact Nat.le_refl _); clear gr1 hown hbw)
        go_roundw
        case rel =>
          have hE := enc_take xs1 k (by omega)
          rw [HX.out] at hE
          have hP : piece x = [92, x] := by unfold piece; simp [G.out]
          rw [hP] at hE
          refine ⟨k + 1, m + 2, by omega, by go_num, by rw [hE]; have := HM.out; simp at this ⊢; omega, rfl, by rw [hE]; simpa using own1, by omega, b1⟩
        case measure => simp [intOf]; omega
      | false =>
        cases h92 : (x == 92) with
        | true =>
          have G : Hid (x = 92) := beq_iff_eq.1 h92
          go_wp2_with (at_builtin; refine wpList_append_fits _ rfl (.tmp 45) (.tmp 47) 22 rfl w.heap.size 5 i0 1 Try.underlying22 hi hz1 w.heap.size m (n0 + 2 * n1 + 2 + n2) _ rfl (hown.alloc _) ⟨wr.heap.size, 0, none⟩ 2 2 [.int .u8 92, .int .u8 x] rfl rfl (two_new wr 92 x) (two_cell 92 x) (by omega) ?_; intro w1 own1 gr1; have b1 := (hbw.alloc hbw.size _).grown gr1 (by have := hbw.size; simp; omega) (by intro k hk; cases hk; exact Nat.le_refl _); clear gr1 hown hbw)
          go_roundw
          case rel =>
            have hE := enc_take xs1 k (by omega)
            rw [HX.out] at hE
            have hP : piece x = [92, x] := by unfold piece; simp [G.out]
            rw [hP] at hE
            refine ⟨k + 1, m + 2, by omega, by go_num, by rw [hE]; have := HM.out; simp at this ⊢; omega, rfl, by rw [hE]; simpa using own1, by omega, b1⟩
          case measure => simp [intOf]; omega
        | false =>
          cases h10 : (x == 10) with
          | true =>
            have G : Hid (x = 10) := beq_iff_eq.1 h10
            go_wp2_with (at_builtin; refine wpList_append_fits _ rfl (.tmp 51) (.tmp 52) 22 rfl w.heap.size 5 i0 1 Try.underlying22 hi hz1 w.heap.size m (n0 + 2 * n1 + 2 + n2) _ rfl (hown.alloc _) ⟨wr.heap.size, 0, none⟩ 2 2 [.int .u8 92, .int .u8 110] rfl rfl (two_new wr 92 110) (two_cell 92 110) (by omega) ?_; intro w1 own1 gr1; have b1 := (hbw.alloc hbw.size _).grown gr1 (by have := hbw.size; simp; omega) (by intro k hk; cases hk; exact Nat.le_refl _); clear gr1 hown hbw)
            go_roundw
            case rel =>
              have hE := enc_take xs1 k (by omega)
              rw [HX.out] at hE
              have hP : piece x = [92, 110] := by unfold piece; simp [G.out]
              rw [hP] at hE
              refine ⟨k + 1, m + 2, by omega, by go_num, by rw [hE]; have := HM.out; simp at this ⊢; omega, rfl, by rw [hE]; simpa using own1, by omega, b1⟩
            case measure => simp [intOf]; omega
          | false =>
            have G : Hid (x ≠ 34 ∧ x ≠ 92 ∧ x ≠ 10) := ⟨beq_eq_false_iff_ne.1 h34, beq_eq_false_iff_ne.1 h92, beq_eq_false_iff_ne.1 h10⟩
            go_wp2_with (at_builtin; refine wpList_append_fits _ rfl (.tmp 38) (.tmp 40) 22 rfl w.heap.size 5 i0 1 Try.underlying22 hi hz1 w.heap.size m (n0 + 2 * n1 + 2 + n2) _ rfl (hown.alloc _) ⟨wr.heap.size, 0, none⟩ 1 1 [.int .u8 x] rfl rfl (one_new wr x) (one_cell x) (by omega) ?_; intro w1 own1 gr1; have b1 := (hbw.alloc hbw.size _).grown gr1 (by have := hbw.size; simp; omega) (by intro k hk; cases hk; exact Nat.le_refl _); clear gr1 hown hbw)
            go_roundw
            case rel =>
              have hE := enc_take xs1 k (by omega)
              rw [HX.out] at hE
              have hP : piece x = [x] := by unfold piece; simp [G.out]
              rw [hP] at hE
              refine ⟨k + 1, m + 1, by omega, by go_num, by rw [hE]; have := HM.out; simp at this ⊢; omega, rfl, by rw [hE]; simpa using own1, by omega, b1⟩
            case measure => simp [intOf]; omega
    · obtain rfl : k = n1 := by omega
      have ht : xs1.take k = xs1 := List.take_of_length_le (by rw [A1.len]; exact Nat.le_refl _)
      rw [ht] at hown
      have HM2 : Hid (m = (xs0 ++ 34 :: enc xs1).length) := by have := HM.out; rw [ht] at this; exact this
      clear ht HM
      go_wp2_with (first
        | (at_builtin; refine wpList_append_fits _ rfl (.tmp 54) (.tmp 55) 22 rfl w.heap.size 5 i0 1 Try.underlying22 hi hz1 w.heap.size m (n0 + 2 * k + 2 + n2) _ rfl (hown.alloc _) ⟨wr.heap.size, 0, none⟩ 1 1 [.int .u8 34] rfl rfl (one_new wr 34) (one_cell 34) (by omega) ?_; intro w3 own3 gr3; have b3 := (hbw.alloc hbw.size _).grown gr3 (by have := hbw.size; simp; omega) (by intro k hk; cases hk; exact Nat.le_refl _); clear gr3 hown hbw)
        | (at_builtin; refine wpList_append_fits_any _ rfl (.tmp 57) (.tmp 58) 22 rfl w.heap.size 5 i0 1 Try.underlying22 hi hz1 w.heap.size (m + 1) (n0 + 2 * k + 2 + n2) _ rfl own3 p2 n2 c2 (xs2.map (Value.int .u8)) rfl (by simp [A2.len]) A2.none (A2.src b3) (ints_oneCell _ _) (by omega) ?_; intro w4 own4 gr4; have b4 := b3.grown gr4 (by have := b3.size; simp; omega) (by intro k hk; cases hk; exact Nat.le_refl _); clear gr4 own3 b3))
      go_ret
      have e : (xs0 ++ 34 :: enc xs1).map (Value.int .u8) ++ [.int .u8 34] ++ xs2.map (Value.int .u8) = (coded xs0 xs1 xs2).map (Value.int .u8) := by unfold coded; simp
      rw [e] at own4
      have hl : m + 1 + n2 = (coded xs0 xs1 xs2).length := by rw [HM2.out]; unfold coded; simp [A2.len]; omega
      refine ⟨⟨_, _, rfl, hl, by omega, fun i hi => ?_⟩, b4⟩
      rw [own4.cellAt i (by omega)]
      simp [show i < (coded xs0 xs1 xs2).length by omega]
end Go.Proofs.Qxb6600482a.EndB
