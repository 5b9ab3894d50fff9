import Derived.Test.Qxb6003626aQuoC
namespace Go.Proofs.Qxb6003626a.QuoD
open Go.ChangeShapes Go.WideShapes Go.ChangeAt Go.RowKit QuoP QuoA QuoB QuoC
set_option linter.unusedVariables false

theorem Try.info5 : (Try.prog.info? 5).map (fun i => (i.zero, i.size, i.bytes)) = some (some (.int .u8 0), 1, 1) := by kernel_rfl

theorem one_new (w : World) (c : UInt8) : ∀ j u, [Value.int .u8 (c.toNat : Int)][j]? = some u → (w.alloc (.cells #[.int .u8 (c.toNat : Int)] 5)).cell? ((⟨w.heap.size, 0, none⟩ : Addr).add j) = some u := by
  intro j u hj
  match j, hj with
  | 0, hj => simp at hj; subst hj; simp [Addr.add]
theorem one_cell (c : UInt8) : ∀ u ∈ [Value.int .u8 (c.toNat : Int)], u.oneCell' = true := by
  intro u hu
  simp at hu
  subst hu
  rfl

set_option maxHeartbeats 4000000 in
theorem mailbox_any (s : ByteArray) (w : World) (hs : s.size ≤ 4194304) :
    Calls Try.prog 10 #[.string s] w fun e w' => e = .returned (.string ⟨(out 0 (L s)).toArray⟩) ∧ Below w.heap.size w w' := by
  obtain ⟨i0, hi, hz0, hz1, hz2⟩ := info_parts Try.info5
  go_enter Try.func10, Try.ntmps10
  go_wp2_with (at_make; refine wpList_make_own _ rfl _ _ 32 rfl w.heap.size 5 i0 (.int .u8 0) 1 Try.underlying32 hi hz0 hz1 _ _ _ s.size rfl rfl rfl (by rw [hz2]; omega) (by unfold maxLen; omega) (Nat.le_refl _) ?_; intro w0 own0 gr0; have b0 := (Below.refl w.heap.size w).grown gr0 (Nat.le_refl _) (by intro k hk; cases hk); clear gr0)
  go_loopw [3, 4, 5] (fun v t i wr => ∃ (k st : Nat) (acc : List UInt8), k ≤ s.size ∧ i = .int .i64 k ∧ t = .int .i64 st ∧ st ≤ 2 ∧ acc ++ out st ((L s).drop k) = out 0 (L s) ∧ acc.length ≤ k ∧ v = .slice (some ⟨w.heap.size, 0, none⟩) acc.length s.size ∧ wr.ownsRow w.heap.size 5 1 (.slice (some ⟨w.heap.size, 0, none⟩) acc.length s.size) acc.length (Lib.byteCells acc) ∧ Below w.heap.size w wr)
    (fun v t i wr => s.size - (intOf i).toNat)
  case atStart => exact ⟨0, 0, [], Nat.zero_le _, rfl, rfl, by omega, rfl, Nat.le_refl _, rfl, own0, b0⟩
  case round =>
    obtain ⟨k, st, acc, hk, rfl, rfl, hst, hacc, hal, rfl, hown, hbw⟩ := hrel
    have HACC : Hid _ := hacc
    clear hacc own0 b0
    by_cases hlt : k < s.size
    · have fin : ∀ (st' : Nat) (e : List UInt8), stp st s[k] = st' → emit st s[k] = e → (acc ++ e) ++ out st' ((L s).drop (k + 1)) = out 0 (L s) := by
        intro st' e h1 h2
        rw [← HACC.out, L_drop s k hlt, out, h1, h2]
        simp
      have FIN : Hid _ := fin
      clear fin HACC
      rcases (show st = 0 ∨ st = 1 ∨ st = 2 by omega) with rfl | rfl | rfl
      · cases h34 : ((s[k].toNat : Int) == 34) with
        | true =>
          have g34 := yes34 h34
          have G : Hid _ := g34
          clear g34
          go_wp2
          go_roundw
          case rel => exact ⟨k + 1, 1, acc, by omega, by go_num, rfl, by omega, by simpa using FIN.out _ [] (by simp [stp, G.out]) (by simp [emit, G.out]), by omega, rfl, hown, hbw⟩
          case measure => simp [intOf]; omega
        | false =>
          have G : Hid (s[k] ≠ 34) := no34 h34
          go_wp2_with (at_builtin; refine wpList_append_fits _ rfl (.tmp 23) (.tmp 25) 32 rfl w.heap.size 5 i0 1 Try.underlying32 hi hz1 w.heap.size acc.length s.size (Lib.byteCells acc) rfl (hown.alloc _) ⟨wr.heap.size, 0, none⟩ 1 1 [.int .u8 (s[k].toNat : Int)] rfl rfl (one_new wr s[k]) (one_cell s[k]) (by omega) ?_; intro w1 own1 gr1; have b1 := (hbw.alloc hbw.size _).grown gr1 (by have := hbw.size; simp; omega) (by intro k hk; cases hk; exact Nat.le_refl _); clear gr1 hown hbw)
          go_roundw
          case rel => exact ⟨k + 1, 0, acc ++ [s[k]], by omega, by go_num, rfl, by omega, FIN.out _ [s[k]] (by simp [stp, G.out]) (by simp [emit, G.out]), by simp; omega, by simp, by rw [Lib.byteCells_append, List.length_append]; exact own1, b1⟩
          case measure => simp [intOf]; omega
      · cases h92 : ((s[k].toNat : Int) == 92) with
        | true =>
          have G : Hid _ := yes92 h92
          go_wp2
          go_roundw
          case rel => exact ⟨k + 1, 2, acc, by omega, by go_num, rfl, by omega, by simpa using FIN.out _ [] (by simp [stp, G.out]) (by simp [emit, G.out]), by omega, rfl, hown, hbw⟩
          case measure => simp [intOf]; omega
        | false =>
          cases h34 : ((s[k].toNat : Int) == 34) with
          | true =>
            have G : Hid _ := yes34 h34
            go_wp2
            go_roundw
            case rel => exact ⟨k + 1, 0, acc, by omega, by go_num, rfl, by omega, by simpa using FIN.out _ [] (by simp [stp, G.out]) (by simp [emit, G.out]), by omega, rfl, hown, hbw⟩
            case measure => simp [intOf]; omega
          | false =>
            have G : Hid (s[k] ≠ 34) := no34 h34
            have G2 : Hid (s[k] ≠ 92) := no92 h92
            go_wp2_with (at_builtin; refine wpList_append_fits _ rfl (.tmp 33) (.tmp 35) 32 rfl w.heap.size 5 i0 1 Try.underlying32 hi hz1 w.heap.size acc.length s.size (Lib.byteCells acc) rfl (hown.alloc _) ⟨wr.heap.size, 0, none⟩ 1 1 [.int .u8 (s[k].toNat : Int)] rfl rfl (one_new wr s[k]) (one_cell s[k]) (by omega) ?_; intro w1 own1 gr1; have b1 := (hbw.alloc hbw.size _).grown gr1 (by have := hbw.size; simp; omega) (by intro k hk; cases hk; exact Nat.le_refl _); clear gr1 hown hbw)
            go_roundw
            case rel => exact ⟨k + 1, 1, acc ++ [s[k]], by omega, by go_num, rfl, by omega, FIN.out _ [s[k]] (by simp [stp, G.out, G2.out]) (by simp [emit, G.out, G2.out]), by simp; omega, by simp, by rw [Lib.byteCells_append, List.length_append]; exact own1, b1⟩
            case measure => simp [intOf]; omega
      · have G : Hid True := trivial
        go_wp2_with (at_builtin; refine wpList_append_fits _ rfl (.tmp 37) (.tmp 39) 32 rfl w.heap.size 5 i0 1 Try.underlying32 hi hz1 w.heap.size acc.length s.size (Lib.byteCells acc) rfl (hown.alloc _) ⟨wr.heap.size, 0, none⟩ 1 1 [.int .u8 (s[k].toNat : Int)] rfl rfl (one_new wr s[k]) (one_cell s[k]) (by omega) ?_; intro w1 own1 gr1; have b1 := (hbw.alloc hbw.size _).grown gr1 (by have := hbw.size; simp; omega) (by intro k hk; cases hk; exact Nat.le_refl _); clear gr1 hown hbw)
        go_roundw
        case rel => exact ⟨k + 1, 1, acc ++ [s[k]], by omega, by go_num, rfl, by omega, FIN.out _ [s[k]] (by simp [stp]) (by simp [emit]), by simp; omega, by simp, by rw [Lib.byteCells_append, List.length_append]; exact own1, b1⟩
        case measure => simp [intOf]; omega
    · have hcv : (convert 32 9 (.slice (some ⟨w.heap.size, 0, none⟩) acc.length s.size)).run Try.prog wr = .ok (.string ⟨acc.toArray⟩) wr :=
        run_convert_bytes_back wr 32 9 5 ⟨w.heap.size, 0, none⟩ s.size acc Try.underlying32 Try.underlying5 Try.underlying9 (fun j hj => by
          rw [Go.WideShapes.add_plain, Nat.zero_add, hown.cellAt j (by omega)]
          simp [Lib.byteCells, hj])
      clear hown
      go_wp2
      go_ret
      have h1 := HACC.out
      rw [L_end s k hlt, out, List.append_nil] at h1
      exact ⟨ret_str (by rw [h1]), hbw⟩
end Go.Proofs.Qxb6003626a.QuoD
