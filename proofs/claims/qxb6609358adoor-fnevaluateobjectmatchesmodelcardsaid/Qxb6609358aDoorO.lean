import Derived.Test.Qxb6609358aDoorN
import Derived.Laws.CopyOwn
namespace Go.Proofs.Qxb6609358aDoor.A
open Go.ChangeShapes Go.WideShapes Go.ChangeAt Go.RowKit P
set_option linter.unusedVariables false

theorem ptk_all (s : ByteArray) (w : World) (hs : s.size ≤ 4194304) (hw : wfp (L s) = true) :
    Calls Tryd.prog 19 #[.string s] w fun e w' => (∃ v, e = .returned v ∧ TokRow w' v (ptoks (L s))) ∧ Below w.heap.size w w' := by
  by_cases hz : s.size = 0
  · have hL : L s = [] := List.eq_nil_of_length_eq_zero (by rw [L_len]; exact hz)
    have HF : Hid (ptoks (L s) = []) := hid (by rw [hL]; rfl)
    have h0 : ((s.size : Int) == 0) = true := beq_iff_eq.2 (by omega)
    clear hL hw
    go_enter Tryd.func19, Tryd.ntmps19
    go_wp2
    go_ret
    exact ⟨⟨_, rfl, .inl ⟨HF.out, rfl⟩⟩, Below.refl _ _⟩
  · have hp : 0 < s.size := by omega
    have hL := L_drop s 0 hp
    rw [List.drop_zero] at hL
    have h47 : s[0] = 47 := by
      by_cases h : s[0] = 47
      · exact h
      · rw [hL] at hw; simp [wfp, h] at hw
    rw [h47] at hL
    have hwl : wf false ((L s).drop (0 + 1)) = true := by rw [hL] at hw; simpa [wfp, wf] using hw
    have := ptk_any s _ w hs hL hwl
    rw [show toks ((L s).drop (0 + 1)) = ptoks (L s) by rw [hL]; rfl] at this
    exact this

/-- Some bool came back. -/
def IsB (e : Ending) : Prop := ∃ bb, e = .returned (.bool bb)

set_option maxRecDepth 100000 in
set_option maxHeartbeats 4000000 in
theorem zz15 (p : ByteArray) (a : Option Addr) (n cap : Nat) (f : Nat → ByteArray) (w : World) (hp : p.size ≤ maxLen) (hn : n ≤ maxLen) (hf : ∀ i, i < n → (f i).size ≤ maxLen) (ha : ArrIs w a n f) :
    Calls Tryd.prog 15 #[.string p, .slice a n cap] w fun e w' => IsB e ∧ w' = w := by
  unfold maxLen at *
  by_cases h1 : p.size ≤ 1048576
  · by_cases h2 : n ≤ 1048576
    · by_cases h3 : p.size + n ≤ 1048576
      · go_enter Tryd.func15, Tryd.ntmps15
        go_wp2
        go_loop [5, 6] (fun T k => ∃ (x j : Nat), x ≤ 1048576 ∧ j ≤ n ∧ T = .int .i64 x ∧ k = .int .i64 j) (fun T k => n - (intOf k).toNat)
        case atStart => exact ⟨p.size + n, 0, h3, Nat.zero_le _, by go_num, rfl⟩
        case round =>
          obtain ⟨x, j, hx, hj, rfl, rfl⟩ := hrel
          by_cases hlt : j < n
          · rcases ha with ⟨_, h0⟩ | ⟨b, off, rfl, hcell⟩
            · omega
            · have hc := hcell j hlt
              have hfj := hf j hlt
              generalize f j = y at hc hfj
              clear hcell hf
              by_cases h4 : y.size ≤ 1048576
              · by_cases h5 : x + y.size ≤ 1048576
                · go_wp2
                  go_round
                  case rel => exact ⟨x + y.size, j + 1, h5, hlt, by go_num, by go_num⟩
                  case measure => simp [intOf]; omega
                · go_wp2
                  go_ret
                  exact ⟨⟨_, rfl⟩, rfl⟩
              · go_wp2
                go_ret
                exact ⟨⟨_, rfl⟩, rfl⟩
          · go_wp2
            go_ret
            exact ⟨⟨_, rfl⟩, rfl⟩
      · go_enter Tryd.func15, Tryd.ntmps15
        go_wp2
        go_ret
        exact ⟨⟨_, rfl⟩, rfl⟩
    · go_enter Tryd.func15, Tryd.ntmps15
      go_wp2
      go_ret
      exact ⟨⟨_, rfl⟩, rfl⟩
  · go_enter Tryd.func15, Tryd.ntmps15
    go_wp2
    go_ret
    exact ⟨⟨_, rfl⟩, rfl⟩
end Go.Proofs.Qxb6609358aDoor.A
