import Derived.Test.Qxb6609358aDoorV
import Derived.Test.Qxb6609358aDoorO
namespace Go.Proofs.Qxb6609358aDoor.A
open Go.ChangeShapes Go.WideShapes Go.ChangeAt Go.RowKit P T
set_option linter.unusedVariables false

set_option maxRecDepth 100000 in
set_option maxHeartbeats 8000000 in
theorem zz22 (p : ByteArray) (a c : Option Addr) (n k capa capc : Nat) (f g : Nat → ByteArray) (w : World) (hp : p.size ≤ maxLen) (hn : n ≤ maxLen) (hk : k ≤ maxLen) (hf : ∀ i, i < n → (f i).size ≤ maxLen) (hg : ∀ i, i < k → (g i).size ≤ maxLen) (ha : ArrIs w a n f) (hc : ArrIs w c k g) :
    Calls Tryd.prog 22 #[.string p, .slice a n capa, .slice c k capc] w fun e w' => IsB e ∧ w' = w := by
  unfold maxLen at *
  by_cases h1 : p.size ≤ 1048576
  · by_cases h2 : n ≤ 1048576
    · by_cases h3 : p.size + n ≤ 1048576
      · go_enter Tryd.func22, Tryd.ntmps22
        go_wp2
        go_loop [7, 8] (fun T i => ∃ (x j : Nat), x ≤ 1048576 ∧ j ≤ n ∧ T = .int .i64 x ∧ i = .int .i64 j) (fun T i => n - (intOf i).toNat)
        case atStart => exact ⟨p.size + n, 0, h3, Nat.zero_le _, by go_num, rfl⟩
        case round =>
          obtain ⟨x, j, hx, hj, rfl, rfl⟩ := hrel
          by_cases hlt : j < n
          · rcases ha with ⟨_, h0⟩ | ⟨b, off, rfl, hcell⟩
            · omega
            · have hcc := hcell j hlt
              have hfj := hf j hlt
              generalize f j = y at hcc hfj
              clear hcell hf
              by_cases h4 : y.size ≤ 1048576
              · by_cases h5 : x + y.size ≤ 1048576
                · go_wp2
                  go_round
                  case rel => exact ⟨x + y.size, j + 1, h5, hlt, by go_num, by go_num⟩
                  case measure => simp [intOf]; omega
                · go_wp2
                  go_ret
                  exact ⟨⟨_, rfl⟩, rfl⟩
              · go_wp2
                go_ret
                exact ⟨⟨_, rfl⟩, rfl⟩
          · by_cases h6 : k ≤ 1048576
            · by_cases h7 : x + k ≤ 1048576
              · go_wp2
                go_loop [7, 9] (fun T i => ∃ (x j : Nat), x ≤ 1048576 ∧ j ≤ k ∧ T = .int .i64 x ∧ i = .int .i64 j) (fun T i => k - (intOf i).toNat)
                case atStart => exact ⟨x + k, 0, h7, Nat.zero_le _, by go_num, rfl⟩
                case round =>
                  obtain ⟨x2, j2, hx2, hj2, rfl, rfl⟩ := hrel
                  by_cases hlt2 : j2 < k
                  · rcases hc with ⟨_, h0⟩ | ⟨b, off, rfl, hcell⟩
                    · omega
                    · have hcc := hcell j2 hlt2
                      have hfj := hg j2 hlt2
                      generalize g j2 = y at hcc hfj
                      clear hcell hg
                      by_cases h4 : y.size ≤ 1048576
                      · by_cases h5 : x2 + y.size ≤ 1048576
                        · go_wp2
                          go_round
                          case rel => exact ⟨x2 + y.size, j2 + 1, h5, hlt2, by go_num, by go_num⟩
                          case measure => simp [intOf]; omega
                        · go_wp2
                          go_ret
                          exact ⟨⟨_, rfl⟩, rfl⟩
                      · go_wp2
                        go_ret
                        exact ⟨⟨_, rfl⟩, rfl⟩
                  · go_wp2
                    go_ret
                    exact ⟨⟨_, rfl⟩, rfl⟩
              · go_wp2
                go_ret
                exact ⟨⟨_, rfl⟩, rfl⟩
            · go_wp2
              go_ret
              exact ⟨⟨_, rfl⟩, rfl⟩
      · go_enter Tryd.func22, Tryd.ntmps22
        go_wp2
        go_ret
        exact ⟨⟨_, rfl⟩, rfl⟩
    · go_enter Tryd.func22, Tryd.ntmps22
      go_wp2
      go_ret
      exact ⟨⟨_, rfl⟩, rfl⟩
  · go_enter Tryd.func22, Tryd.ntmps22
    go_wp2
    go_ret
    exact ⟨⟨_, rfl⟩, rfl⟩
end Go.Proofs.Qxb6609358aDoor.A
