import Derived.Test.Qxb6604580aReqA
namespace Go.Proofs.Qxb6604580a.ReqB
open Go.ChangeShapes Go.WideShapes Go.ChangeAt Go.RowKit
set_option linter.unusedVariables false

theorem ret_int {k : IntKind} {a b : Int} (h : a = b) : Ending.returned (.int k a) = .returned (.int k b) := by rw [h]

set_option maxHeartbeats 400000 in
/-- internal/bytealg.LastIndexByte where the byte stands at place p and nowhere behind it. -/
theorem lastAlg (b o n cap p : Nat) (zs : List Int) (c : Int) (w : World) (hz : zs.length = n) (hl : n ≤ 4294967296) (hp : p < n) (hpc : zs.getD p 0 = c) (hno : ∀ j, p < j → j < n → zs.getD j 0 ≠ c)
    (hc : ∀ i, i < n → w.cell? ⟨b, o + i, none⟩ = some (.int .u8 (zs.getD i 0))) :
    Calls Try.prog 15 #[.slice (some ⟨b, o, none⟩) n cap, .int .u8 c] w fun e w' => e = .returned (.int .i64 p) ∧ w' = w := by
  have HN : Hid (∀ j, p < j → j < n → zs.getD j 0 ≠ c) := hno
  have HP : Hid (zs.getD p 0 = c) := hpc
  clear hno hpc
  go_enter Try.func15, Try.ntmps15
  go_wp2
  go_loop [5] (fun i => ∃ k : Nat, p ≤ k ∧ k < n ∧ i = .int .i64 k) (fun i => (intOf i).toNat)
  case atStart => exact ⟨n - 1, by omega, by omega, by congr 1; omega⟩
  case round =>
    obtain ⟨k, hpk, hk, rfl⟩ := hrel
    have hck := hc k hk
    clear hc
    have hk0 : (0 : Int) ≤ k := by omega
    go_wp2
    · go_ret
      refine ⟨ret_int ?_, rfl⟩
      have hkc : (zs[k] == c) = true := by assumption
      by_cases h : p < k
      · have := HN.out k h hk
        rw [List.getD_eq_getElem?_getD, List.getElem?_eq_getElem (by omega)] at this
        exact absurd (beq_iff_eq.1 hkc) this
      · show (k : Int) = p
        omega
    · have hkc : (zs[k] == c) = false := by assumption
      have hlt : p < k := by
        by_cases h : p = k
        · subst h
          have := HP.out
          rw [List.getD_eq_getElem?_getD, List.getElem?_eq_getElem (by omega)] at this
          exact absurd this (beq_eq_false_iff_ne.1 hkc)
        · omega
      go_round
      case rel => exact ⟨k - 1, by omega, by omega, by congr 1; omega⟩
      case measure => simp [intOf]; omega
end Go.Proofs.Qxb6604580a.ReqB
