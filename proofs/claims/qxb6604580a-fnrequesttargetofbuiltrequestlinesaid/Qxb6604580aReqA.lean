import Derived.Test.Qxb6604580aRows
import Derived.WalkKit
import Derived.ProofKit
import Derived.OpenShut
import Derived.ShutString
import Derived.ChangeOld
import Derived.Below
namespace Go.Proofs.Qxb6604580a.ReqA
open Go.ChangeShapes Go.WideShapes Go.ChangeAt Go.RowKit
set_option linter.unusedVariables false

/-- Does the number c stand in the list? A name, so that the walk does not look into it. -/
def hasB (l : List Int) (c : Int) : Bool := l.any (fun x => x == c)

theorem ret_bool {a b : Bool} (h : a = b) : Ending.returned (.bool a) = .returned (.bool b) := by rw [h]

theorem hasB_no {l : List Int} {c : Int} : hasB l c = false ↔ ∀ x ∈ l, x ≠ c := by
  unfold hasB; rw [List.any_eq_false]; simp

theorem hasB_yes {l : List Int} {c : Int} (k : Nat) (hk : k < l.length) (h : l.getD k 0 = c) : hasB l c = true := by
  unfold hasB; rw [List.any_eq_true]
  refine ⟨l.getD k 0, ?_, beq_iff_eq.2 h⟩
  rw [List.getD_eq_getElem?_getD, List.getElem?_eq_getElem hk]; exact List.getElem_mem hk

theorem hasB_end {l : List Int} {c : Int} (h : ∀ j, j < l.length → l.getD j 0 ≠ c) : hasB l c = false := by
  rw [hasB_no]; intro x hx
  obtain ⟨j, hj, rfl⟩ := List.mem_iff_getElem.1 hx
  have := h j hj
  rwa [List.getD_eq_getElem?_getD, List.getElem?_eq_getElem hj] at this

set_option maxHeartbeats 400000 in
/-- b1HasByte at a slice that lies at an address: reads, writes nothing. -/
theorem hasByte_at (b o len cap : Nat) (zs : List Int) (c : Int) (w : World) (hz : zs.length = len) (hl : len ≤ maxLen)
    (hc : ∀ i, i < len → w.cell? ⟨b, o + i, none⟩ = some (.int .u8 (zs.getD i 0))) :
    Calls Try.prog 5 #[.slice (some ⟨b, o, none⟩) len cap, .int .u8 c] w fun e w' => e = .returned (.bool (hasB zs c)) ∧ w' = w := by
  unfold maxLen at hl
  go_enter Try.func5, Try.ntmps5
  go_wp2
  go_loop [5] (fun i => ∃ k : Nat, k ≤ len ∧ i = .int .i64 k ∧ ∀ j, j < k → zs.getD j 0 ≠ c) (fun i => len - (intOf i).toNat)
  case atStart => exact ⟨0, Nat.zero_le _, rfl, fun j hj => by omega⟩
  case round =>
    obtain ⟨k, hk, rfl, hno⟩ := hrel
    have HN : Hid (∀ j, j < k → zs.getD j 0 ≠ c) := hno
    clear hno
    by_cases hlt : k < len
    · have hck := hc k hlt
      clear hc
      go_wp2
      · go_ret
        exact ⟨ret_bool (hasB_yes k (by omega) (by rw [List.getD_eq_getElem?_getD, List.getElem?_eq_getElem (by omega)]; exact beq_iff_eq.1 ‹_›)).symm, rfl⟩
      · go_round
        case rel =>
          refine ⟨k + 1, by omega, by go_num, fun j hj => ?_⟩
          by_cases hjk : j < k
          · exact HN.out j hjk
          · obtain rfl : j = k := by omega
            rw [List.getD_eq_getElem?_getD, List.getElem?_eq_getElem (by omega)]
            exact beq_eq_false_iff_ne.1 ‹_›
        case measure => simp [intOf]; omega
    · clear hc
      go_wp2
      go_ret
      exact ⟨ret_bool (hasB_end (fun j hj => HN.out j (by omega))).symm, rfl⟩

set_option maxHeartbeats 400000 in
/-- b1HasByte at a slice of no byte, wherever. -/
theorem hasByte_none (a : Option Addr) (cap : Nat) (c : Int) (w : World) :
    Calls Try.prog 5 #[.slice a 0 cap, .int .u8 c] w fun e w' => e = .returned (.bool false) ∧ w' = w := by
  go_enter Try.func5, Try.ntmps5
  go_wp2
  refine wp_loop_rounds 1 ?_
  rw [rounds_succ]
  go_wp2
  go_ret
  exact ⟨rfl, rfl⟩

/-- WHAT IS TOLD OF A SLICE OF BYTES: where there is a byte: its cells. -/
def In (w : World) (p : Option Addr) (n : Nat) (xs : List Int) : Prop :=
  xs.length = n ∧ (0 < n → ∃ b o, p = some ⟨b, o, none⟩ ∧ ∀ i, i < n → w.cell? ⟨b, o + i, none⟩ = some (.int .u8 (xs.getD i 0)))

theorem hasByte_any (a : Option Addr) (len cap : Nat) (zs : List Int) (c : Int) (w : World) (hl : len ≤ maxLen) (h : In w a len zs) :
    Calls Try.prog 5 #[.slice a len cap, .int .u8 c] w fun e w' => e = .returned (.bool (hasB zs c)) ∧ w' = w := by
  obtain ⟨hz, h⟩ := h
  rcases Nat.eq_zero_or_pos len with h0 | h0
  · subst h0
    obtain rfl : zs = [] := List.eq_nil_of_length_eq_zero hz
    exact hasByte_none a cap c w
  · obtain ⟨b, o, rfl, hc⟩ := h h0
    exact hasByte_at b o len cap zs c w hz hl hc

/-- Do the four lengths add up to at most 2^20? -/
def fits (a b c d : Nat) : Bool := decide (a + b + c + d ≤ 1048576)

set_option maxHeartbeats 1000000 in
theorem zzBytes_any (a0 a1 a2 a3 : Option Addr) (l0 l1 l2 l3 c0 c1 c2 c3 : Nat) (w : World) (h0 : l0 ≤ maxLen) (h1 : l1 ≤ maxLen) (h2 : l2 ≤ maxLen) (h3 : l3 ≤ maxLen) :
    Calls Try.prog 4 #[.slice a0 l0 c0, .slice a1 l1 c1, .slice a2 l2 c2, .slice a3 l3 c3] w fun e w' => e = .returned (.bool (fits l0 l1 l2 l3)) ∧ w' = w := by
  unfold maxLen at *
  by_cases hf : l0 + l1 + l2 + l3 ≤ 1048576
  · have hff : fits l0 l1 l2 l3 = true := by unfold fits; exact decide_eq_true hf
    rw [hff]; clear hff
    go_enter Try.func4, Try.ntmps4
    go_wp2
    go_ret
    exact ⟨rfl, rfl⟩
  · have hff : fits l0 l1 l2 l3 = false := by unfold fits; exact decide_eq_false hf
    rw [hff]; clear hff
    go_enter Try.func4, Try.ntmps4
    go_wp2
    all_goals go_ret
    all_goals exact ⟨rfl, rfl⟩
end Go.Proofs.Qxb6604580a.ReqA
