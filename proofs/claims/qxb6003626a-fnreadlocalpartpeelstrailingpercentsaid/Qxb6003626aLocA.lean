import Derived.Test.Qxb6003626aQuoA
import Derived.Test.Qxb6003626aLocP
import Derived.WalkSpells
namespace Go.Proofs.Qxb6003626a.LocA
open Go.ChangeShapes Go.WideShapes Go.ChangeAt Go.RowKit QuoA LocP
set_option linter.unusedVariables false

def fits2 (a b : Nat) : Bool := decide (a + b ≤ 1048576)

set_option maxHeartbeats 1000000 in
theorem zzBytes12 (a b : ByteArray) (w : World) (h0 : a.size ≤ maxLen) (h1 : b.size ≤ maxLen) :
    Calls Try.prog 12 #[.string a, .string b] w fun e w' => e = .returned (.bool (fits2 a.size b.size)) ∧ w' = w := by
  unfold maxLen at *
  by_cases hf : a.size + b.size ≤ 1048576
  · have hff : fits2 a.size b.size = true := by unfold fits2; exact decide_eq_true hf
    rw [hff]; clear hff
    go_enter Try.func12, Try.ntmps12
    go_wp2
    go_ret
    exact ⟨rfl, rfl⟩
  · have hff : fits2 a.size b.size = false := by unfold fits2; exact decide_eq_false hf
    rw [hff]; clear hff
    go_enter Try.func12, Try.ntmps12
    go_wp2
    all_goals go_ret
    all_goals exact ⟨rfl, rfl⟩

set_option maxHeartbeats 1000000 in
theorem zzBytes15 (a b : ByteArray) (w : World) (h0 : a.size ≤ maxLen) (h1 : b.size ≤ maxLen) :
    Calls Try.prog 15 #[.string a, .string b] w fun e w' => e = .returned (.bool (fits2 a.size b.size)) ∧ w' = w := by
  unfold maxLen at *
  by_cases hf : a.size + b.size ≤ 1048576
  · have hff : fits2 a.size b.size = true := by unfold fits2; exact decide_eq_true hf
    rw [hff]; clear hff
    go_enter Try.func15, Try.ntmps15
    go_wp2
    go_ret
    exact ⟨rfl, rfl⟩
  · have hff : fits2 a.size b.size = false := by unfold fits2; exact decide_eq_false hf
    rw [hff]; clear hff
    go_enter Try.func15, Try.ntmps15
    go_wp2
    all_goals go_ret
    all_goals exact ⟨rfl, rfl⟩

set_option maxHeartbeats 1000000 in
theorem name_any (c : UInt8) (w : World) : Calls Try.prog 18 #[.int .u8 c.toNat] w fun e w' => e = .returned (.bool (nameB c)) ∧ w' = w := by
  have hb : c.toNat < 256 := c.toNat_lt
  generalize hn : nameB c = r
  unfold nameB at hn
  generalize c.toNat = n at *
  have HN : Hid _ := hn
  clear hn
  go_enter Try.func18, Try.ntmps18
  go_wp2
  all_goals go_ret
  all_goals refine ⟨ret_bool ?_, rfl⟩
  all_goals rw [← HN.out, Bool.eq_iff_iff]
  all_goals simp only [Bool.or_eq_true, Bool.and_eq_true, decide_eq_true_eq, beq_iff_eq, true_iff]
  all_goals omega

theorem L_all (s : ByteArray) (f : UInt8 → Bool) (h : ∀ j (hj : j < s.size), f s[j] = true) : (L s).all f = true := by
  rw [List.all_eq_true]
  intro c hc
  obtain ⟨j, hj, rfl⟩ := List.mem_iff_getElem.1 hc
  rw [L_len] at hj
  exact h j hj
theorem L_not (s : ByteArray) (f : UInt8 → Bool) (k : Nat) (hk : k < s.size) (h : f s[k] = false) : (L s).all f = false := by
  rw [List.all_eq_false]
  exact ⟨s[k], List.getElem_mem (by rw [L_len]; exact hk), by rw [h]; decide⟩
theorem L_nil {s : ByteArray} (h : s.size = 0) : L s = [] := List.eq_nil_of_length_eq_zero (by rw [L_len]; exact h)
theorem L_ne {s : ByteArray} (h : 0 < s.size) : L s ≠ [] := fun e => by have := L_len s; rw [e] at this; simp at this; omega

def uucpB (c : UInt8) : Bool := nameB c && !(decide (c.toNat = 46))
/-- zzUUCPName. -/
def uuB (s : ByteArray) : Bool := !(L s).isEmpty && (L s).all uucpB
/-- zzDomainName. -/
def dnB (s : ByteArray) : Bool := !(L s).isEmpty && (L s).all nameB

theorem empty_eq (s : ByteArray) (h : s.size = 0) : s = ⟨#[]⟩ := by
  obtain ⟨⟨l⟩⟩ := s
  cases l with
  | nil => rfl
  | cons a l => simp [ByteArray.size] at h

set_option maxHeartbeats 1000000 in
theorem uucp_any (s : ByteArray) (w : World) (hs : s.size ≤ maxLen) : Calls Try.prog 13 #[.string s] w fun e w' => e = .returned (.bool (uuB s)) ∧ w' = w := by
  unfold maxLen at hs
  by_cases hz : s.size = 0
  · have e : uuB s = false := by unfold uuB; rw [L_nil hz]; rfl
    rw [e]
    obtain rfl := empty_eq s hz
    clear e hz hs
    go_enter Try.func13, Try.ntmps13
    go_wp2
    go_ret
    exact ⟨rfl, rfl⟩
  · have hne : s.toList.isEmpty = false := by
      rw [Lib.toList_data]
      cases h : s.data.toList with
      | nil => exact absurd (by rw [← L_len]; unfold L; rw [h]; rfl) hz
      | cons a l => rfl
    have HU : Hid (uuB s = (L s).all uucpB) := by
      show uuB s = _
      unfold uuB
      have := L_ne (s := s) (by omega)
      cases h : L s with
      | nil => exact absurd h this
      | cons a l => rfl
    go_enter Try.func13, Try.ntmps13
    go_wp2
    go_loop [3] (fun i => ∃ k : Nat, k ≤ s.size ∧ i = .int .i64 k ∧ ∀ j (hj : j < k) (hp : j < s.size), uucpB s[j] = true) (fun i => s.size - (intOf i).toNat)
    case atStart => exact ⟨0, Nat.zero_le _, rfl, fun j hj => by omega⟩
    case round =>
      obtain ⟨k, hk, rfl, hno⟩ := hrel
      have HN : Hid _ := hno
      clear hno
      by_cases hlt : k < s.size
      · have k18 := name_any s[k] w
        cases hc : nameB s[k] with
        | false =>
          rw [hc] at k18
          have K18 : Hid _ := k18
          clear k18
          have HC : Hid _ := hc
          clear hc
          go_wp2_with fail
          refine use K18.out ?_
          go_wp2
          go_ret
          exact ⟨ret_bool (by rw [HU.out, L_not s uucpB k hlt (by unfold uucpB; rw [HC.out]; rfl)]), rfl⟩
        | true =>
          rw [hc] at k18
          have K18 : Hid _ := k18
          clear k18
          have HC : Hid _ := hc
          clear hc
          cases hd : ((s[k].toNat : Int) == 46) with
          | true =>
            go_wp2_with fail
            refine use K18.out ?_
            go_wp2
            go_ret
            exact ⟨ret_bool (by rw [HU.out, L_not s uucpB k hlt (by unfold uucpB; rw [decide_eq_true (by have := beq_iff_eq.1 hd; omega)]; simp)]), rfl⟩
          | false =>
            go_wp2_with fail
            refine use K18.out ?_
            go_wp2
            go_round
            case rel =>
              refine ⟨k + 1, by omega, by go_num, fun j hj hp => ?_⟩
              by_cases hjk : j < k
              · exact HN.out j hjk hp
              · obtain rfl : j = k := by omega
                unfold uucpB
                rw [HC.out, decide_eq_false (by have := beq_eq_false_iff_ne.1 hd; omega)]
                rfl
            case measure => simp [intOf]; omega
      · go_wp2
        go_ret
        exact ⟨ret_bool (by rw [HU.out, L_all s uucpB (fun j hj => HN.out j (by omega) hj)]), rfl⟩

set_option maxHeartbeats 1000000 in
theorem domain_any (s : ByteArray) (w : World) (hs : s.size ≤ maxLen) : Calls Try.prog 16 #[.string s] w fun e w' => e = .returned (.bool (dnB s)) ∧ w' = w := by
  unfold maxLen at hs
  by_cases hz : s.size = 0
  · have e : dnB s = false := by unfold dnB; rw [L_nil hz]; rfl
    rw [e]
    obtain rfl := empty_eq s hz
    clear e hz hs
    go_enter Try.func16, Try.ntmps16
    go_wp2
    go_ret
    exact ⟨rfl, rfl⟩
  · have hne : s.toList.isEmpty = false := by
      rw [Lib.toList_data]
      cases h : s.data.toList with
      | nil => exact absurd (by rw [← L_len]; unfold L; rw [h]; rfl) hz
      | cons a l => rfl
    have HU : Hid (dnB s = (L s).all nameB) := by
      show dnB s = _
      unfold dnB
      have := L_ne (s := s) (by omega)
      cases h : L s with
      | nil => exact absurd h this
      | cons a l => rfl
    go_enter Try.func16, Try.ntmps16
    go_wp2
    go_loop [3] (fun i => ∃ k : Nat, k ≤ s.size ∧ i = .int .i64 k ∧ ∀ j (hj : j < k) (hp : j < s.size), nameB s[j] = true) (fun i => s.size - (intOf i).toNat)
    case atStart => exact ⟨0, Nat.zero_le _, rfl, fun j hj => by omega⟩
    case round =>
      obtain ⟨k, hk, rfl, hno⟩ := hrel
      have HN : Hid _ := hno
      clear hno
      by_cases hlt : k < s.size
      · have k18 := name_any s[k] w
        cases hc : nameB s[k] with
        | false =>
          rw [hc] at k18
          have K18 : Hid _ := k18
          clear k18
          have HC : Hid _ := hc
          clear hc
          go_wp2_with fail
          refine use K18.out ?_
          go_wp2
          go_ret
          exact ⟨ret_bool (by rw [HU.out, L_not s nameB k hlt HC.out]), rfl⟩
        | true =>
          rw [hc] at k18
          have K18 : Hid _ := k18
          clear k18
          have HC : Hid _ := hc
          clear hc
          go_wp2_with fail
          refine use K18.out ?_
          go_wp2
          go_round
          case rel =>
            refine ⟨k + 1, by omega, by go_num, fun j hj hp => ?_⟩
            by_cases hjk : j < k
            · exact HN.out j hjk hp
            · obtain rfl : j = k := by omega
              exact HC.out
          case measure => simp [intOf]; omega
      · go_wp2
        go_ret
        exact ⟨ret_bool (by rw [HU.out, L_all s nameB (fun j hj => HN.out j (by omega) hj)]), rfl⟩
end Go.Proofs.Qxb6003626a.LocA
