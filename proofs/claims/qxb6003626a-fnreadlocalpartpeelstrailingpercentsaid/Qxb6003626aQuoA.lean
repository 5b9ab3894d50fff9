import Derived.Test.Qxb6003626aRows
import Derived.Test.Qxb6003626aQuoP
import Derived.WalkKit
import Derived.ProofKit
import Derived.OpenShut
import Derived.ShutString
import Derived.ChangeOld
import Derived.Below
namespace Go.Proofs.Qxb6003626a.QuoA
open Go.ChangeShapes Go.WideShapes Go.ChangeAt Go.RowKit QuoP
set_option linter.unusedVariables false

theorem use {P : Program} {f : FuncId} {args : Array Value} {w : World} {v : Value} {Q : Ending → World → Prop} (h : Calls P f args w fun e w' => e = .returned v ∧ w' = w) (hQ : Q (.returned v) w) : Calls P f args w Q :=
  h.mono (by rintro e w' ⟨rfl, rfl⟩; exact hQ)
theorem ret_int {k : IntKind} {a b : Int} (h : a = b) : Ending.returned (.int k a) = .returned (.int k b) := by rw [h]
theorem ret_bool {a b : Bool} (h : a = b) : Ending.returned (.bool a) = .returned (.bool b) := by rw [h]
theorem ret_str {a b : ByteArray} (h : a = b) : Ending.returned (.string a) = .returned (.string b) := by rw [h]

/-- The bytes of a string. -/
def L (s : ByteArray) : List UInt8 := s.data.toList
theorem L_len (s : ByteArray) : (L s).length = s.size := by simp [L]
theorem L_get (s : ByteArray) (k : Nat) (h : k < s.size) : (L s)[k]'(by rw [L_len]; exact h) = s[k] := rfl
theorem L_drop (s : ByteArray) (k : Nat) (h : k < s.size) : (L s).drop k = s[k] :: (L s).drop (k + 1) := by
  rw [List.drop_eq_getElem_cons (by rw [L_len]; exact h), L_get s k h]
theorem L_end (s : ByteArray) (k : Nat) (h : ¬ k < s.size) : (L s).drop k = [] := List.drop_eq_nil_of_le (by rw [L_len]; omega)
theorem yes34 {c : UInt8} (h : ((c.toNat : Int) == 34) = true) : c = 34 := by
  have := beq_iff_eq.1 h
  apply UInt8.toNat.inj
  show c.toNat = 34
  omega
theorem no34 {c : UInt8} (h : ((c.toNat : Int) == 34) = false) : c ≠ 34 := by
  rintro rfl
  exact absurd h (by decide)
theorem yes92 {c : UInt8} (h : ((c.toNat : Int) == 92) = true) : c = 92 := by
  have := beq_iff_eq.1 h
  apply UInt8.toNat.inj
  show c.toNat = 92
  omega
theorem no92 {c : UInt8} (h : ((c.toNat : Int) == 92) = false) : c ≠ 92 := by
  rintro rfl
  exact absurd h (by decide)

set_option maxHeartbeats 400000 in
theorem zzBytes1 (s : ByteArray) (w : World) (hs : s.size ≤ maxLen) : Calls Try.prog 7 #[.string s] w fun e w' => e = .returned (.bool (decide (s.size ≤ 1048576))) ∧ w' = w := by
  unfold maxLen at hs
  by_cases h : s.size ≤ 1048576
  · rw [decide_eq_true h]
    go_enter Try.func7, Try.ntmps7
    go_wp2
    go_ret
    exact ⟨rfl, rfl⟩
  · rw [decide_eq_false h]
    go_enter Try.func7, Try.ntmps7
    go_wp2
    go_ret
    exact ⟨rfl, rfl⟩

/-- Is every quoted string closed? -/
def closedB (s : ByteArray) : Bool := endSt 0 (L s) == 0

set_option maxHeartbeats 1000000 in
theorem closed_any (s : ByteArray) (w : World) (hs : s.size ≤ maxLen) : Calls Try.prog 8 #[.string s] w fun e w' => e = .returned (.bool (closedB s)) ∧ w' = w := by
  unfold maxLen at hs
  go_enter Try.func8, Try.ntmps8
  go_wp2
  go_loop [3, 4] (fun t i => ∃ k st : Nat, k ≤ s.size ∧ i = .int .i64 k ∧ t = .int .i64 st ∧ st ≤ 2 ∧ endSt st ((L s).drop k) = endSt 0 (L s)) (fun _ i => s.size - (intOf i).toNat)
  case atStart => exact ⟨0, 0, Nat.zero_le _, rfl, rfl, by omega, rfl⟩
  case round =>
    obtain ⟨k, st, hk, rfl, rfl, hst, he⟩ := hrel
    have HE : Hid (endSt st ((L s).drop k) = endSt 0 (L s)) := he
    clear he
    by_cases hlt : k < s.size
    · have HD : Hid ((L s).drop k = s[k] :: (L s).drop (k + 1)) := L_drop s k hlt
      have fin : ∀ st' : Nat, stp st s[k] = st' → endSt st' ((L s).drop (k + 1)) = endSt 0 (L s) := by
        intro st' h
        rw [← HE.out, HD.out, endSt, h]
      have FIN : Hid _ := fin
      clear fin
      rcases (show st = 0 ∨ st = 1 ∨ st = 2 by omega) with rfl | rfl | rfl
      · go_wp2
        · go_round
          case rel => exact ⟨k + 1, 1, by omega, by go_num, rfl, by omega, FIN.out 1 (by simp [stp, yes34 ‹_›])⟩
          case measure => simp [intOf]; omega
        · go_round
          case rel => exact ⟨k + 1, 0, by omega, by go_num, rfl, by omega, FIN.out 0 (by simp [stp, no34 ‹_›])⟩
          case measure => simp [intOf]; omega
      · go_wp2
        · go_round
          case rel => exact ⟨k + 1, 2, by omega, by go_num, rfl, by omega, FIN.out 2 (by simp [stp, yes92 ‹_›])⟩
          case measure => simp [intOf]; omega
        · go_round
          case rel => exact ⟨k + 1, 0, by omega, by go_num, rfl, by omega, FIN.out 0 (by simp [stp, yes34 ‹_›])⟩
          case measure => simp [intOf]; omega
        · go_round
          case rel => exact ⟨k + 1, 1, by omega, by go_num, rfl, by omega, FIN.out 1 (by simp [stp, no34 ‹_›, no92 ‹_›])⟩
          case measure => simp [intOf]; omega
      · go_wp2
        go_round
        case rel => exact ⟨k + 1, 1, by omega, by go_num, rfl, by omega, FIN.out 1 (by simp [stp])⟩
        case measure => simp [intOf]; omega
    · go_wp2
      go_ret
      refine ⟨ret_bool ?_, rfl⟩
      have h := HE.out
      rw [L_end s k hlt] at h
      unfold closedB
      rw [← h, endSt]
      by_cases h0 : st = 0
      · subst h0; rfl
      · rw [beq_eq_false_iff_ne.2 h0, beq_eq_false_iff_ne.2 (by omega)]

theorem drop_split {q : List UInt8} {k : Nat} {c : UInt8} {l : List UInt8} (h : q.drop k = c :: l) : k + 1 ≤ q.length ∧ q.drop (k + 1) = l := by
  have h1 : k < q.length := by
    rcases Nat.lt_or_ge k q.length with h' | h'
    · exact h'
    · rw [List.drop_eq_nil_of_le h'] at h; cases h
  rw [List.drop_eq_getElem_cons h1] at h
  exact ⟨h1, (List.cons.inj h).2⟩

theorem step92 {q r t : List UInt8} {k : Nat} {c : UInt8} (hb : body false (q.drop k) = true) (h : q.drop k ++ 34 :: r = c :: t) (hc : c = 92) : k + 2 ≤ q.length ∧ body false (q.drop (k + 2)) = true := by
  subst hc
  cases hl : q.drop k with
  | nil => rw [hl] at h; simp at h
  | cons d l =>
    rw [hl] at h hb
    obtain rfl : d = 92 := (List.cons.inj h).1
    obtain ⟨e, l', rfl, h2, _⟩ := body_pair l hb
    obtain ⟨_, h4⟩ := drop_split hl
    obtain ⟨h5, h6⟩ := drop_split h4
    exact ⟨h5, by rw [h6]; exact h2⟩

theorem step34 {q r t : List UInt8} {k : Nat} {c : UInt8} (hk : k ≤ q.length) (hb : body false (q.drop k) = true) (h : q.drop k ++ 34 :: r = c :: t) (hc : c = 34) : k = q.length := by
  subst hc
  cases hl : q.drop k with
  | nil => have := List.drop_eq_nil_iff.1 hl; omega
  | cons d l =>
    rw [hl] at h hb
    obtain rfl : d = 34 := (List.cons.inj h).1
    exact absurd rfl (body_step 34 l hb (by decide)).1

theorem stepElse {q r t : List UInt8} {k : Nat} {c : UInt8} (hb : body false (q.drop k) = true) (h : q.drop k ++ 34 :: r = c :: t) (h1 : c ≠ 92) (h2 : c ≠ 34) : k + 1 ≤ q.length ∧ body false (q.drop (k + 1)) = true := by
  cases hl : q.drop k with
  | nil => rw [hl] at h; exact absurd (List.cons.inj h).1.symm h2
  | cons d l =>
    rw [hl] at h hb
    obtain rfl : d = c := (List.cons.inj h).1
    obtain ⟨h3, h4⟩ := drop_split hl
    exact ⟨h3, by rw [h4]; exact (body_step d l hb h1).2.1⟩

set_option maxHeartbeats 1000000 in
/-- closing(s, i, '"') where the content q of the string that opens at i is followed by its closing quote. -/
theorem closing_any (s : ByteArray) (i : Nat) (q r : List UInt8) (w : World) (hs : s.size ≤ 4194304) (hq : (L s).drop (i + 1) = q ++ 34 :: r) (hb : body false q = true) :
    Calls Try.prog 21 #[.string s, .int .i64 i, .int .u8 34] w fun e w' => e = .returned (.int .i64 (i + 1 + q.length : Nat)) ∧ w' = w := by
  have hlen : i + 1 + q.length < s.size := by
    have := congrArg List.length hq
    simp [L_len] at this
    omega
  have hat : ∀ k, k ≤ q.length → (L s).drop (i + 1 + k) = q.drop k ++ 34 :: r := by
    intro k hk
    rw [← List.drop_drop, hq, List.drop_append_of_le_length hk]
  have HA : Hid _ := hat
  clear hat hq
  go_enter Try.func21, Try.ntmps21
  go_wp2
  go_loop [7] (fun j => ∃ k : Nat, k ≤ q.length ∧ j = .int .i64 (i + 1 + k : Nat) ∧ body false (q.drop k) = true) (fun j => s.size - (intOf j).toNat)
  case atStart => exact ⟨0, Nat.zero_le _, by go_num, hb⟩
  case round =>
    obtain ⟨k, hk, rfl, hbk⟩ := hrel
    have HB : Hid _ := hbk
    clear hbk hb
    have HD : Hid _ := L_drop s (i + 1 + k) (by omega)
    have hj : i + 1 + k < s.size := by omega
    have HH : Hid (q.drop k ++ 34 :: r = s[i + 1 + k] :: (L s).drop (i + 1 + k + 1)) := by rw [← HA.out k hk]; exact HD.out
    clear HA HD
    go_wp2
    · obtain ⟨h1, h2⟩ := step92 HB.out HH.out (yes92 ‹_›)
      go_round
      case rel => exact ⟨k + 2, h1, by go_num, h2⟩
      case measure => simp [intOf]; omega
    · have h1 := step34 hk HB.out HH.out (yes34 ‹_›)
      go_ret
      exact ⟨ret_int (by rw [← h1]; push_cast; rfl), rfl⟩
    · obtain ⟨h1, h2⟩ := stepElse HB.out HH.out (no92 ‹_›) (no34 ‹_›)
      go_round
      case rel => exact ⟨k + 1, h1, by go_num, h2⟩
      case measure => simp [intOf]; omega
end Go.Proofs.Qxb6003626a.QuoA
