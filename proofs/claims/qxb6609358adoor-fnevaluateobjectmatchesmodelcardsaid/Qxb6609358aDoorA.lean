import Derived.Test.Qxb6609358aDoorRows
import Derived.Test.Qxb6609358aDoorP
import Derived.Test.Qxb6609358aDoorShelf
import Derived.WalkKit
import Derived.ProofKit
import Derived.OpenShut
import Derived.ShutString
import Derived.ChangeOld
import Derived.Below
import Derived.WalkSpells
import Derived.Lib.SliceRun
namespace Go.Proofs.Qxb6609358aDoor.A
open Go.ChangeShapes Go.WideShapes Go.ChangeAt Go.RowKit P
set_option linter.unusedVariables false

theorem use {P : Program} {f : FuncId} {args : Array Value} {w : World} {v : Value} {Q : Ending → World → Prop} (h : Calls P f args w fun e w' => e = .returned v ∧ w' = w) (hQ : Q (.returned v) w) : Calls P f args w Q :=
  h.mono (by rintro e w' ⟨rfl, rfl⟩; exact hQ)
theorem hid {p : Prop} (h : p) : Hid p := h
theorem ret_int {k : IntKind} {a b : Int} (h : a = b) : Ending.returned (.int k a) = .returned (.int k b) := by rw [h]
theorem ret_bool {a b : Bool} (h : a = b) : Ending.returned (.bool a) = .returned (.bool b) := by rw [h]
theorem ret_str {a b : ByteArray} (h : a = b) : Ending.returned (.string a) = .returned (.string b) := by rw [h]

/-- The bytes of a string. -/
def L (s : ByteArray) : List UInt8 := s.data.toList
theorem L_len (s : ByteArray) : (L s).length = s.size := by simp [L]
theorem L_get (s : ByteArray) (k : Nat) (h : k < s.size) : (L s)[k]'(by rw [L_len]; exact h) = s[k] := rfl
theorem L_drop (s : ByteArray) (k : Nat) (h : k < s.size) : (L s).drop k = s[k] :: (L s).drop (k + 1) := by
  rw [List.drop_eq_getElem_cons (by rw [L_len]; exact h), L_get s k h]
theorem L_end (s : ByteArray) (k : Nat) (h : ¬ k < s.size) : (L s).drop k = [] := List.drop_eq_nil_of_le (by rw [L_len]; omega)
def mkB (l : List UInt8) : ByteArray := ⟨l.toArray⟩
theorem mk_L (s : ByteArray) : mkB (L s) = s := Lib.mk_data s
theorem L_mk (l : List UInt8) : L (mkB l) = l := rfl
theorem mk_size (l : List UInt8) : (mkB l).size = l.length := by simp [mkB, ByteArray.size]
theorem mk_get (l : List UInt8) (k : Nat) (h : k < (mkB l).size) : (mkB l)[k] = l[k]'(by rw [mk_size] at h; exact h) := rfl

theorem yes (n : Nat) (hn : n < 256) {c : UInt8} (h : ((c.toNat : Int) == (n : Int)) = true) : c = UInt8.ofNat n := by
  have := beq_iff_eq.1 h
  apply UInt8.toNat.inj
  simp
  omega
theorem no (n : Nat) (hn : n < 256) {c : UInt8} (h : ((c.toNat : Int) == (n : Int)) = false) : c ≠ UInt8.ofNat n := by
  rintro rfl
  have := beq_eq_false_iff_ne.1 h
  simp at this
  omega
theorem y126 {c : UInt8} (h : ((c.toNat : Int) == 126) = true) : c = 126 := yes 126 (by omega) h
theorem n126 {c : UInt8} (h : ((c.toNat : Int) == 126) = false) : c ≠ 126 := no 126 (by omega) h
theorem y47 {c : UInt8} (h : ((c.toNat : Int) == 47) = true) : c = 47 := yes 47 (by omega) h
theorem n47 {c : UInt8} (h : ((c.toNat : Int) == 47) = false) : c ≠ 47 := no 47 (by omega) h
theorem y48 {c : UInt8} (h : ((c.toNat : Int) == 48) = true) : c = 48 := yes 48 (by omega) h
theorem n48 {c : UInt8} (h : ((c.toNat : Int) == 48) = false) : c ≠ 48 := no 48 (by omega) h
theorem y49 {c : UInt8} (h : ((c.toNat : Int) == 49) = true) : c = 49 := yes 49 (by omega) h
theorem n49 {c : UInt8} (h : ((c.toNat : Int) == 49) = false) : c ≠ 49 := no 49 (by omega) h

set_option maxHeartbeats 2000000 in
/-- badTilde: negative just where the text is well formed. -/
theorem bad_any (s : ByteArray) (w : World) (hs : s.size ≤ 4194304) :
    Calls Tryd.prog 27 #[.string s] w fun e w' => (∃ j : Int, e = .returned (.int .i64 j) ∧ -1 ≤ j ∧ j ≤ 4194304 ∧ (j < 0 ↔ wf false (L s) = true)) ∧ w' = w := by
  go_enter Tryd.func27, Tryd.ntmps27
  go_wp2
  go_loop [3] (fun i => ∃ k : Nat, k ≤ s.size ∧ i = .int .i64 k ∧ wf false ((L s).drop k) = wf false (L s)) (fun i => s.size - (intOf i).toNat)
  case atStart => exact ⟨0, Nat.zero_le _, rfl, rfl⟩
  case round =>
    obtain ⟨k, hk, rfl, hw⟩ := hrel
    have HW : Hid _ := hw
    clear hw
    by_cases hlt : k < s.size
    · cases h126 : ((s[k].toNat : Int) == 126) with
      | false =>
        have HF : Hid (wf false ((L s).drop (k + 1)) = wf false (L s)) := hid (by rw [← HW.out, L_drop s k hlt, wf, if_neg (n126 h126)])
        clear HW
        go_wp2
        go_round
        case rel => exact ⟨k + 1, hlt, by go_num, HF.out⟩
        case measure => simp [intOf]; omega
      | true =>
        by_cases hlt2 : k + 1 < s.size
        · cases h48 : ((s[k + 1].toNat : Int) == 48) with
          | true =>
            have HF : Hid (wf false ((L s).drop (k + 2)) = wf false (L s)) := hid (by rw [← HW.out, L_drop s k hlt, y126 h126, wf, L_drop s (k + 1) hlt2, y48 h48]; simp [wf])
            clear HW
            go_wp2
            go_round
            case rel => exact ⟨k + 2, by omega, by go_num, HF.out⟩
            case measure => simp [intOf]; omega
          | false =>
            cases h49 : ((s[k + 1].toNat : Int) == 49) with
            | true =>
              have HF : Hid (wf false ((L s).drop (k + 2)) = wf false (L s)) := hid (by rw [← HW.out, L_drop s k hlt, y126 h126, wf, L_drop s (k + 1) hlt2, y49 h49]; simp [wf])
              clear HW
              go_wp2
              go_round
              case rel => exact ⟨k + 2, by omega, by go_num, HF.out⟩
              case measure => simp [intOf]; omega
            | false =>
              have HF : Hid (wf false (L s) = false) := hid (by rw [← HW.out, L_drop s k hlt, y126 h126, wf, L_drop s (k + 1) hlt2]; simp [wf, n48 h48, n49 h49])
              clear HW
              go_wp2
              go_ret
              exact ⟨⟨k, rfl, by omega, by omega, by rw [HF.out]; simp⟩, rfl⟩
        · have HF : Hid (wf false (L s) = false) := hid (by rw [← HW.out, L_drop s k hlt, y126 h126, wf, L_end s (k + 1) hlt2]; simp [wf])
          clear HW
          go_wp2
          go_ret
          exact ⟨⟨k, rfl, by omega, by omega, by rw [HF.out]; simp⟩, rfl⟩
    · go_wp2
      go_ret
      refine ⟨⟨-1, rfl, by omega, by omega, ?_⟩, rfl⟩
      rw [← HW.out, L_end s k hlt]
      simp [wf]

/-- wellFormedPointer. -/
def wfp (l : List UInt8) : Bool := match l with
  | [] => true
  | c :: t => if c = 47 then wf false (c :: t) else false

set_option maxHeartbeats 1000000 in
theorem wfp_any (s : ByteArray) (w : World) (hs : s.size ≤ 4194304) :
    Calls Tryd.prog 16 #[.string s] w fun e w' => e = .returned (.bool (wfp (L s))) ∧ w' = w := by
  by_cases hz : s.size = 0
  · have e : wfp (L s) = true := by rw [List.eq_nil_of_length_eq_zero (l := L s) (by rw [L_len]; exact hz)]; rfl
    rw [e]
    have h0 : ((s.size : Int) == 0) = true := beq_iff_eq.2 (by omega)
    clear e
    go_enter Tryd.func16, Tryd.ntmps16
    go_wp2
    go_ret
    exact ⟨rfl, rfl⟩
  · have hp : 0 < s.size := by omega
    have h0 : ((s.size : Int) == 0) = false := beq_eq_false_iff_ne.2 (by omega)
    have hL := L_drop s 0 hp
    rw [List.drop_zero] at hL
    cases h47 : ((s[0].toNat : Int) == 47) with
    | false =>
      have e : wfp (L s) = false := by rw [hL]; simp [wfp, n47 h47]
      rw [e]
      clear e hL
      go_enter Tryd.func16, Tryd.ntmps16
      go_wp2
      go_ret
      exact ⟨rfl, rfl⟩
    | true =>
      have e : wfp (L s) = wf false (L s) := by rw [hL]; simp [wfp, y47 h47]
      have k27 := bad_any s w hs
      rw [e]
      have K27 : Hid _ := k27
      clear k27 e hL
      go_enter Tryd.func16, Tryd.ntmps16
      go_wp2_with fail
      refine (Calls.mono K27.out) ?_
      rintro e w1 ⟨⟨j, rfl, h1, h2, hj⟩, hw1⟩
      have hw1' := hw1.symm
      subst hw1'
      have HJ : Hid _ := hj
      clear hj K27 hw1
      by_cases hjn : j < 0
      · have hd : decide (j < 0) = true := decide_eq_true hjn
        go_wp2
        go_ret
        exact ⟨ret_bool (HJ.out.1 hjn).symm, rfl⟩
      · have hd : decide (j < 0) = false := decide_eq_false hjn
        go_wp2
        go_ret
        refine ⟨ret_bool ?_, rfl⟩
        cases hh : wf false (L s) with
        | false => rfl
        | true => exact absurd (HJ.out.2 hh) (by omega)

/-- The pointer's own copy: a text and ends. -/
def boxP (t : ByteArray) (v : Value) : Obj := .cells #[.string t, v] 31

set_option maxHeartbeats 2000000 in
/-- tokenEnd without ends: the token t stands from start on, up to the next slash or the text's end. -/
theorem end_nil (t : ByteArray) (i : Int) (start : Nat) (q r : List UInt8) (w : World) (ht : t.size ≤ 4194304) (hst : start ≤ t.size) (hq : (L t).drop start = q ++ r) (hn : ∀ c ∈ q, c ≠ 47) (hr : r = [] ∨ ∃ r', r = 47 :: r') :
    Calls Tryd.prog 59 #[.agg #[.string t, .slice none 0 0], .int .i64 i, .int .i64 start] w fun e w' => e = .returned (.int .i64 (start + q.length : Nat)) ∧ w' = w.alloc (boxP t (.slice none 0 0)) := by
  have q27 : ∀ (w : World) (a : Option Addr) (n c n' c' : Nat), (binOp .neq 27 (.slice a n c) (.slice none n' c')).run Tryd.prog w = .ok (.bool (!a.isNone)) w := fun w a n c n' c' => run_neq_slice_nil_any w _ _ a n c n' c' Tryd.underlying27
  unfold boxP
  have hlen : start + q.length ≤ t.size := by
    have := congrArg List.length hq
    simp [L_len] at this
    omega
  have hat : ∀ k, k ≤ q.length → (L t).drop (start + k) = q.drop k ++ r := by
    intro k hk
    rw [← List.drop_drop, hq, List.drop_append_of_le_length hk]
  have HA : Hid _ := hat
  have HN : Hid (∀ c ∈ q, c ≠ 47) := hn
  have HR : Hid _ := hr
  clear hat hq hn hr
  go_enter Tryd.func59, Tryd.ntmps59
  go_wp2
  go_loop [7] (fun j => ∃ k : Nat, k ≤ q.length ∧ j = .int .i64 (start + k : Nat)) (fun j => t.size - (intOf j).toNat)
  case atStart => exact ⟨0, Nat.zero_le _, by go_num⟩
  case round =>
    obtain ⟨k, hk, rfl⟩ := hrel
    by_cases hkq : k < q.length
    · have hj : start + k < t.size := by omega
      have h47 : ((t[start + k].toNat : Int) != 47) = true := by
        have h1 := HA.out k hk
        rw [L_drop t (start + k) hj, List.drop_eq_getElem_cons hkq] at h1
        have h2 := (List.cons.inj h1).1
        have h3 := HN.out q[k] (List.getElem_mem hkq)
        rw [bne_iff_ne]
        intro h
        exact h3 (by rw [← h2]; exact y47 (beq_iff_eq.2 h))
      go_wp2
      go_round
      case rel => exact ⟨k + 1, by omega, by go_num⟩
      case measure => simp [intOf]; omega
    · obtain rfl : k = q.length := by omega
      have h1 := HA.out q.length hk
      rw [List.drop_length, List.nil_append] at h1
      by_cases hj : start + q.length < t.size
      · have h47 : ((t[start + q.length].toNat : Int) != 47) = false := by
          rw [L_drop t _ hj] at h1
          rcases HR.out with hr | ⟨r', hr⟩
          · rw [hr] at h1; cases h1
          · rw [hr] at h1
            have h2 := (List.cons.inj h1).1
            rw [h2]; rfl
        clear h1 HA HN HR
        go_wp2
        go_ret
        exact ⟨ret_int (by simp), rfl⟩
      · clear h1 HA HN HR
        have hjd : decide (((start + q.length : Nat) : Int) < (t.size : Int)) = false := decide_eq_false (by omega)
        go_wp2
        go_ret
        exact ⟨ret_int (by simp), rfl⟩
end Go.Proofs.Qxb6609358aDoor.A
