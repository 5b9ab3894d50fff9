import Derived.Test.Qxb6609358aDoorF
namespace Go.Proofs.Qxb6609358aDoor.A
open Go.ChangeShapes Go.WideShapes Go.ChangeAt Go.RowKit P
set_option linter.unusedVariables false

/-! ### Array indexes -/
def dig (c : UInt8) : Bool := decide (48 ≤ c.toNat ∧ c.toNat ≤ 57)
def val (l : List UInt8) : Nat := l.foldl (fun n c => n * 10 + (c.toNat - 48)) 0
theorem val_snoc (l : List UInt8) (c : UInt8) : val (l ++ [c]) = val l * 10 + (c.toNat - 48) := by simp [val]
def isIdx : List UInt8 → Bool
  | [] => false
  | c :: t => dig c && (t.all dig && (c != 48 || t.isEmpty))
def mx : Nat := 9223372036854775807
def sat (n : Nat) : Nat := if n ≤ mx then n else mx
/-- What leadingNumber answers. -/
def Lead (l : List UInt8) (n width : Nat) : Prop := (isIdx l = false ∧ (width = 0 ∨ width < l.length)) ∨ (isIdx l = true ∧ width = l.length ∧ n = sat (val l) ∧ 0 < width)
theorem sat_step_le {v d : Nat} (hd : d ≤ 9) (h : ¬ (mx - d) / 10 < sat v) : sat v * 10 + d = sat (v * 10 + d) := by
  unfold sat mx at *
  split at h <;> split <;> split <;> omega
theorem sat_step_gt {v d : Nat} (hd : d ≤ 9) (h : (mx - d) / 10 < sat v) : sat (v * 10 + d) = mx := by
  unfold sat mx at *
  split at h <;> split <;> omega

theorem L_take (s : ByteArray) (k : Nat) (h : k < s.size) : (L s).take (k + 1) = (L s).take k ++ [s[k]] := by
  rw [List.take_succ_eq_append_getElem (by rw [L_len]; exact h), L_get s k h]

set_option maxHeartbeats 4000000 in
theorem lead_any (s : ByteArray) (w : World) (hs : s.size ≤ 4194304) :
    Calls Tryd.prog 77 #[.string s] w fun e w' => (∃ n width : Nat, e = .returned (.tuple #[.int .i64 (n : Int), .int .i64 (width : Int)]) ∧ Lead (L s) n width ∧ n ≤ mx ∧ width ≤ s.size) ∧ w' = w := by
  by_cases hz : s.size = 0
  · have hse : s.toList.isEmpty = true := by
      rw [Lib.toList_data, show s.data.toList = L s from rfl, List.eq_nil_of_length_eq_zero (l := L s) (by rw [L_len]; exact hz)]; rfl
    have HF : Hid (Lead (L s) 0 0) := hid (by rw [List.eq_nil_of_length_eq_zero (l := L s) (by rw [L_len]; exact hz)]; exact .inl ⟨rfl, .inl rfl⟩)
    go_enter Tryd.func77, Tryd.ntmps77
    go_wp2
    refine bodyPost_ret (v := .tuple #[.int .i64 0, .int .i64 0]) (by simp [results, Tryd.results77, go_sem]) rfl ?_
    exact ⟨⟨0, 0, rfl, HF.out, Nat.zero_le _, Nat.zero_le _⟩, rfl⟩
  · have hp : 0 < s.size := by omega
    have hse : s.toList.isEmpty = false := by
      rw [Lib.toList_data]
      cases hl : s.data.toList with
      | nil => have := L_len s; rw [L, hl] at this; simp at this; omega
      | cons _ _ => rfl
    have hL := L_drop s 0 hp
    rw [List.drop_zero] at hL
    have HL : Hid _ := hL
    clear hL
    cases hlo : decide ((s[0].toNat : Int) < 48) with
    | true =>
      have HF : Hid (Lead (L s) 0 0) := hid (.inl ⟨by
        have := of_decide_eq_true hlo
        rw [HL.out]; simp [isIdx, dig]; omega, .inl rfl⟩)
      clear HL
      go_enter Tryd.func77, Tryd.ntmps77
      go_wp2
      refine bodyPost_ret (v := .tuple #[.int .i64 0, .int .i64 0]) (by simp [results, Tryd.results77, go_sem]) rfl ?_
      exact ⟨⟨0, 0, rfl, HF.out, Nat.zero_le _, Nat.zero_le _⟩, rfl⟩
    | false =>
      cases hhi : decide ((57 : Int) < (s[0].toNat : Int)) with
      | true =>
        have HF : Hid (Lead (L s) 0 0) := hid (.inl ⟨by
          have := of_decide_eq_true hhi
          rw [HL.out]; simp [isIdx, dig]; omega, .inl rfl⟩)
        clear HL
        go_enter Tryd.func77, Tryd.ntmps77
        go_wp2
        refine bodyPost_ret (v := .tuple #[.int .i64 0, .int .i64 0]) (by simp [results, Tryd.results77, go_sem]) rfl ?_
        exact ⟨⟨0, 0, rfl, HF.out, Nat.zero_le _, Nat.zero_le _⟩, rfl⟩
      | false =>
        have hlo' := of_decide_eq_false hlo
        have hhi' := of_decide_eq_false hhi
        cases h48 : ((s[0].toNat : Int) == 48) with
        | true =>
          have HF : Hid (Lead (L s) 0 1) := hid (by
            have h0 := y48 h48
            rw [HL.out, h0]
            by_cases h1 : s.size = 1
            · rw [L_end s (0 + 1) (by omega)]
              exact .inr ⟨rfl, rfl, rfl, Nat.one_pos⟩
            · refine .inl ⟨?_, .inr ?_⟩
              · rw [L_drop s (0 + 1) (by omega)]; simp [isIdx]
              · simp [L_len]; omega)
          clear HL
          go_enter Tryd.func77, Tryd.ntmps77
          go_wp2
          refine bodyPost_ret (v := .tuple #[.int .i64 0, .int .i64 1]) (by simp [results, Tryd.results77, go_sem]) rfl ?_
          exact ⟨⟨0, 1, rfl, HF.out, Nat.zero_le _, hp⟩, rfl⟩
        | false =>
          have hne := n48 h48
          have HD : Hid (dig s[0] = true) := hid (by simp [dig]; omega)
          have HN : Hid (s[0] ≠ 48) := hne
          clear hne
          go_enter Tryd.func77, Tryd.ntmps77
          go_wp2
          go_loop [2, 3] (fun n k => ∃ j : Nat, j ≤ s.size ∧ k = .int .i64 j ∧ n = .int .i64 (sat (val ((L s).take j)) : Nat) ∧ ((L s).take j).all dig = true) (fun _ k => s.size - (intOf k).toNat)
          case atStart => exact ⟨0, Nat.zero_le _, rfl, rfl, rfl⟩
          case round =>
            obtain ⟨j, hj, rfl, rfl, hall⟩ := hrel
            have HA : Hid _ := hall
            clear hall
            obtain ⟨v, hv⟩ : ∃ v, val ((L s).take j) = v := ⟨_, rfl⟩
            rw [hv]
            have HV : Hid _ := hv
            clear hv
            have hsm : sat v ≤ 9223372036854775807 := by unfold sat mx; split <;> omega
            by_cases hlt : j < s.size
            · have hbad : dig s[j] = false → Lead (L s) (sat v) j := fun hd => .inl ⟨by
                have hm : s[j] ∈ L s := by rw [← L_get s j hlt]; exact List.getElem_mem _
                have hn : (L s).all dig = false := by
                  cases hh : (L s).all dig with
                  | false => rfl
                  | true => rw [List.all_eq_true.1 hh _ hm] at hd; cases hd
                rw [HL.out] at hn ⊢
                rw [isIdx]
                rw [List.all_cons] at hn
                cases hd0 : dig s[0] with
                | false => rfl
                | true =>
                  rw [hd0, Bool.true_and] at hn
                  rw [hn]
                  rfl, .inr (by rw [L_len]; exact hlt)⟩
              have HB : Hid _ := hbad
              clear hbad
              cases h1 : decide ((48 : Int) ≤ (s[j].toNat : Int)) with
              | false =>
                have hd : Hid (dig s[j] = false) := hid (by have := of_decide_eq_false h1; simp [dig]; omega)
                go_wp2
                refine bodyPost_ret (v := .tuple #[.int .i64 (sat v : Nat), .int .i64 (j : Nat)]) (by simp [results, Tryd.results77, go_sem]) rfl ?_
                exact ⟨⟨_, _, rfl, HB.out hd.out, hsm, hj⟩, rfl⟩
              | true =>
                cases h2 : decide ((s[j].toNat : Int) ≤ 57) with
                | false =>
                  have hd : Hid (dig s[j] = false) := hid (by have := of_decide_eq_false h2; simp [dig]; omega)
                  go_wp2
                  refine bodyPost_ret (v := .tuple #[.int .i64 (sat v : Nat), .int .i64 (j : Nat)]) (by simp [results, Tryd.results77, go_sem]) rfl ?_
                  exact ⟨⟨_, _, rfl, HB.out hd.out, hsm, hj⟩, rfl⟩
                | true =>
                  have h1' := of_decide_eq_true h1
                  have h2' := of_decide_eq_true h2
                  have HA2 : Hid (((L s).take (j + 1)).all dig = true) := hid (by rw [L_take s j hlt, List.all_append, HA.out]; simp [dig]; omega)
                  have HV2 : Hid (val ((L s).take (j + 1)) = v * 10 + (s[j].toNat - 48)) := hid (by rw [L_take s j hlt, val_snoc, HV.out])
                  have hd9 : s[j].toNat - 48 ≤ 9 := by omega
                  clear HB
                  go_wp2
                  · rename_i hq
                    have hq' : (mx - (s[j].toNat - 48)) / 10 < sat v := by unfold mx; omega
                    go_round
                    case rel => exact ⟨j + 1, hlt, by go_num, by rw [HV2.out, sat_step_gt hd9 hq']; rfl, HA2.out⟩
                    case measure => simp [intOf]; omega
                  · rename_i hq
                    have hq' : ¬ (mx - (s[j].toNat - 48)) / 10 < sat v := by unfold mx; omega
                    have hst := sat_step_le hd9 hq'
                    have hstm : sat v * 10 + (s[j].toNat - 48) ≤ 9223372036854775807 := by rw [hst]; unfold sat mx; split <;> omega
                    go_round
                    case rel => exact ⟨j + 1, hlt, by go_num, by rw [HV2.out, ← hst]; go_num, HA2.out⟩
                    case measure => simp [intOf]; omega
            · have hj2 : j = s.size := by omega
              have HF : Hid (Lead (L s) (sat v) j) := hid (by
                have hta : (L s).take j = L s := by rw [List.take_of_length_le]; rw [L_len]; omega
                have hal := HA.out
                have hvl := HV.out
                rw [hta] at hal hvl
                refine .inr ⟨?_, by rw [L_len]; exact hj2, by rw [hvl], by omega⟩
                rw [HL.out, List.all_cons, Bool.and_eq_true] at hal
                rw [HL.out, isIdx, hal.1, hal.2]
                have := HN.out
                simp [bne_iff_ne, this])
              clear hj2
              go_wp2
              refine bodyPost_ret (v := .tuple #[.int .i64 (sat v : Nat), .int .i64 (j : Nat)]) (by simp [results, Tryd.results77, go_sem]) rfl ?_
              exact ⟨⟨_, _, rfl, HF.out, hsm, hj⟩, rfl⟩
end Go.Proofs.Qxb6609358aDoor.A
