import Derived.Test.Qxb6003626aLocA
namespace Go.Proofs.Qxb6003626a.LocB
open Go.ChangeShapes Go.WideShapes Go.ChangeAt Go.RowKit QuoA LocP LocA
set_option linter.unusedVariables false

theorem L_getD (s : ByteArray) (k : Nat) (h : k < s.size) : (L s).getD k 0 = s[k] := by
  rw [List.getD_eq_getElem?_getD, List.getElem?_eq_getElem (by rw [L_len]; exact h)]
  rfl

theorem mid_all (s : ByteArray) (h3 : 3 ≤ s.size) (h : ∀ j (hj : j + 1 < s.size), 1 ≤ j → dtextB s[j] = true) : (((L s).drop 1).take ((L s).length - 2)).all dtextB = true := by
  rw [List.all_eq_true]
  intro c hc
  obtain ⟨j, hj, rfl⟩ := List.mem_iff_getElem.1 hc
  simp [L_len] at hj
  simp only [List.getElem_take, List.getElem_drop]
  have := h (1 + j) (by omega) (by omega)
  exact this
theorem mid_not (s : ByteArray) (k : Nat) (h1 : 1 ≤ k) (h2 : k + 1 < s.size) (h : dtextB s[k] = false) : (((L s).drop 1).take ((L s).length - 2)).all dtextB = false := by
  rw [List.all_eq_false]
  have hl : k - 1 < (((L s).drop 1).take ((L s).length - 2)).length := by simp [L_len]; omega
  refine ⟨(((L s).drop 1).take ((L s).length - 2))[k - 1], List.getElem_mem hl, ?_⟩
  simp only [List.getElem_take, List.getElem_drop]
  have e : (L s)[1 + (k - 1)]'(by rw [L_len]; omega) = s[k] := by
    have : 1 + (k - 1) = k := by omega
    simp only [this]
    rfl
  rw [e, h]
  decide

theorem dtext_yes {c : UInt8} (h : (((33 ≤ (c.toNat : Int) ∧ (c.toNat : Int) ≤ 126) ∧ ((c.toNat : Int) == 91) = false) ∧ ((c.toNat : Int) == 93) = false) ∧ ((c.toNat : Int) == 92) = false) : dtextB c = true := by
  simp only [beq_eq_false_iff_ne] at h
  unfold dtextB
  simp only [Bool.and_eq_true, decide_eq_true_eq]
  omega
theorem dtext_no {c : UInt8} (h : (c.toNat : Int) < 33 ∨ 126 < (c.toNat : Int) ∨ (c.toNat : Int) = 91 ∨ (c.toNat : Int) = 93 ∨ (c.toNat : Int) = 92) : dtextB c = false := by
  cases hd : dtextB c with
  | false => rfl
  | true =>
    unfold dtextB at hd
    simp only [Bool.and_eq_true, decide_eq_true_eq] at hd
    omega

set_option maxHeartbeats 2000000 in
theorem literal_any (s : ByteArray) (w : World) (hs : s.size ≤ 4194304) (hp : 0 < s.size) (h91 : s[0] = 91) :
    Calls Try.prog 38 #[.string s] w fun e w' => e = .returned (.bool (isDLB (L s))) ∧ w' = w := by
  have h0 : ((s[0].toNat : Int) != 91) = false := by rw [h91]; rfl
  by_cases h3 : 3 ≤ s.size
  · have hlt : s.size - 1 < s.size := by omega
    by_cases h93 : s[s.size - 1] = 93
    · have HD : Hid (isDLB (L s) = (((L s).drop 1).take ((L s).length - 2)).all dtextB) := by
        show isDLB (L s) = _
        unfold isDLB
        rw [decide_eq_true (by rw [L_len]; exact h3), decide_eq_true (by rw [L_len, L_getD s _ hlt]; exact h93)]
        simp
      have g0 : ((s[s.size - 1].toNat : Int) != 93) = false := by rw [h93]; rfl
      have hd3 : decide ((s.size : Int) < 3) = false := decide_eq_false (by omega)
      clear h91 h93
      go_enter Try.func38, Try.ntmps38
      go_wp2
      go_loop [3] (fun i => ∃ k : Nat, k + 1 ≤ s.size ∧ 1 ≤ k ∧ i = .int .i64 k ∧ ∀ j (hj : j + 1 < s.size), 1 ≤ j → j < k → dtextB s[j] = true) (fun i => s.size - (intOf i).toNat)
      case atStart => exact ⟨1, by omega, by omega, rfl, fun j hj h1 h2 => by omega⟩
      case round =>
        obtain ⟨k, hk, hk1, rfl, hno⟩ := hrel
        have HN : Hid _ := hno
        clear hno
        by_cases hlt2 : k + 1 < s.size
        · have hlt3 : k < s.size := by omega
          have HNO : Hid (dtextB s[k] = false → isDLB (L s) = false) := fun h => by rw [HD.out, mid_not s k hk1 hlt2 h]
          go_wp2
          case roundEnd =>
            have hok : (((33 ≤ (s[k].toNat : Int) ∧ (s[k].toNat : Int) ≤ 126) ∧ ((s[k].toNat : Int) == 91) = false) ∧ ((s[k].toNat : Int) == 93) = false) ∧ ((s[k].toNat : Int) == 92) = false := by assumption
            go_round
            case rel =>
              refine ⟨k + 1, by omega, by omega, by go_num, fun j hj h1 h2 => ?_⟩
              by_cases hjk : j < k
              · exact HN.out j hj h1 hjk
              · obtain rfl : j = k := by omega
                exact dtext_yes hok
            case measure => simp [intOf]; omega
          all_goals go_ret
          all_goals refine ⟨ret_bool (HNO.out ?_).symm, rfl⟩
          · exact dtext_no (Or.inr (Or.inr (Or.inl ‹_›)))
          · exact dtext_no (Or.inr (Or.inr (Or.inr (Or.inl ‹_›))))
          · have hor : ((((s[k].toNat : Int) < 33 ∨ 126 < (s[k].toNat : Int)) ∨ ((s[k].toNat : Int) == 91) = true) ∨ ((s[k].toNat : Int) == 93) = true) ∨ ((s[k].toNat : Int) == 92) = true := by assumption
            simp only [beq_iff_eq] at hor
            exact dtext_no (by omega)
          · exact dtext_no (Or.inr (Or.inl ‹_›))
          · exact dtext_no (Or.inl ‹_›)
        · go_wp2
          go_ret
          exact ⟨ret_bool (by rw [HD.out, mid_all s h3 (fun j hj h1 => HN.out j hj h1 (by omega))]), rfl⟩
    · have HD : Hid (isDLB (L s) = false) := by
        show isDLB (L s) = _
        unfold isDLB
        rw [decide_eq_false (p := _ = (93 : UInt8)) (by rw [L_len, L_getD s _ hlt]; exact h93)]
        simp
      have g0 : ((s[s.size - 1].toNat : Int) != 93) = true := by
        simp only [bne_iff_ne]
        intro h
        apply h93
        apply UInt8.toNat.inj
        show _ = 93
        omega
      clear h91 h93
      go_enter Try.func38, Try.ntmps38
      go_wp2
      go_ret
      exact ⟨ret_bool HD.out.symm, rfl⟩
  · have HD : Hid (isDLB (L s) = false) := by
      show isDLB (L s) = _
      unfold isDLB
      rw [decide_eq_false (by rw [L_len]; exact h3)]
      rfl
    clear h91
    go_enter Try.func38, Try.ntmps38
    go_wp2
    go_ret
    exact ⟨ret_bool HD.out.symm, rfl⟩

theorem name_in {c : UInt8} (h : (97 ≤ (c.toNat : Int) ∧ (c.toNat : Int) ≤ 122) ∨ (65 ≤ (c.toNat : Int) ∧ (c.toNat : Int) ≤ 90) ∨ (48 ≤ (c.toNat : Int) ∧ (c.toNat : Int) ≤ 57) ∨ (c.toNat : Int) = 45 ∨ (c.toNat : Int) = 46 ∨ (c.toNat : Int) = 95) : nameB c = true := by
  unfold nameB
  simp only [Bool.or_eq_true, Bool.and_eq_true, decide_eq_true_eq]
  omega
theorem name_or {c : UInt8} (h : (((c.toNat : Int) == 45) = true ∨ ((c.toNat : Int) == 46) = true) ∨ ((c.toNat : Int) == 95) = true) : nameB c = true := by
  simp only [beq_iff_eq] at h
  exact name_in (by omega)
theorem name_out {c : UInt8} (h : (((c.toNat : Int) == 45) = false ∧ ((c.toNat : Int) == 46) = false) ∧ ((c.toNat : Int) == 95) = false) (h2 : ¬ (97 ≤ (c.toNat : Int) ∧ (c.toNat : Int) ≤ 122) ∧ ¬ (65 ≤ (c.toNat : Int) ∧ (c.toNat : Int) ≤ 90) ∧ ¬ (48 ≤ (c.toNat : Int) ∧ (c.toNat : Int) ≤ 57)) : nameB c = false := by
  simp only [beq_eq_false_iff_ne] at h
  cases hd : nameB c with
  | false => rfl
  | true =>
    unfold nameB at hd
    simp only [Bool.or_eq_true, Bool.and_eq_true, decide_eq_true_eq] at hd
    omega

theorem hop_else (s : ByteArray) (hp : 0 < s.size) (h91 : s[0] ≠ 91) : isHopB (L s) = (L s).all nameB := by
  have e := L_drop s 0 hp
  rw [List.drop_zero] at e
  rw [e, isHopB, if_neg h91]
theorem hop_lit (s : ByteArray) (hp : 0 < s.size) (h91 : s[0] = 91) : isHopB (L s) = isDLB (L s) := by
  have e := L_drop s 0 hp
  rw [List.drop_zero] at e
  rw [e, isHopB, if_pos h91]

set_option maxHeartbeats 4000000 in
theorem hop_any (s : ByteArray) (w : World) (hs : s.size ≤ 4194304) :
    Calls Try.prog 32 #[.string s] w fun e w' => e = .returned (.bool (isHopB (L s))) ∧ w' = w := by
  by_cases hz : s.size = 0
  · have e : isHopB (L s) = false := by rw [L_nil hz]; rfl
    rw [e]
    obtain rfl := empty_eq s hz
    clear e hz hs
    go_enter Try.func32, Try.ntmps32
    go_wp2
    go_ret
    exact ⟨rfl, rfl⟩
  · have hne : s.toList.isEmpty = false := by
      rw [Lib.toList_data]
      cases h : s.data.toList with
      | nil => exact absurd (by rw [← L_len]; unfold L; rw [h]; rfl) hz
      | cons a l => rfl
    have hp : 0 < s.size := by omega
    by_cases h91 : s[0] = 91
    · have k38 := literal_any s w hs hp h91
      have HU : Hid _ := hop_lit s hp h91
      have h0 : ((s[0].toNat : Int) == 91) = true := by rw [h91]; rfl
      have K38 : Hid _ := k38
      clear k38 h91
      go_enter Try.func32, Try.ntmps32
      go_wp2_with fail
      refine use K38.out ?_
      go_wp2
      go_ret
      exact ⟨ret_bool (by rw [HU.out]), rfl⟩
    · have HU : Hid _ := hop_else s hp h91
      have h0 : ((s[0].toNat : Int) == 91) = false := by
        rw [beq_eq_false_iff_ne]
        intro h
        apply h91
        apply UInt8.toNat.inj
        show _ = 91
        omega
      clear h91
      go_enter Try.func32, Try.ntmps32
      go_wp2
      go_loop [3] (fun i => ∃ k : Nat, k ≤ s.size ∧ i = .int .i64 k ∧ ∀ j (hj : j < k) (hp : j < s.size), nameB s[j] = true) (fun i => s.size - (intOf i).toNat)
      case atStart => exact ⟨0, Nat.zero_le _, rfl, fun j hj => by omega⟩
      case round =>
        obtain ⟨k, hk, rfl, hno⟩ := hrel
        have HN : Hid _ := hno
        clear hno
        by_cases hlt : k < s.size
        · have HY : Hid (nameB s[k] = true → ∀ j (hj : j < k + 1) (hp : j < s.size), nameB s[j] = true) := by
            intro h j hj hp
            by_cases hjk : j < k
            · exact HN.out j hjk hp
            · obtain rfl : j = k := by omega
              exact h
          have HNO : Hid (nameB s[k] = false → isHopB (L s) = false) := fun h => by rw [HU.out, L_not s nameB k hlt h]
          go_wp2
          all_goals first
            | (have hor : (((s[k].toNat : Int) == 45) = true ∨ ((s[k].toNat : Int) == 46) = true) ∨ ((s[k].toNat : Int) == 95) = true := by assumption
               have hy := HY.out (name_or hor)
               go_round
               case rel => exact ⟨k + 1, hlt, by go_num, hy⟩
               case measure => simp [intOf]; omega)
            | (have hno : (((s[k].toNat : Int) == 45) = false ∧ ((s[k].toNat : Int) == 46) = false) ∧ ((s[k].toNat : Int) == 95) = false := by assumption
               have hn := HNO.out (name_out hno (by omega))
               go_ret
               exact ⟨ret_bool hn.symm, rfl⟩)
            | (have hy := HY.out (name_in (by omega))
               go_round
               case rel => exact ⟨k + 1, hlt, by go_num, hy⟩
               case measure => simp [intOf]; omega)
        · go_wp2
          go_ret
          exact ⟨ret_bool (by rw [HU.out, L_all s nameB (fun j hj => HN.out j (by omega) hj)]), rfl⟩
end Go.Proofs.Qxb6003626a.LocB
