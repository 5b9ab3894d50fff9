import Derived.Test.Qxb6609358aDoorG
namespace Go.Proofs.Qxb6609358aDoor.A
open Go.ChangeShapes Go.WideShapes Go.ChangeAt Go.RowKit P
set_option linter.unusedVariables false

abbrev kNone : ByteArray := { data := #[] }
abbrev kDash : ByteArray := { data := #[34, 45, 34, 32, 110, 97, 109, 101, 115, 32, 110, 111, 32, 101, 108, 101, 109, 101, 110, 116] }
abbrev kNot : ByteArray := { data := #[110, 111, 116, 32, 97, 110, 32, 97, 114, 114, 97, 121, 32, 105, 110, 100, 101, 120] }
abbrev kOut : ByteArray := { data := #[105, 110, 100, 101, 120, 32, 111, 117, 116, 32, 111, 102, 32, 114, 97, 110, 103, 101] }
/-- The kind and the number that a token has in an array of n elements. -/
def ixK (l : List UInt8) (n : Nat) : ByteArray := if l = [45] then kDash else if isIdx l = true then (if n ≤ val l then kOut else kNone) else kNot
def ixN (l : List UInt8) (n : Nat) : Nat := if l = [45] then 0 else if isIdx l = true then (if n ≤ val l then 0 else val l) else 0

set_option maxHeartbeats 2000000 in
/-- elementIndex. -/
theorem elem_any (s : ByteArray) (w : World) (hs : s.size ≤ 4194304) :
    Calls Tryd.prog 73 #[.string s] w fun e w' => e = .returned (.tuple #[.int .i64 ((if L s = [45] then 0 else if isIdx (L s) = true then sat (val (L s)) else 0 : Nat) : Int), .string (if L s = [45] then kDash else if isIdx (L s) = true then kNone else kNot)]) ∧ w' = w := by
  by_cases hd : L s = [45]
  · have hq : (s.toList == [45]) = true := by rw [Lib.toList_data, show s.data.toList = L s from rfl, hd]; rfl
    rw [if_pos hd, if_pos hd]
    clear hd
    go_enter Tryd.func73, Tryd.ntmps73
    go_wp2
    refine bodyPost_ret (v := .tuple #[.int .i64 0, .string kDash]) (by simp [results, Tryd.results73, go_sem]) rfl ?_
    exact ⟨rfl, rfl⟩
  · have hq : (s.toList == [45]) = false := by rw [Lib.toList_data, show s.data.toList = L s from rfl]; exact beq_eq_false_iff_ne.2 hd
    rw [if_neg hd, if_neg hd]
    have k77 := lead_any s w hs
    have K77 : Hid _ := k77
    obtain ⟨N, hN⟩ : ∃ N : Nat, (if isIdx (L s) = true then sat (val (L s)) else 0) = N := ⟨_, rfl⟩
    obtain ⟨D, hD⟩ : ∃ D : ByteArray, (if isIdx (L s) = true then kNone else kNot) = D := ⟨_, rfl⟩
    rw [hN, hD]
    have HN : Hid _ := hN
    have HD : Hid _ := hD
    clear k77 hd hN hD
    go_enter Tryd.func73, Tryd.ntmps73
    go_wp2_with fail
    refine (Calls.mono K77.out) ?_
    rintro e w1 ⟨⟨n, wd, rfl, hl, hn, hwd⟩, hw1⟩
    have hw1' := hw1.symm
    subst hw1'
    clear hw1 K77
    unfold mx at hn
    have hlen := L_len s
    rcases hl with ⟨h1, h2⟩ | ⟨h1, h2, h3, h4⟩
    · have HF : Hid (isIdx (L s) = false) := h1
      rw [hlen] at h2
      clear hlen h1
      by_cases hz : wd = 0
      · subst hz
        go_wp2
        refine bodyPost_ret (v := .tuple #[.int .i64 0, .string kNot]) (by simp [results, Tryd.results73, go_sem]) rfl ?_
        exact ⟨by rw [← HN.out, ← HD.out, if_neg (by rw [HF.out]; simp), if_neg (by rw [HF.out]; simp)]; rfl, rfl⟩
      · have hz1 : ((wd : Int) == 0) = false := beq_eq_false_iff_ne.2 (by omega)
        have hz2 : wd < s.size := by omega
        go_wp2
        refine bodyPost_ret (v := .tuple #[.int .i64 0, .string kNot]) (by simp [results, Tryd.results73, go_sem]) rfl ?_
        exact ⟨by rw [← HN.out, ← HD.out, if_neg (by rw [HF.out]; simp), if_neg (by rw [HF.out]; simp)]; rfl, rfl⟩
    · rw [hlen] at h2
      have HF : Hid (isIdx (L s) = true) := h1
      have H3 : Hid (n = sat (val (L s))) := h3
      have hz1 : ((wd : Int) == 0) = false := beq_eq_false_iff_ne.2 (by omega)
      have hz2 : ¬ wd < s.size := by omega
      clear hlen h1 h2 h3
      go_wp2
      refine bodyPost_ret (v := .tuple #[.int .i64 (n : Nat), .string kNone]) (by simp [results, Tryd.results73, go_sem]) rfl ?_
      exact ⟨by rw [← HN.out, ← HD.out, if_pos HF.out, if_pos HF.out, ← H3.out], rfl⟩

set_option maxHeartbeats 2000000 in
/-- arrayIndex. -/
theorem aidx_any (s : ByteArray) (n : Nat) (w : World) (hs : s.size ≤ 4194304) (hn : n ≤ 65536) :
    Calls Tryd.prog 69 #[.string s, .int .i64 (n : Int)] w fun e w' => e = .returned (.tuple #[.int .i64 (ixN (L s) n : Int), .string (ixK (L s) n)]) ∧ w' = w := by
  have k73 := elem_any s w hs
  unfold ixN ixK
  by_cases hd : L s = [45]
  · rw [if_pos hd, if_pos hd] at k73 ⊢
    have K73 : Hid _ := k73
    clear k73 hd
    go_enter Tryd.func69, Tryd.ntmps69
    go_wp2_with fail
    refine use K73.out ?_
    go_wp2
    refine bodyPost_ret (v := .tuple #[.int .i64 0, .string kDash]) (by simp [results, Tryd.results69, go_sem]) rfl ?_
    exact ⟨rfl, rfl⟩
  · rw [if_neg hd, if_neg hd] at k73 ⊢
    by_cases hi : isIdx (L s) = true
    · rw [if_pos hi, if_pos hi] at k73 ⊢
      obtain ⟨v, hv⟩ : ∃ v, val (L s) = v := ⟨_, rfl⟩
      rw [hv] at k73 ⊢
      by_cases hle : n ≤ v
      · have hsv : n ≤ sat v := by unfold sat mx; split <;> omega
        have hsm : sat v ≤ 9223372036854775807 := by unfold sat mx; split <;> omega
        rw [if_pos hle, if_pos hle]
        have K73 : Hid _ := k73
        clear k73 hd hv hi
        go_enter Tryd.func69, Tryd.ntmps69
        go_wp2_with fail
        refine use K73.out ?_
        go_wp2
        refine bodyPost_ret (v := .tuple #[.int .i64 0, .string kOut]) (by simp [results, Tryd.results69, go_sem]) rfl ?_
        exact ⟨rfl, rfl⟩
      · have hsv : sat v = v := by unfold sat mx; split <;> omega
        rw [hsv] at k73
        rw [if_neg hle, if_neg hle]
        have K73 : Hid _ := k73
        clear k73 hd hv hi hsv
        go_enter Tryd.func69, Tryd.ntmps69
        go_wp2_with fail
        refine use K73.out ?_
        go_wp2
        refine bodyPost_ret (v := .tuple #[.int .i64 (v : Int), .string kNone]) (by simp [results, Tryd.results69, go_sem]) rfl ?_
        exact ⟨rfl, rfl⟩
    · rw [if_neg hi, if_neg hi] at k73 ⊢
      have K73 : Hid _ := k73
      clear k73 hd hi
      go_enter Tryd.func69, Tryd.ntmps69
      go_wp2_with fail
      refine use K73.out ?_
      go_wp2
      refine bodyPost_ret (v := .tuple #[.int .i64 0, .string kNot]) (by simp [results, Tryd.results69, go_sem]) rfl ?_
      exact ⟨rfl, rfl⟩

def vf (n : Nat) (c : UInt8) : Nat := n * 10 + (c.toNat - 48)
theorem vf_ge (l : List UInt8) (a : Nat) : a * 10 ^ l.length ≤ l.foldl vf a := by
  induction l generalizing a with
  | nil => simp
  | cons c t ih =>
    rw [List.foldl_cons, List.length_cons, Nat.pow_succ]
    refine Nat.le_trans ?_ (ih _)
    rw [Nat.mul_comm (10 ^ t.length) 10, ← Nat.mul_assoc]
    exact Nat.mul_le_mul_right _ (by unfold vf; omega)
theorem vf_lt (l : List UInt8) (a : Nat) (h : l.all dig = true) : l.foldl vf a < (a + 1) * 10 ^ l.length := by
  induction l generalizing a with
  | nil => simp
  | cons c t ih =>
    rw [List.all_cons, Bool.and_eq_true] at h
    rw [List.foldl_cons, List.length_cons, Nat.pow_succ]
    refine Nat.lt_of_lt_of_le (ih _ h.2) ?_
    rw [Nat.mul_comm (10 ^ t.length) 10, ← Nat.mul_assoc]
    refine Nat.mul_le_mul_right _ ?_
    have := of_decide_eq_true h.1
    unfold vf
    omega
theorem val_vf (l : List UInt8) : val l = l.foldl vf 0 := rfl
theorem val_small (l : List UInt8) (h : l.all dig = true) (h6 : l.length ≤ 6) : val l < 1000000 := by
  have h1 := vf_lt l 0 h
  have h2 : 10 ^ l.length ≤ 10 ^ 6 := Nat.pow_le_pow_right (by omega) h6
  rw [val_vf]
  omega
theorem val_big (l : List UInt8) (hi : isIdx l = true) (h6 : 6 < l.length) : 1000000 ≤ val l := by
  cases l with
  | nil => cases hi
  | cons c t =>
    simp only [isIdx, Bool.and_eq_true, Bool.or_eq_true] at hi
    have hd := of_decide_eq_true hi.1
    have hc : c ≠ 48 := by
      rcases hi.2.2 with h | h
      · simpa using h
      · rw [List.isEmpty_iff] at h; subst h; simp at h6
    have hc2 : c.toNat ≠ 48 := fun e => hc (by apply UInt8.toNat.inj; simpa using e)
    have h1 := vf_ge t (vf 0 c)
    have h2 : 10 ^ 6 ≤ 10 ^ t.length := Nat.pow_le_pow_right (by omega) (by simp at h6; omega)
    rw [val_vf, List.foldl_cons]
    have h3 : 1 ≤ vf 0 c := by unfold vf; omega
    have h4 : 1 * 10 ^ 6 ≤ vf 0 c * 10 ^ t.length := Nat.mul_le_mul h3 h2
    omega
theorem idx_nall (l : List UInt8) (h : l.all dig = false) : isIdx l = false := by
  cases l with
  | nil => rfl
  | cons c t =>
    rw [List.all_cons] at h
    rw [isIdx]
    cases hc : dig c with
    | false => rfl
    | true => rw [hc, Bool.true_and] at h; rw [h]; rfl

set_option maxHeartbeats 4000000 in
/-- indexIn: the law's own reading. -/
theorem iin_any (s : ByteArray) (n : Nat) (w : World) (hs : s.size ≤ 4194304) (hn : n ≤ 65536) :
    Calls Tryd.prog 20 #[.string s, .int .i64 (n : Int)] w fun e w' => e = .returned (.tuple #[.int .i64 (ixN (L s) n : Int), .string (ixK (L s) n)]) ∧ w' = w := by
  have hlen := L_len s
  obtain ⟨N, hN⟩ : ∃ N, ixN (L s) n = N := ⟨_, rfl⟩
  obtain ⟨D, hD⟩ : ∃ D, ixK (L s) n = D := ⟨_, rfl⟩
  rw [hN, hD]
  have HNot : Hid (L s ≠ [45] → isIdx (L s) = false → N = 0 ∧ D = kNot) := hid (fun h1 h2 => by
    rw [← hN, ← hD]; unfold ixN ixK; rw [if_neg h1, if_neg h1, if_neg (by rw [h2]; simp), if_neg (by rw [h2]; simp)]; exact ⟨rfl, rfl⟩)
  have HOut : Hid (L s ≠ [45] → isIdx (L s) = true → n ≤ val (L s) → N = 0 ∧ D = kOut) := hid (fun h1 h2 h3 => by
    rw [← hN, ← hD]; unfold ixN ixK; rw [if_neg h1, if_neg h1, if_pos h2, if_pos h2, if_pos h3, if_pos h3]; exact ⟨rfl, rfl⟩)
  have HIn : Hid (L s ≠ [45] → isIdx (L s) = true → ¬ n ≤ val (L s) → N = val (L s) ∧ D = kNone) := hid (fun h1 h2 h3 => by
    rw [← hN, ← hD]; unfold ixN ixK; rw [if_neg h1, if_neg h1, if_pos h2, if_pos h2, if_neg h3, if_neg h3]; exact ⟨rfl, rfl⟩)
  have HDash : Hid (L s = [45] → N = 0 ∧ D = kDash) := hid (fun h1 => by
    rw [← hN, ← hD]; unfold ixN ixK; rw [if_pos h1, if_pos h1]; exact ⟨rfl, rfl⟩)
  have HLen : Hid _ := hlen
  clear hN hD hlen
  by_cases hd : L s = [45]
  · have hq : (s.toList == [45]) = true := by rw [Lib.toList_data, show s.data.toList = L s from rfl, hd]; rfl
    obtain ⟨rfl, rfl⟩ := HDash.out hd
    clear hd HNot HOut HIn HDash
    go_enter Tryd.func20, Tryd.ntmps20
    go_wp2
    refine bodyPost_ret (v := .tuple #[.int .i64 0, .string kDash]) (by simp [results, Tryd.results20, go_sem]) rfl ?_
    exact ⟨rfl, rfl⟩
  · have hq : (s.toList == [45]) = false := by rw [Lib.toList_data, show s.data.toList = L s from rfl]; exact beq_eq_false_iff_ne.2 hd
    have HD : Hid (L s ≠ [45]) := hd
    clear hd
    by_cases hz : s.size = 0
    · have h0 : ((s.size : Int) == 0) = true := beq_iff_eq.2 (by omega)
      obtain ⟨rfl, rfl⟩ := HNot.out HD.out (by rw [List.eq_nil_of_length_eq_zero (l := L s) (by rw [L_len]; exact hz)]; rfl)
      go_enter Tryd.func20, Tryd.ntmps20
      go_wp2
      refine bodyPost_ret (v := .tuple #[.int .i64 0, .string kNot]) (by simp [results, Tryd.results20, go_sem]) rfl ?_
      exact ⟨rfl, rfl⟩
    · have h0 : ((s.size : Int) == 0) = false := beq_eq_false_iff_ne.2 (by omega)
      have hp : 0 < s.size := by omega
      clear HDash
      go_enter Tryd.func20, Tryd.ntmps20
      go_wp2
      go_loop [6] (fun k => ∃ j : Nat, j ≤ s.size ∧ k = .int .i64 j ∧ ((L s).take j).all dig = true) (fun k => s.size - (intOf k).toNat)
      case atStart => exact ⟨0, Nat.zero_le _, rfl, rfl⟩
      case round =>
        obtain ⟨j, hj, rfl, hall⟩ := hrel
        have HA : Hid _ := hall
        clear hall
        by_cases hlt : j < s.size
        · have hbad : dig s[j] = false → isIdx (L s) = false := fun hd => by
            have hm : s[j] ∈ L s := by rw [← L_get s j hlt]; exact List.getElem_mem _
            refine idx_nall _ ?_
            cases hh : (L s).all dig with
            | false => rfl
            | true => rw [List.all_eq_true.1 hh _ hm] at hd; cases hd
          have HB : Hid _ := hbad
          clear hbad
          cases h1 : decide ((s[j].toNat : Int) < 48) with
          | true =>
            have HF : Hid (N = 0 ∧ D = kNot) := hid (HNot.out HD.out (HB.out (by have := of_decide_eq_true h1; simp [dig]; omega)))
            clear HNot HOut HIn HB HA
            go_wp2
            refine bodyPost_ret (v := .tuple #[.int .i64 0, .string kNot]) (by simp [results, Tryd.results20, go_sem]) rfl ?_
            exact ⟨by rw [HF.out.1, HF.out.2]; rfl, rfl⟩
          | false =>
            cases h2 : decide ((57 : Int) < (s[j].toNat : Int)) with
            | true =>
              have HF : Hid (N = 0 ∧ D = kNot) := hid (HNot.out HD.out (HB.out (by have := of_decide_eq_true h2; simp [dig]; omega)))
              clear HNot HOut HIn HB HA
              go_wp2
              refine bodyPost_ret (v := .tuple #[.int .i64 0, .string kNot]) (by simp [results, Tryd.results20, go_sem]) rfl ?_
              exact ⟨by rw [HF.out.1, HF.out.2]; rfl, rfl⟩
            | false =>
              have HA2 : Hid (((L s).take (j + 1)).all dig = true) := hid (by
                have e1 := of_decide_eq_false h1
                have e2 := of_decide_eq_false h2
                rw [L_take s j hlt, List.all_append, HA.out]; simp [dig]; omega)
              go_wp2
              go_round
              case rel => exact ⟨j + 1, hlt, by go_num, HA2.out⟩
              case measure => simp [intOf]; omega
        · have hall : (L s).all dig = true := by
            have := HA.out
            rwa [List.take_of_length_le (by rw [L_len]; omega)] at this
          have HAll : Hid _ := hall
          clear hall HA
          have hL := L_drop s 0 hp
          rw [List.drop_zero] at hL
          have HL : Hid _ := hL
          clear hL
          have hcase : (((s[0].toNat : Int) == 48) = true ∧ 1 < s.size) ∨ (isIdx (L s) = true ∧ (((s[0].toNat : Int) == 48) = false ∨ s.size ≤ 1)) := by
            have ha := HAll.out
            rw [HL.out, List.all_cons, Bool.and_eq_true] at ha
            cases h48 : ((s[0].toNat : Int) == 48) with
            | false =>
              refine .inr ⟨?_, .inl rfl⟩
              rw [HL.out, isIdx, ha.1, ha.2]
              have := n48 h48
              simp [this]
            | true =>
              by_cases h1 : 1 < s.size
              · exact .inl ⟨rfl, h1⟩
              · refine .inr ⟨?_, .inr (by omega)⟩
                rw [HL.out, isIdx, ha.1, ha.2, L_end s (0 + 1) (by omega)]
                simp
          rcases hcase with ⟨h48, h1⟩ | ⟨hix, h48⟩
          · have HF : Hid (N = 0 ∧ D = kNot) := hid (HNot.out HD.out (by
              rw [HL.out, y48 h48, L_drop s (0 + 1) (by omega)]
              simp [isIdx]))
            clear HNot HOut HIn HL HAll
            go_wp2
            refine bodyPost_ret (v := .tuple #[.int .i64 0, .string kNot]) (by simp [results, Tryd.results20, go_sem]) rfl ?_
            exact ⟨by rw [HF.out.1, HF.out.2]; rfl, rfl⟩
          · have HI : Hid _ := hix
            clear hix HNot HL
            by_cases h6 : 6 < s.size
            · have HF : Hid (N = 0 ∧ D = kOut) := hid (HOut.out HD.out HI.out (by have := val_big (L s) HI.out (by rw [L_len]; exact h6); omega))
              clear HOut HIn HAll HI
              rcases h48 with h48 | h48
              · go_wp2
                refine bodyPost_ret (v := .tuple #[.int .i64 0, .string kOut]) (by simp [results, Tryd.results20, go_sem]) rfl ?_
                exact ⟨by rw [HF.out.1, HF.out.2]; rfl, rfl⟩
              · omega
            · have hbd : ∀ k, k ≤ s.size → val ((L s).take k) < 1000000 := fun k hk => val_small _ (by
                have := HAll.out
                rw [List.all_eq_true] at this ⊢
                exact fun x hx => this x (List.mem_of_mem_take hx)) (by rw [List.length_take, L_len]; omega)
              have HBd : Hid _ := hbd
              have hdg : ∀ k (h : k < s.size), 48 ≤ s[k].toNat ∧ s[k].toNat ≤ 57 := fun k h => by
                have := List.all_eq_true.1 HAll.out (s[k]) (by rw [← L_get s k h]; exact List.getElem_mem _)
                exact of_decide_eq_true this
              have HDg : Hid _ := hdg
              clear hbd hdg HAll
              have key : (if ((s[0].toNat : Int) == 48) = true then decide ((1 : Int) < (s.size : Int)) else false) = false := by
                rcases h48 with h | h
                · rw [h]; rfl
                · split
                  · exact decide_eq_false (by omega)
                  · rfl
              cases hh48 : ((s[0].toNat : Int) == 48) with
              | false =>
                clear h48 key
                go_wp2
                go_loop [7, 8] (fun v k => ∃ j : Nat, j ≤ s.size ∧ k = .int .i64 j ∧ v = .int .i64 (val ((L s).take j) : Nat)) (fun _ k => s.size - (intOf k).toNat)
                case atStart => exact ⟨0, Nat.zero_le _, rfl, rfl⟩
                case round =>
                  obtain ⟨j2, hj2, rfl, rfl⟩ := hrel
                  have hb := HBd.out j2 hj2
                  obtain ⟨v, hv⟩ : ∃ v, val ((L s).take j2) = v := ⟨_, rfl⟩
                  rw [hv] at hb ⊢
                  have HV : Hid _ := hv
                  clear hv
                  by_cases hlt2 : j2 < s.size
                  · have hd2 := HDg.out j2 hlt2
                    have HV2 : Hid (val ((L s).take (j2 + 1)) = v * 10 + (s[j2].toNat - 48)) := hid (by rw [L_take s j2 hlt2, val_snoc, HV.out])
                    go_wp2
                    go_round
                    case rel => exact ⟨j2 + 1, hlt2, by go_num, by rw [HV2.out]; go_num⟩
                    case measure => simp [intOf]; omega
                  · have hvv : val (L s) = v := by
                      have := HV.out
                      rwa [List.take_of_length_le (by rw [L_len]; omega)] at this
                    by_cases hle : n ≤ v
                    · have HF : Hid (N = 0 ∧ D = kOut) := hid (HOut.out HD.out HI.out (by rw [hvv]; exact hle))
                      clear HOut HIn HI hvv HV HBd HDg
                      go_wp2
                      refine bodyPost_ret (v := .tuple #[.int .i64 0, .string kOut]) (by simp [results, Tryd.results20, go_sem]) rfl ?_
                      exact ⟨by rw [HF.out.1, HF.out.2]; rfl, rfl⟩
                    · have HF : Hid (N = v ∧ D = kNone) := hid (by rw [← hvv]; exact HIn.out HD.out HI.out (by rw [hvv]; exact hle))
                      clear HOut HIn HI hvv HV HBd HDg
                      go_wp2
                      refine bodyPost_ret (v := .tuple #[.int .i64 (v : Int), .string kNone]) (by simp [results, Tryd.results20, go_sem]) rfl ?_
                      exact ⟨by rw [HF.out.1, HF.out.2], rfl⟩
              | true =>
                have h1s : s.size = 1 := by
                  rcases h48 with h | h
                  · rw [hh48] at h; cases h
                  · omega
                have h1l : s.size ≤ 1 := by omega
                clear h48 key h1s
                go_wp2
                go_loop [7, 8] (fun v k => ∃ j : Nat, j ≤ s.size ∧ k = .int .i64 j ∧ v = .int .i64 (val ((L s).take j) : Nat)) (fun _ k => s.size - (intOf k).toNat)
                case atStart => exact ⟨0, Nat.zero_le _, rfl, rfl⟩
                case round =>
                  obtain ⟨j2, hj2, rfl, rfl⟩ := hrel
                  have hb := HBd.out j2 hj2
                  obtain ⟨v, hv⟩ : ∃ v, val ((L s).take j2) = v := ⟨_, rfl⟩
                  rw [hv] at hb ⊢
                  have HV : Hid _ := hv
                  clear hv
                  by_cases hlt2 : j2 < s.size
                  · have hd2 := HDg.out j2 hlt2
                    have HV2 : Hid (val ((L s).take (j2 + 1)) = v * 10 + (s[j2].toNat - 48)) := hid (by rw [L_take s j2 hlt2, val_snoc, HV.out])
                    go_wp2
                    go_round
                    case rel => exact ⟨j2 + 1, hlt2, by go_num, by rw [HV2.out]; go_num⟩
                    case measure => simp [intOf]; omega
                  · have hvv : val (L s) = v := by
                      have := HV.out
                      rwa [List.take_of_length_le (by rw [L_len]; omega)] at this
                    by_cases hle : n ≤ v
                    · have HF : Hid (N = 0 ∧ D = kOut) := hid (HOut.out HD.out HI.out (by rw [hvv]; exact hle))
                      clear HOut HIn HI hvv HV HBd HDg
                      go_wp2
                      refine bodyPost_ret (v := .tuple #[.int .i64 0, .string kOut]) (by simp [results, Tryd.results20, go_sem]) rfl ?_
                      exact ⟨by rw [HF.out.1, HF.out.2]; rfl, rfl⟩
                    · have HF : Hid (N = v ∧ D = kNone) := hid (by rw [← hvv]; exact HIn.out HD.out HI.out (by rw [hvv]; exact hle))
                      clear HOut HIn HI hvv HV HBd HDg
                      go_wp2
                      refine bodyPost_ret (v := .tuple #[.int .i64 (v : Int), .string kNone]) (by simp [results, Tryd.results20, go_sem]) rfl ?_
                      exact ⟨by rw [HF.out.1, HF.out.2], rfl⟩
end Go.Proofs.Qxb6609358aDoor.A
