import Derived.Test.Qxb6003626aQuoC
namespace Go.Proofs.Qxb6003626a.QuoF
open Go.ChangeShapes Go.WideShapes Go.ChangeAt Go.RowKit QuoP QuoA QuoB QuoC
set_option linter.unusedVariables false

def fits3 (a b c : Nat) : Bool := decide (a + b + c ≤ 1048576)

set_option maxHeartbeats 1000000 in
theorem zzBytes3 (a b c : ByteArray) (w : World) (h0 : a.size ≤ maxLen) (h1 : b.size ≤ maxLen) (h2 : c.size ≤ maxLen) :
    Calls Try.prog 11 #[.string a, .string b, .string c] w fun e w' => e = .returned (.bool (fits3 a.size b.size c.size)) ∧ w' = w := by
  unfold maxLen at *
  by_cases hf : a.size + b.size + c.size ≤ 1048576
  · have hff : fits3 a.size b.size c.size = true := by unfold fits3; exact decide_eq_true hf
    rw [hff]; clear hff
    go_enter Try.func11, Try.ntmps11
    go_wp2
    go_ret
    exact ⟨rfl, rfl⟩
  · have hff : fits3 a.size b.size c.size = false := by unfold fits3; exact decide_eq_false hf
    rw [hff]; clear hff
    go_enter Try.func11, Try.ntmps11
    go_wp2
    all_goals go_ret
    all_goals exact ⟨rfl, rfl⟩

theorem L_append (a b : ByteArray) : L (a ++ b) = L a ++ L b := by
  unfold L
  obtain ⟨⟨x⟩⟩ := a
  obtain ⟨⟨y⟩⟩ := b
  rw [ByteArray.mk_append_mk]
theorem mk_append (x y : List UInt8) : (⟨(x ++ y).toArray⟩ : ByteArray) = ⟨x.toArray⟩ ++ ⟨y.toArray⟩ := (ByteArray.mk_append_mk x y).symm

/-- The four answers of unquoteWords on the law's road. -/
theorem joins (a b p : ByteArray) (h0 : a.size ≤ 262144) (h1 : b.size ≤ 262144) (h2 : p.size ≤ 262144) (ha : endSt 0 (L a) = 0) (hb : endSt 0 (L b) = 0) (hp : ∀ j (hj : j < p.size), p[j] ≠ 34 ∧ p[j] ≠ 92) :
    (∀ wx, Calls Try.prog 9 #[.string a] wx fun e w' => e = .returned (.string ⟨(out 0 (L a)).toArray⟩) ∧ Below wx.heap.size wx w') ∧
    (∀ wx, Calls Try.prog 9 #[.string b] wx fun e w' => e = .returned (.string ⟨(out 0 (L b)).toArray⟩) ∧ Below wx.heap.size wx w') ∧
    (∀ wx, Calls Try.prog 9 #[.string (a ++ b)] wx fun e w' => e = .returned (.string (⟨(out 0 (L a)).toArray⟩ ++ ⟨(out 0 (L b)).toArray⟩)) ∧ Below wx.heap.size wx w') ∧
    (∀ wx, Calls Try.prog 9 #[.string (⟨#[34]⟩ ++ p ++ ⟨#[34]⟩ ++ b)] wx fun e w' => e = .returned (.string (p ++ ⟨(out 0 (L b)).toArray⟩)) ∧ Below wx.heap.size wx w') := by
  have hlp : ∀ c ∈ L p, c ≠ 34 ∧ c ≠ 92 := by
    intro c hc
    obtain ⟨j, hj, rfl⟩ := List.mem_iff_getElem.1 hc
    rw [L_len] at hj
    exact hp j hj
  refine ⟨fun wx => zzwords_any a wx (by omega) ha, fun wx => zzwords_any b wx (by omega) hb, fun wx => ?_, fun wx => ?_⟩
  · have k := zzwords_any (a ++ b) wx (by rw [← L_len, L_append, List.length_append, L_len, L_len]; omega) (by rw [L_append, endSt_append, ha, hb])
    rw [L_append, out_append, ha, mk_append] at k
    exact k
  · have e1 : L ((⟨#[34]⟩ : ByteArray) ++ p ++ ⟨#[34]⟩ ++ b) = 34 :: (L p ++ 34 :: L b) := by
      rw [L_append, L_append, L_append]; simp [L]
    have hbp := body_bare (L p) (fun c hc => (hlp c hc).1) (fun c hc => (hlp c hc).2)
    have e2 : out 0 (34 :: (L p ++ 34 :: L b)) = L p ++ out 0 (L b) := by
      rw [out_body _ _ hbp, out_bare _ hbp (fun c hc => (hlp c hc).2)]
    have e3 : endSt 0 (34 :: (L p ++ 34 :: L b)) = 0 := by rw [endSt_body _ _ hbp, hb]
    have k := zzwords_any ((⟨#[34]⟩ : ByteArray) ++ p ++ ⟨#[34]⟩ ++ b) wx (by rw [← L_len, e1]; simp [L_len]; omega) (by rw [e1]; exact e3)
    rw [e1, e2, mk_append, mk_L] at k
    exact k

set_option maxHeartbeats 4000000 in
/-- The way on which all is asked: the bounds hold, a and b are closed. -/
theorem join_on (a b p : ByteArray) (w : World) (hf : fits3 a.size b.size p.size = true) (h0 : a.size ≤ 262144) (h1 : b.size ≤ 262144) (h2 : p.size ≤ 262144) (ha : closedB a = true) (hb : closedB b = true) :
    Calls Try.prog 4 #[.string a, .string b, .string p] w fun e w' => e = .returned (.bool true) ∧ Below w.heap.size w w' := by
  have mx : maxLen = 9223372036854775807 := rfl
  have k11 := zzBytes3 a b p w (by omega) (by omega) (by omega)
  have k8a := closed_any a w (by omega)
  have k8b := closed_any b w (by omega)
  rw [hf] at k11
  rw [ha] at k8a
  rw [hb] at k8b
  have K11 : Hid _ := k11
  have K8a : Hid _ := k8a
  have K8b : Hid _ := k8b
  clear k11 k8a k8b mx hf
  have HA : Hid (endSt 0 (L a) = 0) := by unfold closedB at ha; exact beq_iff_eq.1 ha
  have HB : Hid (endSt 0 (L b) = 0) := by unfold closedB at hb; exact beq_iff_eq.1 hb
  clear ha hb
  go_enter Try.func4, Try.ntmps4
  go_wp2_with fail
  refine use K11.out ?_
  go_wp2_with fail
  refine use K8a.out ?_
  go_wp2_with fail
  refine use K8b.out ?_
  clear K11 K8a K8b
  go_wp2_with fail
  go_loop [7] (fun i => ∃ k : Nat, k ≤ p.size ∧ i = .int .i64 k ∧ ∀ j (hj : j < k) (hp : j < p.size), p[j] ≠ 34 ∧ p[j] ≠ 92) (fun i => p.size - (intOf i).toNat)
  case atStart => exact ⟨0, Nat.zero_le _, rfl, fun j hj => by omega⟩
  case round =>
    obtain ⟨k, hk, rfl, hno⟩ := hrel
    have HN : Hid _ := hno
    clear hno
    by_cases hlt : k < p.size
    · cases hc : ((p[k].toNat : Int) == 34) with
      | true =>
        go_wp2
        go_ret
        exact ⟨rfl, Below.refl _ _⟩
      | false =>
        cases hd : ((p[k].toNat : Int) == 92) with
        | true =>
          go_wp2
          go_ret
          exact ⟨rfl, Below.refl _ _⟩
        | false =>
          go_wp2
          go_round
          case rel =>
            refine ⟨k + 1, by omega, by go_num, fun j hj hp => ?_⟩
            by_cases hjk : j < k
            · exact HN.out j hjk hp
            · obtain rfl : j = k := by omega
              exact ⟨no34 hc, no92 hd⟩
          case measure => simp [intOf]; omega
    · obtain ⟨ka, kb, kab, kp⟩ := joins a b p h0 h1 h2 HA.out HB.out (fun j hj => HN.out j (by omega) hj)
      have sa := Lib.size_of_mk (out 0 (L a))
      have sb := Lib.size_of_mk (out 0 (L b))
      have la := out_le 0 (L a)
      have lb := out_le 0 (L b)
      rw [L_len] at la lb
      generalize (⟨(out 0 (L a)).toArray⟩ : ByteArray) = oa at ka kb kab kp sa
      generalize (⟨(out 0 (L b)).toArray⟩ : ByteArray) = ob at ka kb kab kp sb
      have za : oa.size ≤ 262144 := by omega
      have zb : ob.size ≤ 262144 := by omega
      have Ka : Hid _ := ka
      have Kb : Hid _ := kb
      have Kab : Hid _ := kab
      have Kp : Hid _ := kp
      clear ka kb kab kp sa sb la lb HA HB HN
      go_wp2_with fail
      refine (Calls.mono (Kb.out _)) ?_
      rintro e w1 ⟨rfl, b1⟩
      go_wp2_with fail
      refine (Calls.mono (Kab.out _)) ?_
      rintro e w2 ⟨rfl, b2⟩
      go_wp2_with fail
      refine (Calls.mono (Ka.out _)) ?_
      rintro e w3 ⟨rfl, b3⟩
      have b4 := (b1.trans (b2.mono b1.size)).trans (b3.mono (b1.trans (b2.mono b1.size)).size)
      clear b1 b2 b3
      go_wp2_with fail
      refine (Calls.mono (Kp.out _)) ?_
      rintro e w5 ⟨rfl, b5⟩
      have b6 := b4.trans (b5.mono b4.size)
      clear b4 b5 Ka Kb Kab Kp
      go_wp2
      go_ret
      exact ⟨rfl, b6⟩

set_option maxHeartbeats 1000000 in
theorem join_any (a b p : ByteArray) (w : World) (w0 : a.size ≤ maxLen) (w1 : b.size ≤ maxLen) (w2 : p.size ≤ maxLen) :
    Calls Try.prog 4 #[.string a, .string b, .string p] w fun e w' => e = .returned (.bool true) ∧ Below w.heap.size w w' := by
  have k11 := zzBytes3 a b p w w0 w1 w2
  have k8a := closed_any a w w0
  have k8b := closed_any b w w1
  cases hf : fits3 a.size b.size p.size with
  | false =>
    rw [hf] at k11
    have K11 : Hid _ := k11
    clear k11 k8a k8b hf
    go_enter Try.func4, Try.ntmps4
    go_wp2_with fail
    refine use K11.out ?_
    go_wp2
    go_ret
    exact ⟨rfl, Below.refl _ _⟩
  | true =>
    by_cases hb : a.size ≤ 262144 ∧ b.size ≤ 262144 ∧ p.size ≤ 262144
    · obtain ⟨h0, h1, h2⟩ := hb
      cases ha : closedB a with
      | false =>
        rw [hf] at k11
        rw [ha] at k8a
        have K11 : Hid _ := k11
        have K8a : Hid _ := k8a
        clear k11 k8a k8b hf ha w0 w1 w2
        go_enter Try.func4, Try.ntmps4
        go_wp2_with fail
        refine use K11.out ?_
        go_wp2_with fail
        refine use K8a.out ?_
        go_wp2
        go_ret
        exact ⟨rfl, Below.refl _ _⟩
      | true =>
        cases hb : closedB b with
        | false =>
          rw [hf] at k11
          rw [ha] at k8a
          rw [hb] at k8b
          have K11 : Hid _ := k11
          have K8a : Hid _ := k8a
          have K8b : Hid _ := k8b
          clear k11 k8a k8b hf ha hb w0 w1 w2
          go_enter Try.func4, Try.ntmps4
          go_wp2_with fail
          refine use K11.out ?_
          go_wp2_with fail
          refine use K8a.out ?_
          go_wp2_with fail
          refine use K8b.out ?_
          go_wp2
          go_ret
          exact ⟨rfl, Below.refl _ _⟩
        | true => exact join_on a b p w hf h0 h1 h2 ha hb
    · rw [hf] at k11
      have K11 : Hid _ := k11
      clear k11 k8a k8b hf
      unfold maxLen at *
      by_cases h0 : a.size ≤ 262144
      · by_cases h1 : b.size ≤ 262144
        · have h2 : ¬ p.size ≤ 262144 := fun h => hb ⟨h0, h1, h⟩
          clear hb
          go_enter Try.func4, Try.ntmps4
          go_wp2_with fail
          refine use K11.out ?_
          go_wp2
          go_ret
          exact ⟨rfl, Below.refl _ _⟩
        · clear hb
          go_enter Try.func4, Try.ntmps4
          go_wp2_with fail
          refine use K11.out ?_
          go_wp2
          go_ret
          exact ⟨rfl, Below.refl _ _⟩
      · clear hb
        go_enter Try.func4, Try.ntmps4
        go_wp2_with fail
        refine use K11.out ?_
        go_wp2
        go_ret
        exact ⟨rfl, Below.refl _ _⟩
end Go.Proofs.Qxb6003626a.QuoF
