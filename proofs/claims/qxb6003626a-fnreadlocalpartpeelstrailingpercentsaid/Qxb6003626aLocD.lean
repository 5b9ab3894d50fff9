import Derived.Test.Qxb6003626aLocC
namespace Go.Proofs.Qxb6003626a.LocD
open Go.ChangeShapes Go.WideShapes Go.ChangeAt Go.RowKit QuoA LocP LocA LocB LocC
set_option linter.unusedVariables false

/-- How lastSinglePercent's two results tell the candidate. -/
def PRep (p : Option (Nat × List UInt8)) (pi : Int) (nm : ByteArray) : Prop :=
  match p with
  | none => nm = ⟨#[]⟩ ∧ -1 ≤ pi ∧ pi ≤ 4194304
  | some (i, n) => pi = i ∧ nm = ⟨n.toArray⟩

theorem hid {p : Prop} (h : p) : Hid p := h

theorem lastP_low (S : List UInt8) (l : Nat) : lastP S l l = none := by
  cases l with
  | zero => rfl
  | succ l => rw [lastP, if_pos (by omega)]

theorem yes37 {c : UInt8} (h : ((c.toNat : Int) == 37) = true) : c = 37 := by
  have := beq_iff_eq.1 h
  apply UInt8.toNat.inj
  show c.toNat = 37
  omega
theorem no37 {c : UInt8} (h : ((c.toNat : Int) == 37) = false) : c ≠ 37 := by
  rintro rfl
  exact absurd h (by decide)
theorem ne37 {c : UInt8} (h : ((c.toNat : Int) != 37) = true) : c ≠ 37 := by
  rintro rfl
  exact absurd h (by decide)
theorem eq37 {c : UInt8} (h : ((c.toNat : Int) != 37) = false) : c = 37 := by
  apply yes37
  simpa [bne] using h

theorem pct_no (s : ByteArray) (j : Nat) (hj : j < s.size) (h : ((s[j].toNat : Int) == 37) = false) : pctAt (L s) j = false := by
  unfold pctAt
  rw [L_getD s j hj, decide_eq_false (no37 h)]
  simp
theorem pct_no_prev (s : ByteArray) (j : Nat) (hj : j < s.size) (h0 : 1 ≤ j) (hm : j - 1 < s.size) (h : ((s[j - 1].toNat : Int) != 37) = false) : pctAt (L s) j = false := by
  unfold pctAt
  rw [L_getD s (j - 1) hm, eq37 h, decide_eq_false (by omega : ¬ j = 0)]
  simp
theorem pct_no_next (s : ByteArray) (j : Nat) (hj : j < s.size) (h1 : j + 1 < s.size) (h : ((s[j + 1].toNat : Int) != 37) = false) : pctAt (L s) j = false := by
  unfold pctAt
  rw [L_getD s (j + 1) h1, eq37 h, L_len, decide_eq_false (by omega : ¬ j + 1 = s.size)]
  simp
theorem pct_yes (s : ByteArray) (j : Nat) (hj : j < s.size) (h : ((s[j].toNat : Int) == 37) = true) (hm : j = 0 ∨ ∃ hm : j - 1 < s.size, ((s[j - 1].toNat : Int) != 37) = true) (hp : j + 1 = s.size ∨ ∃ hp : j + 1 < s.size, ((s[j + 1].toNat : Int) != 37) = true) : pctAt (L s) j = true := by
  unfold pctAt
  rw [L_getD s j hj, L_len]
  simp only [Bool.and_eq_true, Bool.or_eq_true, decide_eq_true_eq]
  refine ⟨⟨yes37 h, ?_⟩, ?_⟩
  · rcases hm with hm | ⟨hm, hc⟩
    · exact Or.inl hm
    · exact Or.inr (by rw [L_getD s _ hm]; exact ne37 hc)
  · rcases hp with hp | ⟨hp, hc⟩
    · exact Or.inl hp
    · exact Or.inr (by rw [L_getD s _ hp]; exact ne37 hc)

set_option maxHeartbeats 4000000 in
theorem pct_any (s : ByteArray) (l r : Nat) (w : World) (hs : s.size ≤ 4194304) (hlr : l ≤ r) (hr : r ≤ s.size) :
    Calls Try.prog 28 #[.string s, .int .i64 l, .int .i64 r] w fun e w' => (∃ (pi : Int) (nm : ByteArray), e = .returned (.tuple #[.int .i64 pi, .string nm]) ∧ PRep (lpct (L s) l r) pi nm) ∧ w' = w := by
  go_enter Try.func28, Try.ntmps28
  go_wp2
  go_loop [8, 9, 10] (fun i a b => ∃ k : Nat, l ≤ k ∧ k ≤ r ∧ i = .int .i64 ((k : Int) - 1) ∧ lastP (L s) l k = lastP (L s) l r) (fun i a b => (intOf i + 1).toNat)
  case atStart => exact ⟨r, hlr, Nat.le_refl _, rfl, rfl⟩
  case round =>
    obtain ⟨k, hk, hkr, rfl, hlast⟩ := hrel
    have HL : Hid _ := hlast
    clear hlast
    by_cases hlt : l < k
    · obtain ⟨j, rfl⟩ : ∃ j, k = j + 1 := ⟨k - 1, by omega⟩
      have ej : (((j + 1 : Nat) : Int) - 1) = (j : Int) := by omega
      rw [ej]
      clear ej
      have hj : j < s.size := by omega
      have K32 := hop_any (s.extract (j + 1) r) w (by rw [← L_len, L_extract, sub_len _ _ _ (by rw [L_len]; exact hr)]; omega)
      rw [L_extract] at K32
      cases c0 : ((s[j].toNat : Int) == 37) with
      | false =>
        have hp : pctAt (L s) j = false := pct_no s j hj c0
        have HF : Hid (lastP (L s) l j = lastP (L s) l r) := hid (by rw [← HL.out, lastP, if_neg (by omega), hp]; rfl)
        clear HL hp K32
        go_wp2
        go_round
        case rel => exact ⟨j, by omega, by omega, rfl, HF.out⟩
        case measure => first | (simp [intOf]; done) | (simp [intOf]; omega)
      | true =>
        cases e0 : ((j : Int) == 0) with
        | true =>
          cases en : (((j : Int) + 1) == (s.size : Int)) with
          | true =>
            have hp : pctAt (L s) j = true := pct_yes s j hj c0 (Or.inl (by have := beq_iff_eq.1 e0; omega)) (Or.inl (by have := beq_iff_eq.1 en; omega))
            have HS : Hid (lastP (L s) l r = some j) := hid (by rw [← HL.out, lastP, if_neg (by omega), if_pos hp])
            clear HL hp
            cases hh : isHopB (sub (L s) (j + 1) r) with
            | true =>
              rw [hh] at K32
              have HP : Hid (lpct (L s) l r = some (j, sub (L s) (j + 1) r)) := hid (by unfold lpct; rw [HS.out]; simp only; rw [if_pos hh])
              have HK : Hid _ := K32
              clear K32 hh HS
              go_wp2_with fail
              refine use HK.out ?_
              clear HK
              go_wp2
              go_ret2
              exact ⟨⟨_, _, rfl, by rw [HP.out]; exact ⟨rfl, Lib.extract_eq s (j + 1) r⟩⟩, rfl⟩
            | false =>
              rw [hh] at K32
              have HP : Hid (lpct (L s) l r = none) := hid (by unfold lpct; rw [HS.out]; simp only; rw [hh]; rfl)
              have HK : Hid _ := K32
              clear K32 hh HS
              go_wp2_with fail
              refine use HK.out ?_
              clear HK
              go_wp2
              go_ret2
              exact ⟨⟨_, _, rfl, by rw [HP.out]; exact ⟨rfl, by omega, by omega⟩⟩, rfl⟩
          | false =>
            have hj1 : j + 1 < s.size := by have := beq_eq_false_iff_ne.1 en; omega
            cases cp : ((s[j + 1].toNat : Int) != 37) with
            | true =>
              have hp : pctAt (L s) j = true := pct_yes s j hj c0 (Or.inl (by have := beq_iff_eq.1 e0; omega)) (Or.inr ⟨hj1, cp⟩)
              have HS : Hid (lastP (L s) l r = some j) := hid (by rw [← HL.out, lastP, if_neg (by omega), if_pos hp])
              clear HL hp
              cases hh : isHopB (sub (L s) (j + 1) r) with
              | true =>
                rw [hh] at K32
                have HP : Hid (lpct (L s) l r = some (j, sub (L s) (j + 1) r)) := hid (by unfold lpct; rw [HS.out]; simp only; rw [if_pos hh])
                have HK : Hid _ := K32
                clear K32 hh HS
                go_wp2_with fail
                refine use HK.out ?_
                clear HK
                go_wp2
                go_ret2
                exact ⟨⟨_, _, rfl, by rw [HP.out]; exact ⟨rfl, Lib.extract_eq s (j + 1) r⟩⟩, rfl⟩
              | false =>
                rw [hh] at K32
                have HP : Hid (lpct (L s) l r = none) := hid (by unfold lpct; rw [HS.out]; simp only; rw [hh]; rfl)
                have HK : Hid _ := K32
                clear K32 hh HS
                go_wp2_with fail
                refine use HK.out ?_
                clear HK
                go_wp2
                go_ret2
                exact ⟨⟨_, _, rfl, by rw [HP.out]; exact ⟨rfl, by omega, by omega⟩⟩, rfl⟩
            | false =>
              have hp : pctAt (L s) j = false := pct_no_next s j hj hj1 cp
              have HF : Hid (lastP (L s) l j = lastP (L s) l r) := hid (by rw [← HL.out, lastP, if_neg (by omega), hp]; rfl)
              clear HL hp K32
              go_wp2
              go_round
              case rel => exact ⟨j, by omega, by omega, rfl, HF.out⟩
              case measure => first | (simp [intOf]; done) | (simp [intOf]; omega)
        | false =>
          have hj0 : 1 ≤ j := by have := beq_eq_false_iff_ne.1 e0; omega
          have hjm : j - 1 < s.size := by omega
          cases cm : ((s[j - 1].toNat : Int) != 37) with
          | false =>
            have hp : pctAt (L s) j = false := pct_no_prev s j hj hj0 hjm cm
            have HF : Hid (lastP (L s) l j = lastP (L s) l r) := hid (by rw [← HL.out, lastP, if_neg (by omega), hp]; rfl)
            clear HL hp K32
            go_wp2
            go_round
            case rel => exact ⟨j, by omega, by omega, rfl, HF.out⟩
            case measure => first | (simp [intOf]; done) | (simp [intOf]; omega)
          | true =>
            cases en : (((j : Int) + 1) == (s.size : Int)) with
            | true =>
              have hp : pctAt (L s) j = true := pct_yes s j hj c0 (Or.inr ⟨hjm, cm⟩) (Or.inl (by have := beq_iff_eq.1 en; omega))
              have HS : Hid (lastP (L s) l r = some j) := hid (by rw [← HL.out, lastP, if_neg (by omega), if_pos hp])
              clear HL hp
              cases hh : isHopB (sub (L s) (j + 1) r) with
              | true =>
                rw [hh] at K32
                have HP : Hid (lpct (L s) l r = some (j, sub (L s) (j + 1) r)) := hid (by unfold lpct; rw [HS.out]; simp only; rw [if_pos hh])
                have HK : Hid _ := K32
                clear K32 hh HS
                go_wp2_with fail
                refine use HK.out ?_
                clear HK
                go_wp2
                go_ret2
                exact ⟨⟨_, _, rfl, by rw [HP.out]; exact ⟨rfl, Lib.extract_eq s (j + 1) r⟩⟩, rfl⟩
              | false =>
                rw [hh] at K32
                have HP : Hid (lpct (L s) l r = none) := hid (by unfold lpct; rw [HS.out]; simp only; rw [hh]; rfl)
                have HK : Hid _ := K32
                clear K32 hh HS
                go_wp2_with fail
                refine use HK.out ?_
                clear HK
                go_wp2
                go_ret2
                exact ⟨⟨_, _, rfl, by rw [HP.out]; exact ⟨rfl, by omega, by omega⟩⟩, rfl⟩
            | false =>
              have hj1 : j + 1 < s.size := by have := beq_eq_false_iff_ne.1 en; omega
              cases cp : ((s[j + 1].toNat : Int) != 37) with
              | true =>
                have hp : pctAt (L s) j = true := pct_yes s j hj c0 (Or.inr ⟨hjm, cm⟩) (Or.inr ⟨hj1, cp⟩)
                have HS : Hid (lastP (L s) l r = some j) := hid (by rw [← HL.out, lastP, if_neg (by omega), if_pos hp])
                clear HL hp
                cases hh : isHopB (sub (L s) (j + 1) r) with
                | true =>
                  rw [hh] at K32
                  have HP : Hid (lpct (L s) l r = some (j, sub (L s) (j + 1) r)) := hid (by unfold lpct; rw [HS.out]; simp only; rw [if_pos hh])
                  have HK : Hid _ := K32
                  clear K32 hh HS
                  go_wp2_with fail
                  refine use HK.out ?_
                  clear HK
                  go_wp2
                  go_ret2
                  exact ⟨⟨_, _, rfl, by rw [HP.out]; exact ⟨rfl, Lib.extract_eq s (j + 1) r⟩⟩, rfl⟩
                | false =>
                  rw [hh] at K32
                  have HP : Hid (lpct (L s) l r = none) := hid (by unfold lpct; rw [HS.out]; simp only; rw [hh]; rfl)
                  have HK : Hid _ := K32
                  clear K32 hh HS
                  go_wp2_with fail
                  refine use HK.out ?_
                  clear HK
                  go_wp2
                  go_ret2
                  exact ⟨⟨_, _, rfl, by rw [HP.out]; exact ⟨rfl, by omega, by omega⟩⟩, rfl⟩
              | false =>
                have hp : pctAt (L s) j = false := pct_no_next s j hj hj1 cp
                have HF : Hid (lastP (L s) l j = lastP (L s) l r) := hid (by rw [← HL.out, lastP, if_neg (by omega), hp]; rfl)
                clear HL hp K32
                go_wp2
                go_round
                case rel => exact ⟨j, by omega, by omega, rfl, HF.out⟩
                case measure => first | (simp [intOf]; done) | (simp [intOf]; omega)
    · obtain rfl : k = l := by omega
      go_wp2
      go_ret2
      refine ⟨⟨_, _, rfl, ?_⟩, rfl⟩
      unfold lpct
      rw [← HL.out, lastP_low]
      exact ⟨rfl, by omega, by omega⟩
end Go.Proofs.Qxb6003626a.LocD
