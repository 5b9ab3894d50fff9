import Derived.Test.Qxb6003626aLocF
namespace Go.Proofs.Qxb6003626a.LocG
open Go.ChangeShapes Go.WideShapes Go.ChangeAt Go.RowKit QuoA LocP LocA LocB LocC LocD LocE LocF LocQ
set_option linter.unusedVariables false

set_option maxHeartbeats 8000000 in
theorem pct_on (s d : ByteArray) (w : World) (hf : fits2 s.size d.size = true) (h0 : s.size ≤ 262144) (h1 : d.size ≤ 262144) (hne : 0 < s.size) (hlt : s.size - 1 < s.size) (hlast : ((s[s.size - 1].toNat : Int) == 37) = false) (hu : dnB d = true) :
    Calls Try.prog 6 #[.string s, .string d] w fun e w' => e = .returned (.bool true) ∧ Below w.heap.size w w' := by
  have mx : maxLen = 9223372036854775807 := rfl
  have k12 := zzBytes15 s d w (by omega) (by omega)
  have k13 := domain_any d w (by omega)
  rw [hf] at k12
  rw [hu] at k13
  have hse : s.toList.isEmpty = false := by
    rw [Lib.toList_data]
    cases hh : s.data.toList with
    | nil => exact absurd (by rw [← L_len]; unfold L; rw [hh]; rfl) (by omega : ¬ s.size = 0)
    | cons a l => rfl
  have eW : L (s ++ ⟨#[37]⟩ ++ d) = L s ++ 37 :: L d := by rw [L_app, L_app]; simp [L]
  have hW : (s ++ ⟨#[37]⟩ ++ d).size ≤ 4194304 := by rw [← L_len, eW]; simp [L_len]; omega
  have law : total true (L s ++ 37 :: L d) = ((L d, dom) :: (total true (L s)).1, (total true (L s)).2) := by
    unfold dnB at hu
    simp only [Bool.and_eq_true] at hu
    refine pct_law (L s) (L d) (L_ne hne) (by rw [L_len, L_getD s _ hlt]; exact no37 hlast) (by intro e; rw [e] at hu; simp at hu) (fun c hc => List.all_eq_true.1 hu.2 c hc)
  have k14w := zzlocal_any (s ++ ⟨#[37]⟩ ++ d) true w hW
  rw [eW, law] at k14w
  have k14p := fun wx => zzlocal_any s true wx (by omega)
  generalize total true (L s) = t at k14w k14p
  obtain ⟨t1, t2⟩ := t
  have K12 : Hid _ := k12
  have K13 : Hid _ := k13
  have K14w : Hid _ := k14w
  have K14p : Hid _ := k14p
  clear k12 k13 k14w k14p eW hW law mx hu hf
  go_enter Try.func6, Try.ntmps6
  go_wp2_with fail
  refine use K12.out ?_
  go_wp2_with fail
  refine use K13.out ?_
  clear K12 K13
  go_wp2_with fail
  refine (Calls.mono K14w.out) ?_
  rintro e w1 ⟨⟨v, rfl, hown⟩, b1⟩
  obtain ⟨ao, cap, rfl, hcap, hcm, hrd⟩ := rd_of hown
  obtain ⟨g, rfl, hx⟩ := hrd (by simp)
  clear K14w hown hx
  go_wp2_with fail
  refine (Calls.mono (K14p.out _)) ?_
  rintro e w2 ⟨⟨v', rfl, hown'⟩, b2⟩
  obtain ⟨ao', cap', rfl, hcap', hcm', hrd'⟩ := rd_of hown'
  clear hcm'
  obtain ⟨g2, hg2, hc⟩ := rd_below hrd b2 (by simp)
  obtain rfl : g2 = g := by simpa using hg2.symm
  have b3 := b1.trans (b2.mono b1.size)
  have c00 := (hc 0 (by simp)).1
  have c01 : w2.cell? ⟨g2, 0 * 2 + 1, none⟩ = some (.string ⟨#[100, 111, 109, 97, 105, 110]⟩) := (hc 0 (by simp)).2
  have cn : ∀ (i : Nat) (hi : i < t1.length), w2.cell? ⟨g2, (i + 1) * 2, none⟩ = some (.string (mkB t1[i].1)) ∧ w2.cell? ⟨g2, (i + 1) * 2 + 1, none⟩ = some (.string (mkB t1[i].2)) := fun i hi => hc (i + 1) (by simpa using hi)
  simp only [List.getElem_cons_zero, mk_L, Nat.zero_mul, Nat.zero_add] at c00 c01
  simp only [List.length_cons] at hcap
  unfold maxLen at hcm
  have HN : Hid _ := cn
  have HP : Hid _ := hrd'
  clear hown' b1 b2 hc hrd hrd' hg2 K14p cn
  have hlen : t1.length + 1 ≤ 9223372036854775807 := by omega
  clear hcm
  go_wp2
  go_loopw [9] (fun i wr => ∃ k : Nat, k ≤ t1.length ∧ i = .int .i64 k ∧ ∃ q, wr = w2.drewN q) (fun i wr => t1.length - (intOf i).toNat)
  case atStart => exact ⟨0, Nat.zero_le _, rfl, 0, rfl⟩
  case round =>
    obtain ⟨k, hk, rfl, q, rfl⟩ := hrel
    by_cases hlt : k < t1.length
    · obtain ⟨g', rfl, hc'⟩ := HP.out (by omega)
      have n0 := (HN.out k hlt).1
      have n1 := (HN.out k hlt).2
      have p0 := (hc' k hlt).1
      have p1 := (hc' k hlt).2
      clear hc' HN HP
      generalize mkB t1[k].fst = A at n0 p0
      generalize mkB t1[k].snd = Bx at n1 p1
      go_wp2_with fail
      go_quiet (fail)
      go_wp2
      go_roundw
      case rel => exact ⟨k + 1, by omega, by go_num, _, rfl⟩
      case measure => simp [intOf]; omega
    · go_wp2
      go_ret
      exact ⟨rfl, b3.trans ⟨rfl, rfl, rfl, Nat.le_refl _, fun _ _ => rfl⟩⟩

set_option maxHeartbeats 2000000 in
theorem peel_pct (s d : ByteArray) (w : World) (w0 : s.size ≤ maxLen) (w1 : d.size ≤ maxLen) :
    Calls Try.prog 6 #[.string s, .string d] w fun e w' => e = .returned (.bool true) ∧ Below w.heap.size w w' := by
  have k12 := zzBytes15 s d w w0 w1
  have k13 := domain_any d w w1
  cases hf : fits2 s.size d.size with
  | false =>
    rw [hf] at k12
    have K12 : Hid _ := k12
    clear k12 k13 hf
    go_enter Try.func6, Try.ntmps6
    go_wp2_with fail
    refine use K12.out ?_
    go_wp2
    go_ret
    exact ⟨rfl, Below.refl _ _⟩
  | true =>
    by_cases h0 : s.size ≤ 262144
    · by_cases h1 : d.size ≤ 262144
      · by_cases hz : s.size = 0
        · rw [hf] at k12
          obtain rfl := empty_eq s hz
          have K12 : Hid _ := k12
          clear k12 k13 hf w0 w1 hz h0
          go_enter Try.func6, Try.ntmps6
          go_wp2_with fail
          refine use K12.out ?_
          go_wp2
          go_ret
          exact ⟨rfl, Below.refl _ _⟩
        · have hse : s.toList.isEmpty = false := by
            rw [Lib.toList_data]
            cases hh : s.data.toList with
            | nil => exact absurd (by rw [← L_len]; unfold L; rw [hh]; rfl) hz
            | cons a l => rfl
          have hne : 0 < s.size := by omega
          have hlt : s.size - 1 < s.size := by omega
          cases hl : ((s[s.size - 1].toNat : Int) == 37) with
          | true =>
            rw [hf] at k12
            have K12 : Hid _ := k12
            clear k12 k13 hf w0 w1 hz
            go_enter Try.func6, Try.ntmps6
            go_wp2_with fail
            refine use K12.out ?_
            go_wp2
            go_ret
            exact ⟨rfl, Below.refl _ _⟩
          | false =>
            cases hu : dnB d with
            | false =>
              rw [hf] at k12
              rw [hu] at k13
              have K12 : Hid _ := k12
              have K13 : Hid _ := k13
              clear k12 k13 hf w0 w1 hz hu
              go_enter Try.func6, Try.ntmps6
              go_wp2_with fail
              refine use K12.out ?_
              go_wp2_with fail
              refine use K13.out ?_
              go_wp2
              go_ret
              exact ⟨rfl, Below.refl _ _⟩
            | true => exact pct_on s d w hf h0 h1 hne hlt hl hu
      · rw [hf] at k12
        have K12 : Hid _ := k12
        clear k12 k13 hf
        unfold maxLen at *
        go_enter Try.func6, Try.ntmps6
        go_wp2_with fail
        refine use K12.out ?_
        go_wp2
        go_ret
        exact ⟨rfl, Below.refl _ _⟩
    · rw [hf] at k12
      have K12 : Hid _ := k12
      clear k12 k13 hf
      unfold maxLen at *
      go_enter Try.func6, Try.ntmps6
      go_wp2_with fail
      refine use K12.out ?_
      go_wp2
      go_ret
      exact ⟨rfl, Below.refl _ _⟩
end Go.Proofs.Qxb6003626a.LocG
