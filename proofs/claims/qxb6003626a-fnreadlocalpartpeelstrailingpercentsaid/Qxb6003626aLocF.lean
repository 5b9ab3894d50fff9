import Derived.Test.Qxb6003626aLocE
import Derived.Test.Qxb6003626aLocQ
namespace Go.Proofs.Qxb6003626a.LocF
open Go.ChangeShapes Go.WideShapes Go.ChangeAt Go.RowKit QuoA LocP LocA LocB LocC LocD LocE LocQ
set_option linter.unusedVariables false

theorem zzlocal_any (s : ByteArray) (pf : Bool) (w : World) (hs : s.size ≤ 4194304) :
    Calls Try.prog 14 #[.string s, .bool pf, .slice none 0 0] w fun e w' => (∃ v, e = .returned (.tuple #[v, .string (mkB (total pf (L s)).2)]) ∧ w'.ownsRow w.heap.size 31 2 v (total pf (L s)).1.length (hcells (total pf (L s)).1)) ∧ Below w.heap.size w w' := by
  have k := local_any s pf w hs
  have K : Hid _ := k
  clear k
  go_enter Try.func14, Try.ntmps14
  go_wp2_with fail
  refine (Calls.mono K.out) ?_
  rintro e w1 ⟨⟨v, rfl, hown⟩, hb⟩
  clear K
  go_wp2
  go_ret2
  exact ⟨⟨_, rfl, hown⟩, hb⟩

theorem hcells_get (t : List (List UInt8 × List UInt8)) : ∀ (i : Nat) (h : i < t.length), (hcells t)[i * 2]? = some (.string (mkB t[i].1)) ∧ (hcells t)[i * 2 + 1]? = some (.string (mkB t[i].2)) := by
  induction t with
  | nil => intro i h; simp at h
  | cons a t ih =>
    intro i h
    cases i with
    | zero => simp [hcells]
    | succ i =>
      have := ih i (by simpa using h)
      simp only [hcells, List.getElem_cons_succ]
      rw [show (i + 1) * 2 = i * 2 + 1 + 1 by omega]
      simpa using this

/-- What is told of a slice of hops. -/
def Rd (w : World) (ao : Option Addr) (t : List (List UInt8 × List UInt8)) : Prop :=
  0 < t.length → ∃ g, ao = some ⟨g, 0, none⟩ ∧ ∀ (i : Nat) (h : i < t.length), w.cell? ⟨g, i * 2, none⟩ = some (.string (mkB t[i].1)) ∧ w.cell? ⟨g, i * 2 + 1, none⟩ = some (.string (mkB t[i].2))

theorem rd_of {w : World} {B : Nat} {v : Value} {t : List (List UInt8 × List UInt8)} (h : w.ownsRow B 31 2 v t.length (hcells t)) : ∃ ao cap, v = .slice ao t.length cap ∧ t.length ≤ cap ∧ cap ≤ maxLen ∧ Rd w ao t := by
  rcases h.2 with ⟨rfl, h0⟩ | ⟨g, cap, cur, rfl, _, _, hc, hm, _⟩
  · exact ⟨none, 0, by rw [h0], by omega, Nat.zero_le _, fun h => by omega⟩
  · refine ⟨_, cap, rfl, hc, hm, fun _ => ⟨g, rfl, fun i hi => ?_⟩⟩
    have := hcells_get t i hi
    rw [h.cellAt (i * 2) (by omega), h.cellAt (i * 2 + 1) (by omega)]
    exact this
theorem rd_below {w w' : World} {ao : Option Addr} {t : List (List UInt8 × List UInt8)} (h : Rd w ao t) (hb : Below w.heap.size w w') : Rd w' ao t := by
  intro h0
  obtain ⟨g, e, hc⟩ := h h0
  refine ⟨g, e, fun i hi => ?_⟩
  have h1 := hc i hi
  rw [hb.cell (World.block_lt_of_cell? w _ h1.1), hb.cell (World.block_lt_of_cell? w _ h1.2)]
  exact h1

theorem L_app (a b : ByteArray) : L (a ++ b) = L a ++ L b := by
  unfold L
  obtain ⟨⟨x⟩⟩ := a
  obtain ⟨⟨y⟩⟩ := b
  rw [ByteArray.mk_append_mk]
theorem mk_L (s : ByteArray) : mkB (L s) = s := Lib.mk_data s

set_option maxHeartbeats 8000000 in
theorem bang_on (h s : ByteArray) (w : World) (hf : fits2 h.size s.size = true) (h0 : h.size ≤ 262144) (h1 : s.size ≤ 262144) (hu : uuB h = true) (hne : 0 < s.size) :
    Calls Try.prog 5 #[.string h, .string s] w fun e w' => e = .returned (.bool true) ∧ Below w.heap.size w w' := by
  have mx : maxLen = 9223372036854775807 := rfl
  have k12 := zzBytes12 h s w (by omega) (by omega)
  have k13 := uucp_any h w (by omega)
  rw [hf] at k12
  rw [hu] at k13
  have hse : s.toList.isEmpty = false := by
    rw [Lib.toList_data]
    cases hh : s.data.toList with
    | nil => exact absurd (by rw [← L_len]; unfold L; rw [hh]; rfl) (by omega : ¬ s.size = 0)
    | cons a l => rfl
  have eW : L (h ++ ⟨#[33]⟩ ++ s) = L h ++ 33 :: L s := by rw [L_app, L_app]; simp [L]
  have hW : (h ++ ⟨#[33]⟩ ++ s).size ≤ 4194304 := by rw [← L_len, eW]; simp [L_len]; omega
  have law : total false (L h ++ 33 :: L s) = ((L h, uucp) :: (total false (L s)).1, (total false (L s)).2) := by
    unfold uuB at hu
    simp only [Bool.and_eq_true] at hu
    refine bang_law (L h) (L s) (by intro e; rw [e] at hu; simp at hu) (fun c hc => ?_) (L_ne hne)
    have := List.all_eq_true.1 hu.2 c hc
    unfold uucpB at this
    simp at this
    exact ⟨this.1, fun e => this.2 (by rw [e]; rfl)⟩
  have k14w := zzlocal_any (h ++ ⟨#[33]⟩ ++ s) false w hW
  rw [eW, law] at k14w
  have k14p := fun wx => zzlocal_any s false wx (by omega)
  generalize total false (L s) = t at k14w k14p
  obtain ⟨t1, t2⟩ := t
  have K12 : Hid _ := k12
  have K13 : Hid _ := k13
  have K14w : Hid _ := k14w
  have K14p : Hid _ := k14p
  clear k12 k13 k14w k14p eW hW law mx hu hf
  go_enter Try.func5, Try.ntmps5
  go_wp2_with fail
  refine use K12.out ?_
  go_wp2_with fail
  refine use K13.out ?_
  clear K12 K13
  go_wp2_with fail
  refine (Calls.mono K14w.out) ?_
  rintro e w1 ⟨⟨v, rfl, hown⟩, b1⟩
  obtain ⟨ao, cap, rfl, hcap, hcm, hrd⟩ := rd_of hown
  obtain ⟨g, rfl, hx⟩ := hrd (by simp)
  clear K14w hown hx
  go_wp2_with fail
  refine (Calls.mono (K14p.out _)) ?_
  rintro e w2 ⟨⟨v', rfl, hown'⟩, b2⟩
  obtain ⟨ao', cap', rfl, hcap', hcm', hrd'⟩ := rd_of hown'
  clear hcm'
  obtain ⟨g2, hg2, hc⟩ := rd_below hrd b2 (by simp)
  obtain rfl : g2 = g := by simpa using hg2.symm
  have b3 := b1.trans (b2.mono b1.size)
  have c00 := (hc 0 (by simp)).1
  have c01 : w2.cell? ⟨g2, 0 * 2 + 1, none⟩ = some (.string ⟨#[117, 117, 99, 112]⟩) := (hc 0 (by simp)).2
  have cn : ∀ (i : Nat) (hi : i < t1.length), w2.cell? ⟨g2, (i + 1) * 2, none⟩ = some (.string (mkB t1[i].1)) ∧ w2.cell? ⟨g2, (i + 1) * 2 + 1, none⟩ = some (.string (mkB t1[i].2)) := fun i hi => hc (i + 1) (by simpa using hi)
  simp only [List.getElem_cons_zero, mk_L, Nat.zero_mul, Nat.zero_add] at c00 c01
  simp only [List.length_cons] at hcap
  unfold maxLen at hcm
  have HN : Hid _ := cn
  have HP : Hid _ := hrd'
  clear hown' b1 b2 hc hrd hrd' hg2 K14p cn
  have hlen : t1.length + 1 ≤ 9223372036854775807 := by omega
  clear hcm
  go_wp2
  go_loopw [9] (fun i wr => ∃ k : Nat, k ≤ t1.length ∧ i = .int .i64 k ∧ ∃ q, wr = w2.drewN q) (fun i wr => t1.length - (intOf i).toNat)
  case atStart => exact ⟨0, Nat.zero_le _, rfl, 0, rfl⟩
  case round =>
    obtain ⟨k, hk, rfl, q, rfl⟩ := hrel
    by_cases hlt : k < t1.length
    · obtain ⟨g', rfl, hc'⟩ := HP.out (by omega)
      have n0 := (HN.out k hlt).1
      have n1 := (HN.out k hlt).2
      have p0 := (hc' k hlt).1
      have p1 := (hc' k hlt).2
      clear hc' HN HP
      generalize mkB t1[k].fst = A at n0 p0
      generalize mkB t1[k].snd = Bx at n1 p1
      go_wp2_with fail
      go_quiet (fail)
      go_wp2
      go_roundw
      case rel => exact ⟨k + 1, by omega, by go_num, _, rfl⟩
      case measure => simp [intOf]; omega
    · go_wp2
      go_ret
      exact ⟨rfl, b3.trans ⟨rfl, rfl, rfl, Nat.le_refl _, fun _ _ => rfl⟩⟩

set_option maxHeartbeats 2000000 in
theorem peel_bang (h s : ByteArray) (w : World) (w0 : h.size ≤ maxLen) (w1 : s.size ≤ maxLen) :
    Calls Try.prog 5 #[.string h, .string s] w fun e w' => e = .returned (.bool true) ∧ Below w.heap.size w w' := by
  have k12 := zzBytes12 h s w w0 w1
  have k13 := uucp_any h w w0
  cases hf : fits2 h.size s.size with
  | false =>
    rw [hf] at k12
    have K12 : Hid _ := k12
    clear k12 k13 hf
    go_enter Try.func5, Try.ntmps5
    go_wp2_with fail
    refine use K12.out ?_
    go_wp2
    go_ret
    exact ⟨rfl, Below.refl _ _⟩
  | true =>
    by_cases h0 : h.size ≤ 262144
    · by_cases h1 : s.size ≤ 262144
      · cases hu : uuB h with
        | false =>
          rw [hf] at k12
          rw [hu] at k13
          have K12 : Hid _ := k12
          have K13 : Hid _ := k13
          clear k12 k13 hf hu w0 w1
          go_enter Try.func5, Try.ntmps5
          go_wp2_with fail
          refine use K12.out ?_
          go_wp2_with fail
          refine use K13.out ?_
          go_wp2
          go_ret
          exact ⟨rfl, Below.refl _ _⟩
        | true =>
          by_cases hz : s.size = 0
          · rw [hf] at k12
            rw [hu] at k13
            obtain rfl := empty_eq s hz
            have K12 : Hid _ := k12
            have K13 : Hid _ := k13
            clear k12 k13 hf hu w0 w1 hz h1
            go_enter Try.func5, Try.ntmps5
            go_wp2_with fail
            refine use K12.out ?_
            go_wp2_with fail
            refine use K13.out ?_
            go_wp2
            go_ret
            exact ⟨rfl, Below.refl _ _⟩
          · exact bang_on h s w hf h0 h1 hu (by omega)
      · rw [hf] at k12
        have K12 : Hid _ := k12
        clear k12 k13 hf
        unfold maxLen at *
        go_enter Try.func5, Try.ntmps5
        go_wp2_with fail
        refine use K12.out ?_
        go_wp2
        go_ret
        exact ⟨rfl, Below.refl _ _⟩
    · rw [hf] at k12
      have K12 : Hid _ := k12
      clear k12 k13 hf
      unfold maxLen at *
      go_enter Try.func5, Try.ntmps5
      go_wp2_with fail
      refine use K12.out ?_
      go_wp2
      go_ret
      exact ⟨rfl, Below.refl _ _⟩
end Go.Proofs.Qxb6003626a.LocF
