import Derived.Test.Qxb6600482aEndB
namespace Go.Proofs.Qxb6600482a.EndC
open Go.ChangeShapes Go.WideShapes Go.ChangeAt Go.RowKit EndP EndA EndB
set_option linter.unusedVariables false

theorem zzend_any (g n c i : Nat) (zs q r : List Int) (w : World) (hn : n ≤ 4194304) (hz : zs.length = n) (hcell : ∀ i, i < n → w.cell? ⟨g, i, none⟩ = some (.int .u8 (zs.getD i 0))) (hq : zs.drop (i + 1) = q ++ 34 :: r) (hb : body false q = true) :
    Calls Try.prog 11 #[.slice (some ⟨g, 0, none⟩) n c, .int .i64 i] w fun e w' => e = .returned (.int .i64 (i + 2 + q.length : Nat)) ∧ w' = w := by
  have k := end_any g n c i zs q r w hn hz hcell hq hb
  have K : Hid _ := k
  clear k hcell hq hb hz
  go_enter Try.func11, Try.ntmps11
  go_wp2_with fail
  refine use K.out ?_
  go_wp2
  go_ret
  exact ⟨rfl, rfl⟩

theorem zzvalue_any (g n c i : Nat) (zs q r : List Int) (w : World) (hn : n ≤ 4194304) (hz : zs.length = n) (hcell : ∀ i, i < n → w.cell? ⟨g, i, none⟩ = some (.int .u8 (zs.getD i 0))) (h34 : zs.getD i 0 = 34) (hi : i < n) (hq : zs.drop (i + 1) = q ++ 34 :: r) (hb : body false q = true) :
    Calls Try.prog 15 #[.slice (some ⟨g, 0, none⟩) n c, .int .i64 i] w fun e w' => e = .returned (.int .i64 (i + 2 + q.length : Nat)) ∧ w' = w := by
  have k := end_any g n c i zs q r w hn hz hcell hq hb
  have K : Hid _ := k
  have hc := hcell i hi
  rw [h34] at hc
  have k23 : Calls Try.prog 23 #[.slice (some ⟨g, 0, none⟩) n c, .int .i64 i] w fun e w' => e = .returned (.int .i64 (i + 2 + q.length : Nat)) ∧ w' = w := by
    clear k hcell hq hb hz h34
    go_enter Try.func23, Try.ntmps23
    go_wp2_with fail
    refine use K.out ?_
    go_wp2
    go_ret
    exact ⟨rfl, rfl⟩
  have K23 : Hid _ := k23
  clear k hcell hq hb hz h34 K k23 hc
  go_enter Try.func15, Try.ntmps15
  go_wp2_with fail
  refine use K23.out ?_
  go_wp2
  go_ret
  exact ⟨rfl, rfl⟩

set_option maxHeartbeats 4000000 in
theorem found_on (p0 p1 p2 : Option Addr) (n0 n1 n2 c0 c1 c2 : Nat) (xs0 xs1 xs2 : List Int) (w : World) (hf : fits3 n0 n1 n2 = true) (h0 : n0 ≤ 65536) (h1 : n1 ≤ 65536) (h2 : n2 ≤ 65536) (A0 : Arg w p0 n0 c0 xs0) (A1 : Arg w p1 n1 c1 xs1) (A2 : Arg w p2 n2 c2 xs2) :
    Calls Try.prog 4 #[.slice p0 n0 c0, .slice p1 n1 c1, .slice p2 n2 c2] w fun e w' => e = .returned (.bool true) ∧ Below w.heap.size w w' := by
  have mx : maxLen = 9223372036854775807 := rfl
  have k13 := zzBytes3 p0 p1 p2 n0 n1 n2 c0 c1 c2 w (by omega) (by omega) (by omega)
  rw [hf] at k13
  have K13 : Hid _ := k13
  clear k13 hf mx
  go_enter Try.func4, Try.ntmps4
  go_wp2_with fail
  refine use K13.out ?_
  clear K13
  go_wp2_with fail
  refine (clone_any p0 n0 c0 xs0 _ (by omega) A0).mono ?_
  rintro e w1 ⟨⟨q0, d0, rfl, B0⟩, b1⟩
  go_wp2_with fail
  refine (clone_any p1 n1 c1 xs1 _ (by omega) (A1.below b1)).mono ?_
  rintro e w2 ⟨⟨q1, d1, rfl, B1⟩, b2⟩
  go_wp2_with fail
  refine (clone_any p2 n2 c2 xs2 _ (by omega) ((A2.below b1).below b2)).mono ?_
  rintro e w3 ⟨⟨q2, d2, rfl, B2⟩, b3⟩
  have bb3 := (b1.trans (b2.mono b1.size)).trans (b3.mono (b1.trans (b2.mono b1.size)).size)
  go_wp2_with fail
  refine (encode_any q0 q1 q2 n0 n1 n2 d0 d1 d2 xs0 xs1 xs2 _ h0 h1 h2 ((B0.below b2).below b3) (B1.below b3) B2).mono ?_
  rintro e w4 ⟨⟨n, c, rfl, hn, hn2, hcell⟩, b4⟩
  have bb4 := bb3.trans (b4.mono bb3.size)
  have e0 : xs0.length = n0 := A0.len
  have e2 : xs2.length = n2 := A2.len
  have hdrop : (coded xs0 xs1 xs2).drop (n0 + 1) = enc xs1 ++ 34 :: xs2 := by
    unfold coded
    rw [← e0, show xs0 ++ 34 :: (enc xs1 ++ 34 :: xs2) = (xs0 ++ [34]) ++ (enc xs1 ++ 34 :: xs2) by simp]
    rw [List.drop_append_of_le_length (by simp)]
    simp
  have h34 : (coded xs0 xs1 xs2).getD n0 0 = 34 := by unfold coded; rw [← e0]; simp [List.getD_eq_getElem?_getD]
  have hlen : n = n0 + 2 + (enc xs1).length + n2 := by rw [hn, ← e0, ← e2]; unfold coded; simp; omega
  have k11 := zzend_any w3.heap.size n c n0 (coded xs0 xs1 xs2) (enc xs1) xs2 w4 (by omega) hn.symm hcell hdrop (enc_body xs1)
  have k15 := zzvalue_any w3.heap.size n c n0 (coded xs0 xs1 xs2) (enc xs1) xs2 w4 (by omega) hn.symm hcell h34 (by omega) hdrop (enc_body xs1)
  have ew : ((n0 + 2 + (enc xs1).length : Nat) : Int) = (n : Int) - (n2 : Int) := by omega
  rw [ew] at k11 k15
  have K11 : Hid _ := k11
  have K15 : Hid _ := k15
  have hnn : n2 ≤ n := by omega
  have eqq : (((n : Int) - (n2 : Int)) == (n : Int) - (n2 : Int)) = true := beq_iff_eq.2 rfl
  clear k11 k15 hcell hdrop h34 hlen ew hn e0 e2 bb3 b1 b2 b3 b4 A0 A1 A2 B0 B1 B2
  go_wp2_with fail
  refine use K11.out ?_
  go_wp2_with fail
  refine use K15.out ?_
  clear K11 K15
  go_wp2
  go_ret
  exact ⟨rfl, bb4⟩

set_option maxHeartbeats 2000000 in
theorem found_any (p0 p1 p2 : Option Addr) (n0 n1 n2 c0 c1 c2 : Nat) (xs0 xs1 xs2 : List Int) (w : World) (m0 : n0 ≤ maxLen) (m1 : n1 ≤ maxLen) (m2 : n2 ≤ maxLen) (A0 : Arg w p0 n0 c0 xs0) (A1 : Arg w p1 n1 c1 xs1) (A2 : Arg w p2 n2 c2 xs2) :
    Calls Try.prog 4 #[.slice p0 n0 c0, .slice p1 n1 c1, .slice p2 n2 c2] w fun e w' => e = .returned (.bool true) ∧ Below w.heap.size w w' := by
  have k13 := zzBytes3 p0 p1 p2 n0 n1 n2 c0 c1 c2 w m0 m1 m2
  cases hf : fits3 n0 n1 n2 with
  | false =>
    rw [hf] at k13
    have K13 : Hid _ := k13
    clear k13 hf A0 A1 A2
    go_enter Try.func4, Try.ntmps4
    go_wp2_with fail
    refine use K13.out ?_
    go_wp2
    go_ret
    exact ⟨rfl, Below.refl _ _⟩
  | true =>
    by_cases h0 : n0 ≤ 65536
    · by_cases h1 : n1 ≤ 65536
      · by_cases h2 : n2 ≤ 65536
        · exact found_on p0 p1 p2 n0 n1 n2 c0 c1 c2 xs0 xs1 xs2 w hf h0 h1 h2 A0 A1 A2
        · rw [hf] at k13
          have K13 : Hid _ := k13
          clear k13 hf A0 A1 A2
          unfold maxLen at *
          go_enter Try.func4, Try.ntmps4
          go_wp2_with fail
          refine use K13.out ?_
          go_wp2
          go_ret
          exact ⟨rfl, Below.refl _ _⟩
      · rw [hf] at k13
        have K13 : Hid _ := k13
        clear k13 hf A0 A1 A2
        unfold maxLen at *
        go_enter Try.func4, Try.ntmps4
        go_wp2_with fail
        refine use K13.out ?_
        go_wp2
        go_ret
        exact ⟨rfl, Below.refl _ _⟩
    · rw [hf] at k13
      have K13 : Hid _ := k13
      clear k13 hf A0 A1 A2
      unfold maxLen at *
      go_enter Try.func4, Try.ntmps4
      go_wp2_with fail
      refine use K13.out ?_
      go_wp2
      go_ret
      exact ⟨rfl, Below.refl _ _⟩
end Go.Proofs.Qxb6600482a.EndC
