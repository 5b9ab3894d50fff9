import Derived.Test.Qxb6604580aReqD
namespace Go.Proofs.Qxb6604580a.ReqE
open Go.ChangeShapes Go.WideShapes Go.ChangeAt Go.RowKit ReqA ReqB ReqC ReqD
set_option linter.unusedVariables false

set_option maxHeartbeats 400000 in
theorem no_fits (a0 a1 a2 a3 : Option Addr) (l0 l1 l2 l3 c0 c1 c2 c3 : Nat) (m t v r : List Int) (w : World) (A0 : Arg w a0 l0 c0 m) (A1 : Arg w a1 l1 c1 t) (A2 : Arg w a2 l2 c2 v) (A3 : Arg w a3 l3 c3 r) (M0 : l0 ≤ maxLen) (M1 : l1 ≤ maxLen) (M2 : l2 ≤ maxLen) (M3 : l3 ≤ maxLen) (hf : fits l0 l1 l2 l3 = false) :
    Calls Try.prog 3 #[.slice a0 l0 c0, .slice a1 l1 c1, .slice a2 l2 c2, .slice a3 l3 c3] w fun e w' => e = .returned (.bool true) ∧ Below w.heap.size w w' := by
  have k4 := zzBytes_any a0 a1 a2 a3 l0 l1 l2 l3 c0 c1 c2 c3 w M0 M1 M2 M3
  rw [hf] at k4
  have K4 : Hid _ := k4; clear k4 hf
  clear A0 A1 A2 A3
  go_enter Try.func3, Try.ntmps3
  go_wp2_with fail
  refine use K4.out ?_
  go_wp2
  go_ret
  exact ⟨rfl, Below.refl _ _⟩

set_option maxHeartbeats 400000 in
theorem no_len0 (a0 a1 a2 a3 : Option Addr) (l0 l1 l2 l3 c0 c1 c2 c3 : Nat) (m t v r : List Int) (w : World) (A0 : Arg w a0 l0 c0 m) (A1 : Arg w a1 l1 c1 t) (A2 : Arg w a2 l2 c2 v) (A3 : Arg w a3 l3 c3 r) (M0 : l0 ≤ maxLen) (M1 : l1 ≤ maxLen) (M2 : l2 ≤ maxLen) (M3 : l3 ≤ maxLen) (hf : fits l0 l1 l2 l3 = true)  (h0 : ¬ l0 ≤ 262144) :
    Calls Try.prog 3 #[.slice a0 l0 c0, .slice a1 l1 c1, .slice a2 l2 c2, .slice a3 l3 c3] w fun e w' => e = .returned (.bool true) ∧ Below w.heap.size w w' := by
  have k4 := zzBytes_any a0 a1 a2 a3 l0 l1 l2 l3 c0 c1 c2 c3 w M0 M1 M2 M3
  rw [hf] at k4
  have K4 : Hid _ := k4; clear k4 hf
  clear A0 A1 A2 A3
  go_enter Try.func3, Try.ntmps3
  go_wp2_with fail
  refine use K4.out ?_
  go_wp2
  go_ret
  exact ⟨rfl, Below.refl _ _⟩

set_option maxHeartbeats 400000 in
theorem no_len1 (a0 a1 a2 a3 : Option Addr) (l0 l1 l2 l3 c0 c1 c2 c3 : Nat) (m t v r : List Int) (w : World) (A0 : Arg w a0 l0 c0 m) (A1 : Arg w a1 l1 c1 t) (A2 : Arg w a2 l2 c2 v) (A3 : Arg w a3 l3 c3 r) (M0 : l0 ≤ maxLen) (M1 : l1 ≤ maxLen) (M2 : l2 ≤ maxLen) (M3 : l3 ≤ maxLen) (hf : fits l0 l1 l2 l3 = true) (h0 : l0 ≤ 262144) (h1 : ¬ l1 ≤ 262144) :
    Calls Try.prog 3 #[.slice a0 l0 c0, .slice a1 l1 c1, .slice a2 l2 c2, .slice a3 l3 c3] w fun e w' => e = .returned (.bool true) ∧ Below w.heap.size w w' := by
  have k4 := zzBytes_any a0 a1 a2 a3 l0 l1 l2 l3 c0 c1 c2 c3 w M0 M1 M2 M3
  rw [hf] at k4
  have K4 : Hid _ := k4; clear k4 hf
  clear A0 A1 A2 A3
  go_enter Try.func3, Try.ntmps3
  go_wp2_with fail
  refine use K4.out ?_
  go_wp2
  go_ret
  exact ⟨rfl, Below.refl _ _⟩

set_option maxHeartbeats 400000 in
theorem no_len2 (a0 a1 a2 a3 : Option Addr) (l0 l1 l2 l3 c0 c1 c2 c3 : Nat) (m t v r : List Int) (w : World) (A0 : Arg w a0 l0 c0 m) (A1 : Arg w a1 l1 c1 t) (A2 : Arg w a2 l2 c2 v) (A3 : Arg w a3 l3 c3 r) (M0 : l0 ≤ maxLen) (M1 : l1 ≤ maxLen) (M2 : l2 ≤ maxLen) (M3 : l3 ≤ maxLen) (hf : fits l0 l1 l2 l3 = true) (h0 : l0 ≤ 262144) (h1 : l1 ≤ 262144) (h2 : ¬ l2 ≤ 262144) :
    Calls Try.prog 3 #[.slice a0 l0 c0, .slice a1 l1 c1, .slice a2 l2 c2, .slice a3 l3 c3] w fun e w' => e = .returned (.bool true) ∧ Below w.heap.size w w' := by
  have k4 := zzBytes_any a0 a1 a2 a3 l0 l1 l2 l3 c0 c1 c2 c3 w M0 M1 M2 M3
  rw [hf] at k4
  have K4 : Hid _ := k4; clear k4 hf
  clear A0 A1 A2 A3
  go_enter Try.func3, Try.ntmps3
  go_wp2_with fail
  refine use K4.out ?_
  go_wp2
  go_ret
  exact ⟨rfl, Below.refl _ _⟩

set_option maxHeartbeats 400000 in
theorem no_len3 (a0 a1 a2 a3 : Option Addr) (l0 l1 l2 l3 c0 c1 c2 c3 : Nat) (m t v r : List Int) (w : World) (A0 : Arg w a0 l0 c0 m) (A1 : Arg w a1 l1 c1 t) (A2 : Arg w a2 l2 c2 v) (A3 : Arg w a3 l3 c3 r) (M0 : l0 ≤ maxLen) (M1 : l1 ≤ maxLen) (M2 : l2 ≤ maxLen) (M3 : l3 ≤ maxLen) (hf : fits l0 l1 l2 l3 = true) (h0 : l0 ≤ 262144) (h1 : l1 ≤ 262144) (h2 : l2 ≤ 262144) (h3 : ¬ l3 ≤ 262144) :
    Calls Try.prog 3 #[.slice a0 l0 c0, .slice a1 l1 c1, .slice a2 l2 c2, .slice a3 l3 c3] w fun e w' => e = .returned (.bool true) ∧ Below w.heap.size w w' := by
  have k4 := zzBytes_any a0 a1 a2 a3 l0 l1 l2 l3 c0 c1 c2 c3 w M0 M1 M2 M3
  rw [hf] at k4
  have K4 : Hid _ := k4; clear k4 hf
  clear A0 A1 A2 A3
  go_enter Try.func3, Try.ntmps3
  go_wp2_with fail
  refine use K4.out ?_
  go_wp2
  go_ret
  exact ⟨rfl, Below.refl _ _⟩

set_option maxHeartbeats 400000 in
theorem no_byte0 (a0 a1 a2 a3 : Option Addr) (l0 l1 l2 l3 c0 c1 c2 c3 : Nat) (m t v r : List Int) (w : World) (A0 : Arg w a0 l0 c0 m) (A1 : Arg w a1 l1 c1 t) (A2 : Arg w a2 l2 c2 v) (A3 : Arg w a3 l3 c3 r) (M0 : l0 ≤ maxLen) (M1 : l1 ≤ maxLen) (M2 : l2 ≤ maxLen) (M3 : l3 ≤ maxLen) (hf : fits l0 l1 l2 l3 = true) (h0 : l0 ≤ 262144) (h1 : l1 ≤ 262144) (h2 : l2 ≤ 262144) (h3 : l3 ≤ 262144) (g0 : hasB m 32 = true) :
    Calls Try.prog 3 #[.slice a0 l0 c0, .slice a1 l1 c1, .slice a2 l2 c2, .slice a3 l3 c3] w fun e w' => e = .returned (.bool true) ∧ Below w.heap.size w w' := by
  have k4 := zzBytes_any a0 a1 a2 a3 l0 l1 l2 l3 c0 c1 c2 c3 w M0 M1 M2 M3
  rw [hf] at k4
  have K4 : Hid _ := k4; clear k4 hf
  have k50 := hasByte_any a0 l0 c0 m 32 w M0 A0.inn
  rw [g0] at k50
  have K50 : Hid _ := k50; clear k50 g0
  clear A0 A1 A2 A3
  go_enter Try.func3, Try.ntmps3
  go_wp2_with fail
  refine use K4.out ?_
  go_wp2_with fail
  refine use K50.out ?_
  go_wp2
  go_ret
  exact ⟨rfl, Below.refl _ _⟩

set_option maxHeartbeats 400000 in
theorem no_byte1 (a0 a1 a2 a3 : Option Addr) (l0 l1 l2 l3 c0 c1 c2 c3 : Nat) (m t v r : List Int) (w : World) (A0 : Arg w a0 l0 c0 m) (A1 : Arg w a1 l1 c1 t) (A2 : Arg w a2 l2 c2 v) (A3 : Arg w a3 l3 c3 r) (M0 : l0 ≤ maxLen) (M1 : l1 ≤ maxLen) (M2 : l2 ≤ maxLen) (M3 : l3 ≤ maxLen) (hf : fits l0 l1 l2 l3 = true) (h0 : l0 ≤ 262144) (h1 : l1 ≤ 262144) (h2 : l2 ≤ 262144) (h3 : l3 ≤ 262144) (g0 : hasB m 32 = false) (g1 : hasB m 10 = true) :
    Calls Try.prog 3 #[.slice a0 l0 c0, .slice a1 l1 c1, .slice a2 l2 c2, .slice a3 l3 c3] w fun e w' => e = .returned (.bool true) ∧ Below w.heap.size w w' := by
  have k4 := zzBytes_any a0 a1 a2 a3 l0 l1 l2 l3 c0 c1 c2 c3 w M0 M1 M2 M3
  rw [hf] at k4
  have K4 : Hid _ := k4; clear k4 hf
  have k50 := hasByte_any a0 l0 c0 m 32 w M0 A0.inn
  rw [g0] at k50
  have K50 : Hid _ := k50; clear k50 g0
  have k51 := hasByte_any a0 l0 c0 m 10 w M0 A0.inn
  rw [g1] at k51
  have K51 : Hid _ := k51; clear k51 g1
  clear A0 A1 A2 A3
  go_enter Try.func3, Try.ntmps3
  go_wp2_with fail
  refine use K4.out ?_
  go_wp2_with fail
  refine use K50.out ?_
  go_wp2_with fail
  refine use K51.out ?_
  go_wp2
  go_ret
  exact ⟨rfl, Below.refl _ _⟩

set_option maxHeartbeats 400000 in
theorem no_byte2 (a0 a1 a2 a3 : Option Addr) (l0 l1 l2 l3 c0 c1 c2 c3 : Nat) (m t v r : List Int) (w : World) (A0 : Arg w a0 l0 c0 m) (A1 : Arg w a1 l1 c1 t) (A2 : Arg w a2 l2 c2 v) (A3 : Arg w a3 l3 c3 r) (M0 : l0 ≤ maxLen) (M1 : l1 ≤ maxLen) (M2 : l2 ≤ maxLen) (M3 : l3 ≤ maxLen) (hf : fits l0 l1 l2 l3 = true) (h0 : l0 ≤ 262144) (h1 : l1 ≤ 262144) (h2 : l2 ≤ 262144) (h3 : l3 ≤ 262144) (g0 : hasB m 32 = false) (g1 : hasB m 10 = false) (g2 : hasB t 32 = true) :
    Calls Try.prog 3 #[.slice a0 l0 c0, .slice a1 l1 c1, .slice a2 l2 c2, .slice a3 l3 c3] w fun e w' => e = .returned (.bool true) ∧ Below w.heap.size w w' := by
  have k4 := zzBytes_any a0 a1 a2 a3 l0 l1 l2 l3 c0 c1 c2 c3 w M0 M1 M2 M3
  rw [hf] at k4
  have K4 : Hid _ := k4; clear k4 hf
  have k50 := hasByte_any a0 l0 c0 m 32 w M0 A0.inn
  rw [g0] at k50
  have K50 : Hid _ := k50; clear k50 g0
  have k51 := hasByte_any a0 l0 c0 m 10 w M0 A0.inn
  rw [g1] at k51
  have K51 : Hid _ := k51; clear k51 g1
  have k52 := hasByte_any a1 l1 c1 t 32 w M1 A1.inn
  rw [g2] at k52
  have K52 : Hid _ := k52; clear k52 g2
  clear A0 A1 A2 A3
  go_enter Try.func3, Try.ntmps3
  go_wp2_with fail
  refine use K4.out ?_
  go_wp2_with fail
  refine use K50.out ?_
  go_wp2_with fail
  refine use K51.out ?_
  go_wp2_with fail
  refine use K52.out ?_
  go_wp2
  go_ret
  exact ⟨rfl, Below.refl _ _⟩

set_option maxHeartbeats 400000 in
theorem no_byte3 (a0 a1 a2 a3 : Option Addr) (l0 l1 l2 l3 c0 c1 c2 c3 : Nat) (m t v r : List Int) (w : World) (A0 : Arg w a0 l0 c0 m) (A1 : Arg w a1 l1 c1 t) (A2 : Arg w a2 l2 c2 v) (A3 : Arg w a3 l3 c3 r) (M0 : l0 ≤ maxLen) (M1 : l1 ≤ maxLen) (M2 : l2 ≤ maxLen) (M3 : l3 ≤ maxLen) (hf : fits l0 l1 l2 l3 = true) (h0 : l0 ≤ 262144) (h1 : l1 ≤ 262144) (h2 : l2 ≤ 262144) (h3 : l3 ≤ 262144) (g0 : hasB m 32 = false) (g1 : hasB m 10 = false) (g2 : hasB t 32 = false) (g3 : hasB t 10 = true) :
    Calls Try.prog 3 #[.slice a0 l0 c0, .slice a1 l1 c1, .slice a2 l2 c2, .slice a3 l3 c3] w fun e w' => e = .returned (.bool true) ∧ Below w.heap.size w w' := by
  have k4 := zzBytes_any a0 a1 a2 a3 l0 l1 l2 l3 c0 c1 c2 c3 w M0 M1 M2 M3
  rw [hf] at k4
  have K4 : Hid _ := k4; clear k4 hf
  have k50 := hasByte_any a0 l0 c0 m 32 w M0 A0.inn
  rw [g0] at k50
  have K50 : Hid _ := k50; clear k50 g0
  have k51 := hasByte_any a0 l0 c0 m 10 w M0 A0.inn
  rw [g1] at k51
  have K51 : Hid _ := k51; clear k51 g1
  have k52 := hasByte_any a1 l1 c1 t 32 w M1 A1.inn
  rw [g2] at k52
  have K52 : Hid _ := k52; clear k52 g2
  have k53 := hasByte_any a1 l1 c1 t 10 w M1 A1.inn
  rw [g3] at k53
  have K53 : Hid _ := k53; clear k53 g3
  clear A0 A1 A2 A3
  go_enter Try.func3, Try.ntmps3
  go_wp2_with fail
  refine use K4.out ?_
  go_wp2_with fail
  refine use K50.out ?_
  go_wp2_with fail
  refine use K51.out ?_
  go_wp2_with fail
  refine use K52.out ?_
  go_wp2_with fail
  refine use K53.out ?_
  go_wp2
  go_ret
  exact ⟨rfl, Below.refl _ _⟩

set_option maxHeartbeats 400000 in
theorem no_byte4 (a0 a1 a2 a3 : Option Addr) (l0 l1 l2 l3 c0 c1 c2 c3 : Nat) (m t v r : List Int) (w : World) (A0 : Arg w a0 l0 c0 m) (A1 : Arg w a1 l1 c1 t) (A2 : Arg w a2 l2 c2 v) (A3 : Arg w a3 l3 c3 r) (M0 : l0 ≤ maxLen) (M1 : l1 ≤ maxLen) (M2 : l2 ≤ maxLen) (M3 : l3 ≤ maxLen) (hf : fits l0 l1 l2 l3 = true) (h0 : l0 ≤ 262144) (h1 : l1 ≤ 262144) (h2 : l2 ≤ 262144) (h3 : l3 ≤ 262144) (g0 : hasB m 32 = false) (g1 : hasB m 10 = false) (g2 : hasB t 32 = false) (g3 : hasB t 10 = false) (g4 : hasB v 32 = true) :
    Calls Try.prog 3 #[.slice a0 l0 c0, .slice a1 l1 c1, .slice a2 l2 c2, .slice a3 l3 c3] w fun e w' => e = .returned (.bool true) ∧ Below w.heap.size w w' := by
  have k4 := zzBytes_any a0 a1 a2 a3 l0 l1 l2 l3 c0 c1 c2 c3 w M0 M1 M2 M3
  rw [hf] at k4
  have K4 : Hid _ := k4; clear k4 hf
  have k50 := hasByte_any a0 l0 c0 m 32 w M0 A0.inn
  rw [g0] at k50
  have K50 : Hid _ := k50; clear k50 g0
  have k51 := hasByte_any a0 l0 c0 m 10 w M0 A0.inn
  rw [g1] at k51
  have K51 : Hid _ := k51; clear k51 g1
  have k52 := hasByte_any a1 l1 c1 t 32 w M1 A1.inn
  rw [g2] at k52
  have K52 : Hid _ := k52; clear k52 g2
  have k53 := hasByte_any a1 l1 c1 t 10 w M1 A1.inn
  rw [g3] at k53
  have K53 : Hid _ := k53; clear k53 g3
  have k54 := hasByte_any a2 l2 c2 v 32 w M2 A2.inn
  rw [g4] at k54
  have K54 : Hid _ := k54; clear k54 g4
  clear A0 A1 A2 A3
  go_enter Try.func3, Try.ntmps3
  go_wp2_with fail
  refine use K4.out ?_
  go_wp2_with fail
  refine use K50.out ?_
  go_wp2_with fail
  refine use K51.out ?_
  go_wp2_with fail
  refine use K52.out ?_
  go_wp2_with fail
  refine use K53.out ?_
  go_wp2_with fail
  refine use K54.out ?_
  go_wp2
  go_ret
  exact ⟨rfl, Below.refl _ _⟩

set_option maxHeartbeats 400000 in
theorem no_byte5 (a0 a1 a2 a3 : Option Addr) (l0 l1 l2 l3 c0 c1 c2 c3 : Nat) (m t v r : List Int) (w : World) (A0 : Arg w a0 l0 c0 m) (A1 : Arg w a1 l1 c1 t) (A2 : Arg w a2 l2 c2 v) (A3 : Arg w a3 l3 c3 r) (M0 : l0 ≤ maxLen) (M1 : l1 ≤ maxLen) (M2 : l2 ≤ maxLen) (M3 : l3 ≤ maxLen) (hf : fits l0 l1 l2 l3 = true) (h0 : l0 ≤ 262144) (h1 : l1 ≤ 262144) (h2 : l2 ≤ 262144) (h3 : l3 ≤ 262144) (g0 : hasB m 32 = false) (g1 : hasB m 10 = false) (g2 : hasB t 32 = false) (g3 : hasB t 10 = false) (g4 : hasB v 32 = false) (g5 : hasB v 10 = true) :
    Calls Try.prog 3 #[.slice a0 l0 c0, .slice a1 l1 c1, .slice a2 l2 c2, .slice a3 l3 c3] w fun e w' => e = .returned (.bool true) ∧ Below w.heap.size w w' := by
  have k4 := zzBytes_any a0 a1 a2 a3 l0 l1 l2 l3 c0 c1 c2 c3 w M0 M1 M2 M3
  rw [hf] at k4
  have K4 : Hid _ := k4; clear k4 hf
  have k50 := hasByte_any a0 l0 c0 m 32 w M0 A0.inn
  rw [g0] at k50
  have K50 : Hid _ := k50; clear k50 g0
  have k51 := hasByte_any a0 l0 c0 m 10 w M0 A0.inn
  rw [g1] at k51
  have K51 : Hid _ := k51; clear k51 g1
  have k52 := hasByte_any a1 l1 c1 t 32 w M1 A1.inn
  rw [g2] at k52
  have K52 : Hid _ := k52; clear k52 g2
  have k53 := hasByte_any a1 l1 c1 t 10 w M1 A1.inn
  rw [g3] at k53
  have K53 : Hid _ := k53; clear k53 g3
  have k54 := hasByte_any a2 l2 c2 v 32 w M2 A2.inn
  rw [g4] at k54
  have K54 : Hid _ := k54; clear k54 g4
  have k55 := hasByte_any a2 l2 c2 v 10 w M2 A2.inn
  rw [g5] at k55
  have K55 : Hid _ := k55; clear k55 g5
  clear A0 A1 A2 A3
  go_enter Try.func3, Try.ntmps3
  go_wp2_with fail
  refine use K4.out ?_
  go_wp2_with fail
  refine use K50.out ?_
  go_wp2_with fail
  refine use K51.out ?_
  go_wp2_with fail
  refine use K52.out ?_
  go_wp2_with fail
  refine use K53.out ?_
  go_wp2_with fail
  refine use K54.out ?_
  go_wp2_with fail
  refine use K55.out ?_
  go_wp2
  go_ret
  exact ⟨rfl, Below.refl _ _⟩

theorem main_any (a0 a1 a2 a3 : Option Addr) (l0 l1 l2 l3 c0 c1 c2 c3 : Nat) (m t v r : List Int) (w : World) (A0 : Arg w a0 l0 c0 m) (A1 : Arg w a1 l1 c1 t) (A2 : Arg w a2 l2 c2 v) (A3 : Arg w a3 l3 c3 r) (M0 : l0 ≤ maxLen) (M1 : l1 ≤ maxLen) (M2 : l2 ≤ maxLen) (M3 : l3 ≤ maxLen) :
    Calls Try.prog 3 #[.slice a0 l0 c0, .slice a1 l1 c1, .slice a2 l2 c2, .slice a3 l3 c3] w fun e w' => e = .returned (.bool true) ∧ Below w.heap.size w w' := by
  cases hf : fits l0 l1 l2 l3 with
  | false => exact no_fits a0 a1 a2 a3 l0 l1 l2 l3 c0 c1 c2 c3 m t v r w A0 A1 A2 A3 M0 M1 M2 M3 hf
  | true =>
    by_cases h0 : l0 ≤ 262144
    rotate_left
    · exact no_len0 a0 a1 a2 a3 l0 l1 l2 l3 c0 c1 c2 c3 m t v r w A0 A1 A2 A3 M0 M1 M2 M3 hf h0
    by_cases h1 : l1 ≤ 262144
    rotate_left
    · exact no_len1 a0 a1 a2 a3 l0 l1 l2 l3 c0 c1 c2 c3 m t v r w A0 A1 A2 A3 M0 M1 M2 M3 hf h0 h1
    by_cases h2 : l2 ≤ 262144
    rotate_left
    · exact no_len2 a0 a1 a2 a3 l0 l1 l2 l3 c0 c1 c2 c3 m t v r w A0 A1 A2 A3 M0 M1 M2 M3 hf h0 h1 h2
    by_cases h3 : l3 ≤ 262144
    rotate_left
    · exact no_len3 a0 a1 a2 a3 l0 l1 l2 l3 c0 c1 c2 c3 m t v r w A0 A1 A2 A3 M0 M1 M2 M3 hf h0 h1 h2 h3
    cases g0 : hasB m 32
    rotate_left
    · exact no_byte0 a0 a1 a2 a3 l0 l1 l2 l3 c0 c1 c2 c3 m t v r w A0 A1 A2 A3 M0 M1 M2 M3 hf h0 h1 h2 h3 g0
    cases g1 : hasB m 10
    rotate_left
    · exact no_byte1 a0 a1 a2 a3 l0 l1 l2 l3 c0 c1 c2 c3 m t v r w A0 A1 A2 A3 M0 M1 M2 M3 hf h0 h1 h2 h3 g0 g1
    cases g2 : hasB t 32
    rotate_left
    · exact no_byte2 a0 a1 a2 a3 l0 l1 l2 l3 c0 c1 c2 c3 m t v r w A0 A1 A2 A3 M0 M1 M2 M3 hf h0 h1 h2 h3 g0 g1 g2
    cases g3 : hasB t 10
    rotate_left
    · exact no_byte3 a0 a1 a2 a3 l0 l1 l2 l3 c0 c1 c2 c3 m t v r w A0 A1 A2 A3 M0 M1 M2 M3 hf h0 h1 h2 h3 g0 g1 g2 g3
    cases g4 : hasB v 32
    rotate_left
    · exact no_byte4 a0 a1 a2 a3 l0 l1 l2 l3 c0 c1 c2 c3 m t v r w A0 A1 A2 A3 M0 M1 M2 M3 hf h0 h1 h2 h3 g0 g1 g2 g3 g4
    cases g5 : hasB v 10
    rotate_left
    · exact no_byte5 a0 a1 a2 a3 l0 l1 l2 l3 c0 c1 c2 c3 m t v r w A0 A1 A2 A3 M0 M1 M2 M3 hf h0 h1 h2 h3 g0 g1 g2 g3 g4 g5
    exact main_yes a0 a1 a2 a3 l0 l1 l2 l3 c0 c1 c2 c3 m t v r w A0 A1 A2 A3 g0 g1 g2 g3 g4 g5 hf h0 h1 h2 h3
end Go.Proofs.Qxb6604580a.ReqE
