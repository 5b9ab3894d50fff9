import Derived.Test.Qxb6003626aQuoD
namespace Go.Proofs.Qxb6003626a.QuoE
open Go.ChangeShapes Go.WideShapes Go.ChangeAt Go.RowKit QuoP QuoA QuoB QuoC QuoD
set_option linter.unusedVariables false

theorem match_any (s : ByteArray) (w : World) (hs : s.size ≤ maxLen) :
    Calls Try.prog 3 #[.string s] w fun e w' => e = .returned (.bool true) ∧ Below w.heap.size w w' := by
  by_cases hz : s.size ≤ 1048576
  · cases hc : closedB s with
    | false =>
      have k7 := zzBytes1 s w hs
      have k8 := closed_any s w hs
      rw [decide_eq_true hz] at k7
      rw [hc] at k8
      have K7 : Hid _ := k7
      have K8 : Hid _ := k8
      clear k7 k8 hc hs
      go_enter Try.func3, Try.ntmps3
      go_wp2_with fail
      refine use K7.out ?_
      go_wp2_with fail
      refine use K8.out ?_
      go_wp2
      go_ret
      exact ⟨rfl, Below.refl _ _⟩
    | true =>
      have hcl : endSt 0 (L s) = 0 := by unfold closedB at hc; exact beq_iff_eq.1 hc
      have k7 := zzBytes1 s w hs
      have k8 := closed_any s w hs
      rw [decide_eq_true hz] at k7
      rw [hc] at k8
      have k9 := zzwords_any s w (by omega) hcl
      have k10 := fun wx => mailbox_any s wx (by omega)
      generalize (out 0 (L s)) = l at k9 k10
      have K7 : Hid _ := k7
      have K8 : Hid _ := k8
      have K9 : Hid _ := k9
      have K10 : Hid _ := k10
      clear k7 k8 k9 k10 hc hs hcl
      go_enter Try.func3, Try.ntmps3
      go_wp2_with fail
      refine use K7.out ?_
      go_wp2_with fail
      refine use K8.out ?_
      go_wp2_with fail
      refine (Calls.mono K9.out) ?_
      rintro e w1 ⟨rfl, b1⟩
      go_wp2_with fail
      refine (Calls.mono (K10.out _)) ?_
      rintro e w2 ⟨rfl, b2⟩
      have b3 := b1.trans (b2.mono b1.size)
      clear b1 b2 K7 K8 K9 K10
      go_wp2
      go_ret
      exact ⟨rfl, b3⟩
  · have k7 := zzBytes1 s w hs
    rw [decide_eq_false hz] at k7
    have K7 : Hid _ := k7
    clear k7
    go_enter Try.func3, Try.ntmps3
    go_wp2_with fail
    refine use K7.out ?_
    go_wp2
    go_ret
    exact ⟨rfl, Below.refl _ _⟩
end Go.Proofs.Qxb6003626a.QuoE
