import Derived.Test.Qxb6609358aDoorI
namespace Go.Proofs.Qxb6609358aDoor.A
open Go.ChangeShapes Go.WideShapes Go.ChangeAt Go.RowKit P
set_option linter.unusedVariables false

abbrev kCont : ByteArray := { data := #[118, 97, 108, 117, 101, 32, 105, 115, 32, 110, 111, 116, 32, 97, 110, 32, 111, 98, 106, 101, 99, 116, 32, 111, 114, 32, 97, 114, 114, 97, 121] }

theorem a9_9 (v : Value) (w : World) : (Instr.typeAssert (.iface 9 v) 20 9 true).run Tryd.prog w = .ok (.tuple #[v, .bool true]) w := by kernel_rfl
theorem a9_79 (v : Value) (w : World) : (Instr.typeAssert (.iface 9 v) 20 79 true).run Tryd.prog w = .ok (.tuple #[.slice none 0 0, .bool false]) w := by kernel_rfl
theorem a9_88 (v : Value) (w : World) : (Instr.typeAssert (.iface 9 v) 20 88 true).run Tryd.prog w = .ok (.tuple #[.map none, .bool false]) w := by kernel_rfl
theorem a79_9 (v : Value) (w : World) : (Instr.typeAssert (.iface 79 v) 20 9 true).run Tryd.prog w = .ok (.tuple #[.string ⟨#[]⟩, .bool false]) w := by kernel_rfl
theorem a79_79 (v : Value) (w : World) : (Instr.typeAssert (.iface 79 v) 20 79 true).run Tryd.prog w = .ok (.tuple #[v, .bool true]) w := by kernel_rfl
theorem a79_88 (v : Value) (w : World) : (Instr.typeAssert (.iface 79 v) 20 88 true).run Tryd.prog w = .ok (.tuple #[.map none, .bool false]) w := by kernel_rfl
theorem a88_9 (v : Value) (w : World) : (Instr.typeAssert (.iface 88 v) 20 9 true).run Tryd.prog w = .ok (.tuple #[.string ⟨#[]⟩, .bool false]) w := by kernel_rfl
theorem a88_88 (v : Value) (w : World) : (Instr.typeAssert (.iface 88 v) 20 88 true).run Tryd.prog w = .ok (.tuple #[v, .bool true]) w := by kernel_rfl
theorem aN_9 (w : World) : (Instr.typeAssert .nilIface 20 9 true).run Tryd.prog w = .ok (.tuple #[.string ⟨#[]⟩, .bool false]) w := by kernel_rfl
theorem aN_79 (w : World) : (Instr.typeAssert .nilIface 20 79 true).run Tryd.prog w = .ok (.tuple #[.slice none 0 0, .bool false]) w := by kernel_rfl
theorem aN_88 (w : World) : (Instr.typeAssert .nilIface 20 88 true).run Tryd.prog w = .ok (.tuple #[.map none, .bool false]) w := by kernel_rfl
attribute [local go_sem] a9_9 a9_79 a9_88 a79_9 a79_79 a79_88 aN_9 aN_79 aN_88

set_option maxRecDepth 100000 in
set_option maxHeartbeats 2000000 in
theorem sel_str (t s : ByteArray) (w : World) :
    Calls Tryd.prog 60 #[.iface 9 (.string t), .string s] w fun e w' => e = .returned (.tuple #[.nilIface, .string kCont]) ∧ w' = w := by
  go_enter Tryd.func60, Tryd.ntmps60
  go_wp2
  refine bodyPost_ret (v := .tuple #[.nilIface, .string kCont]) (by simp [results, Tryd.results60, go_sem]) rfl ?_
  exact ⟨rfl, rfl⟩

set_option maxRecDepth 100000 in
set_option maxHeartbeats 2000000 in
theorem sel_bad (g n cap : Nat) (s : ByteArray) (w : World) (hs : s.size ≤ 4194304) (hn : n ≤ 65536) (hk : (ixK (L s) n).toList.isEmpty = false) :
    Calls Tryd.prog 60 #[.iface 79 (.slice (some ⟨g, 0, none⟩) n cap), .string s] w fun e w' => e = .returned (.tuple #[.nilIface, .string (ixK (L s) n)]) ∧ w' = w := by
  have k69 := aidx_any s n w hs hn
  obtain ⟨D, hD⟩ : ∃ D, ixK (L s) n = D := ⟨_, rfl⟩
  obtain ⟨N, hN⟩ : ∃ N, ixN (L s) n = N := ⟨_, rfl⟩
  rw [hD] at k69 hk ⊢
  rw [hN] at k69
  have K69 : Hid _ := k69
  clear k69 hD hN
  go_enter Tryd.func60, Tryd.ntmps60
  go_wp2_with fail
  refine use K69.out ?_
  go_wp2
  refine bodyPost_ret (v := .tuple #[.nilIface, .string D]) (by simp [results, Tryd.results60, go_sem]) rfl ?_
  exact ⟨rfl, rfl⟩

theorem ix_ok (l : List UInt8) (n : Nat) (h : ixK l n = kNone) : ixN l n < n := by
  unfold ixK at h
  unfold ixN
  split at h
  · cases h
  · split at h
    · split at h
      · cases h
      · rename_i h1 h2 h3
        rw [if_neg h1, if_pos h2, if_neg h3]; omega
    · cases h

set_option maxRecDepth 100000 in
set_option maxHeartbeats 2000000 in
theorem sel_ok (g n cap : Nat) (s t : ByteArray) (w : World) (hs : s.size ≤ 4194304) (hn : n ≤ 65536) (hk : ixK (L s) n = kNone) (hc : w.cell? ⟨g, ixN (L s) n, none⟩ = some (.iface 9 (.string t))) :
    Calls Tryd.prog 60 #[.iface 79 (.slice (some ⟨g, 0, none⟩) n cap), .string s] w fun e w' => e = .returned (.tuple #[.iface 9 (.string t), .string kNone]) ∧ w' = w := by
  have k69 := aidx_any s n w hs hn
  have hlt := ix_ok _ _ hk
  obtain ⟨N, hN⟩ : ∃ N, ixN (L s) n = N := ⟨_, rfl⟩
  rw [hk, hN] at k69
  rw [hN] at hc hlt
  have K69 : Hid _ := k69
  clear k69 hk hN
  go_enter Tryd.func60, Tryd.ntmps60
  go_wp2_with fail
  refine use K69.out ?_
  go_wp2
  refine bodyPost_ret (v := .tuple #[.iface 9 (.string t), .string kNone]) (by simp [results, Tryd.results60, go_sem]) rfl ?_
  exact ⟨rfl, rfl⟩
end Go.Proofs.Qxb6609358aDoor.A
