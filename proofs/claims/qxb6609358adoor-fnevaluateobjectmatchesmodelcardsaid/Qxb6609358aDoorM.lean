import Derived.Test.Qxb6609358aDoorL
namespace Go.Proofs.Qxb6609358aDoor.A
open Go.ChangeShapes Go.WideShapes Go.ChangeAt Go.RowKit P
set_option linter.unusedVariables false

/-- The handle of the type error lies in errors.errorType. -/
abbrev ErrT (w : World) : Prop := w.cell? ⟨0, 0, none⟩ = some (.iface 106 (.agg #[.pointer (some ⟨5, 33, none⟩)]))

set_option maxRecDepth 100000 in
set_option maxHeartbeats 4000000 in
/-- evalErrorIs: the very error is told to be itself. -/
theorem eei (b : Nat) (D t : ByteArray) (p : Int) (w : World) (hg : ErrT w) (hb : w.heap[b]? = some (.cells #[.string D, .int .i64 p, .string t] 87 (0, 0))) :
    Calls Tryd.prog 21 #[.iface 84 (.pointer (some ⟨b, 0, none⟩)), .string D, .int .i64 p, .string t] w fun e w' => e = .returned (.bool true) ∧ Below w.heap.size w w' := by
  obtain ⟨n0, hn0⟩ : ∃ n, w.heap.size = n := ⟨_, rfl⟩
  have hbl : b < n0 := by rw [← hn0]; exact (Array.getElem?_eq_some_iff.1 hb).1
  have h1 : (w.alloc (.cells #[.pointer none] 84)).cell? ⟨n0, 0, none⟩ = some (.pointer none) := by rw [← hn0]; simp
  have h2 : (w.alloc (.cells #[.pointer none] 84)).frozen? ⟨n0, 0, none⟩ = false := by rw [← hn0]; simp
  have k13 : Calls Tryd.prog 13 #[.iface 84 (.pointer (some ⟨b, 0, none⟩)), .iface 85 (.pointer (some ⟨n0, 0, none⟩))] (w.alloc (.cells #[.pointer none] 84)) fun e w' => e = .returned (.bool true) ∧ w'.cell? ⟨n0, 0, none⟩ = some (.pointer (some ⟨b, 0, none⟩)) ∧ w'.cell? ⟨b, 0, none⟩ = some (.string D) ∧ w'.cell? ⟨b, 1, none⟩ = some (.int .i64 p) ∧ w'.cell? ⟨b, 2, none⟩ = some (.string t) ∧ Hid (Below n0 w w') := by
    refine (as_hit ⟨b, 0, none⟩ ⟨n0, 0, none⟩ (.pointer none) _ (Lib.cell?_alloc_some _ hg) h1 h2).mono ?_
    rintro e w' ⟨rfl, rfl⟩
    have hB0 : Below n0 w (w.alloc (.cells #[.pointer none] 84)) := by rw [← hn0]; exact (Below.refl _ w).alloc (Nat.le_refl _) _
    obtain ⟨w1, hw1⟩ : ∃ w1, w.alloc (.cells #[.pointer none] 84) = w1 := ⟨_, rfl⟩
    rw [hw1] at hB0 h1 ⊢
    have hs1 : w1.heap.size = n0 + 1 := by rw [← hw1]; simp [hn0]
    obtain ⟨w5, hw5⟩ : ∃ w5, (((w1.alloc (.cells #[.pointer (some ⟨n0, 0, none⟩)] 85)).alloc (.cells #[.pointer (some ⟨5, 85, none⟩), .pointer (some ⟨w1.heap.size, 0, none⟩), .int .u64 150] 68)).alloc (.cells #[.pointer (some ⟨5, 85, none⟩), .pointer (some ⟨w1.heap.size, 0, none⟩), .int .u64 150] 68)).alloc (.cells #[.pointer (some ⟨b, 0, none⟩)] 84) = w5 := ⟨_, rfl⟩
    rw [hw5]
    have hB5 : Below (n0 + 1) w1 w5 := by
      rw [← hw5]
      exact (((((Below.refl _ w1).alloc (by omega) _).alloc (by simp; omega) _).alloc (by simp; omega) _).alloc (by simp; omega) _)
    have hc5 : w5.cell? ⟨n0, 0, none⟩ = some (.pointer none) := (hB5.cell (p := ⟨n0, 0, none⟩) (by show n0 < n0 + 1; omega)).trans h1
    have hb5 : (w5.setCell ⟨n0, 0, none⟩ (.pointer (some ⟨b, 0, none⟩))).heap[b]? = some (.cells #[.string D, .int .i64 p, .string t] 87 (0, 0)) := by
      rw [Below.heap_setCell _ _ _ _ (by show b ≠ n0; omega), hB5.block b (by omega), hB0.block b hbl]; exact hb
    refine ⟨rfl, World.cell?_setCell_same' _ _ _ (by rw [hc5]; rfl), by simp [World.cell?, hb5], by simp [World.cell?, hb5], by simp [World.cell?, hb5], ?_⟩
    exact (hB0.trans (hB5.mono (by omega))).setCell (p := ⟨n0, 0, none⟩) (Nat.le_refl _) _
  rw [hn0]
  have K13 : Hid _ := k13
  clear k13 h1 h2 hb hg
  go_enter Tryd.func21, Tryd.ntmps21
  go_wp2_with fail
  refine (Calls.mono K13.out) ?_
  rintro e w1 ⟨rfl, h1, h2, h3, h4, hB⟩
  clear K13
  go_wp2
  go_ret
  exact ⟨by simp, hB.out⟩
end Go.Proofs.Qxb6609358aDoor.A
