import Derived.Test.Qxb6003626aLocB
import Derived.Test.Qxb6003626aShelf
import Derived.Test.Qxb6003626aShelf2
import Derived.Laws.ResultCell
namespace Go.Proofs.Qxb6003626a.LocC
open Go.ChangeShapes Go.WideShapes Go.ChangeAt Go.RowKit QuoA LocP LocA LocB
set_option linter.unusedVariables false

/-- How firstBang's two results tell the candidate. -/
def BRep (b : Option (Nat × List UInt8 × List UInt8)) (bi : Int) (nm kd : ByteArray) : Prop :=
  match b with
  | none => nm = ⟨#[]⟩ ∧ -1 ≤ bi ∧ bi ≤ 4194304
  | some (i, n, k) => bi = i ∧ nm = ⟨n.toArray⟩ ∧ kd = ⟨k.toArray⟩

theorem L_extract (s : ByteArray) (a b : Nat) : L (s.extract a b) = sub (L s) a b := by unfold L sub; exact Lib.extract_data s a b
theorem sub_take (S : List UInt8) (l r i : Nat) (h : i ≤ r - l) : sub S l (l + i) = (sub S l r).take i := by
  unfold sub
  rw [List.take_take, show l + i - l = i by omega, Nat.min_eq_left h]

set_option maxHeartbeats 2000000 in
/-- No '!'. -/
theorem bang_no (s : ByteArray) (l r : Nat) (w : World) (hs : s.size ≤ 4194304) (hlr : l ≤ r) (hr : r ≤ s.size) (hi : Lib.indexByte (sub (L s) l r) 33 < 0) :
    Calls Try.prog 27 #[.string s, .int .i64 l, .int .i64 r] w fun e w' => e = .returned (.tuple #[.int .i64 (-1), .agg #[.string ⟨#[]⟩, .string ⟨#[]⟩]]) ∧ Below w.heap.size w w' := by
  have k20 := fun wx => Try.strings_IndexByte (s.extract l r) 33 wx
  have e1 : Lib.indexByte (s.extract l r).data.toList (Int.toNat 33).toUInt8 = -1 := by
    have := Lib.indexByte_ge (sub (L s) l r) 33
    have e : (s.extract l r).data.toList = sub (L s) l r := L_extract s l r
    rw [e]
    show Lib.indexByte (sub (L s) l r) 33 = -1
    omega
  rw [e1] at k20
  have K20 : Hid _ := k20
  clear k20 e1 hi
  go_enter Try.func27, Try.ntmps27
  go_wp2_with fail
  refine use (K20.out _) ?_
  clear K20
  go_wp2
  exact bodyPost_ret (v := .tuple #[.int .i64 (-1), .agg #[.string ⟨#[]⟩, .string ⟨#[]⟩]]) (by simp [results, Try.results27, go_sem]) rfl ⟨rfl, (Below.refl _ _).alloc (Nat.le_refl _) _⟩

set_option maxHeartbeats 2000000 in
/-- A '!' behind no hop. -/
theorem bang_bad (s : ByteArray) (l r i : Nat) (w : World) (hs : s.size ≤ 4194304) (hlr : l ≤ r) (hr : r ≤ s.size) (hi : Lib.indexByte (sub (L s) l r) 33 = i) (hil : l + i < r) (hh : isHopB (sub (L s) l (l + i)) = false) :
    Calls Try.prog 27 #[.string s, .int .i64 l, .int .i64 r] w fun e w' => e = .returned (.tuple #[.int .i64 (l + i : Nat), .agg #[.string ⟨#[]⟩, .string ⟨#[]⟩]]) ∧ Below w.heap.size w w' := by
  have k20 := fun wx => Try.strings_IndexByte (s.extract l r) 33 wx
  have e1 : Lib.indexByte (s.extract l r).data.toList (Int.toNat 33).toUInt8 = (i : Int) := by
    have e : (s.extract l r).data.toList = sub (L s) l r := L_extract s l r
    rw [e]
    exact hi
  rw [e1] at k20
  have k32 := fun wx => hop_any (s.extract l (l + i)) wx (by rw [← L_len, L_extract, sub_len _ _ _ (by rw [L_len]; omega)]; omega)
  rw [L_extract, hh] at k32
  have K20 : Hid _ := k20
  have K32 : Hid _ := k32
  clear k20 e1 hi k32 hh
  go_enter Try.func27, Try.ntmps27
  go_wp2_with fail
  refine use (K20.out _) ?_
  go_wp2_with fail
  refine use (K32.out _) ?_
  clear K20 K32
  go_wp2
  exact bodyPost_ret (v := .tuple #[.int .i64 ((l : Int) + i), .agg #[.string ⟨#[]⟩, .string ⟨#[]⟩]]) (by simp [results, Try.results27, go_sem]) rfl ⟨by congr 1, (Below.refl _ _).alloc (Nat.le_refl _) _⟩

set_option maxHeartbeats 2000000 in
/-- A '!' behind a hop. -/
theorem bang_hop (s : ByteArray) (l r i : Nat) (w : World) (hs : s.size ≤ 4194304) (hlr : l ≤ r) (hr : r ≤ s.size) (hi : Lib.indexByte (sub (L s) l r) 33 = i) (hil : l + i < r) (hh : isHopB (sub (L s) l (l + i)) = true) :
    Calls Try.prog 27 #[.string s, .int .i64 l, .int .i64 r] w fun e w' => e = .returned (.tuple #[.int .i64 (l + i : Nat), .agg #[.string ⟨(Lib.trimSuffix (sub (L s) l (l + i)) [46]).toArray⟩, .string ⟨(if Lib.containsAny (sub (L s) l (l + i)) [46, 91] then dom else uucp).toArray⟩]]) ∧ Below w.heap.size w w' := by
  have k20 := fun wx => Try.strings_IndexByte (s.extract l r) 33 wx
  have e1 : Lib.indexByte (s.extract l r).data.toList (Int.toNat 33).toUInt8 = (i : Int) := by
    have e : (s.extract l r).data.toList = sub (L s) l r := L_extract s l r
    rw [e]
    exact hi
  rw [e1] at k20
  have hz : (s.extract l (l + i)).size = i := by rw [← L_len, L_extract, sub_len _ _ _ (by rw [L_len]; omega)]; omega
  have k32 := fun wx => hop_any (s.extract l (l + i)) wx (by omega)
  have eL : (s.extract l (l + i)).data.toList = sub (L s) l (l + i) := L_extract s l (l + i)
  have k33 := fun wx => Try.strings_ContainsAny_laid (s.extract l (l + i)) ⟨#[46, 91]⟩ wx (by omega) (by decide) (fun j b hj => by
    rw [eL] at hj
    exact isHopB_ascii hh b (List.mem_of_getElem? hj)) (fun j b hj => by
      match j, hj with
      | 0, hj => simp at hj; subst hj; decide
      | 1, hj => simp at hj; subst hj; decide)
  have k34 := fun wx => Try.strings_TrimSuffix (s.extract l (l + i)) ⟨#[46]⟩ wx (by omega)
  rw [L_extract, hh] at k32
  rw [eL] at k33 k34
  have k33' : ∀ wx, Calls Try.prog 33 #[.string (s.extract l (l + i)), .string ⟨#[46, 91]⟩] wx fun e w' => e = .returned (.bool (Lib.containsAny (sub (L s) l (l + i)) [46, 91])) ∧ Below wx.heap.size wx w' := k33
  have k34' : ∀ wx, Calls Try.prog 34 #[.string (s.extract l (l + i)), .string ⟨#[46]⟩] wx fun e w' => e = .returned (.string ⟨(Lib.trimSuffix (sub (L s) l (l + i)) [46]).toArray⟩) ∧ w' = wx := k34
  clear k33 k34
  generalize (⟨(Lib.trimSuffix (sub (L s) l (l + i)) [46]).toArray⟩ : ByteArray) = nm at k34'
  have K20 : Hid _ := k20
  have K32 : Hid _ := k32
  have K34 : Hid _ := k34'
  clear k20 e1 hi k32 k34' eL hz
  cases hc : Lib.containsAny (sub (L s) l (l + i)) [46, 91] with
  | false =>
    rw [hc] at k33'
    have K33 : Hid _ := k33'
    clear hc hh k33'
    go_enter Try.func27, Try.ntmps27
    go_wp2_with fail
    refine use (K20.out _) ?_
    go_wp2_with fail
    refine use (K32.out _) ?_
    go_wp2_with fail
    refine (Calls.mono (K33.out _)) ?_
    rintro e w1 ⟨rfl, b1⟩
    have hblk : w1.heap[w.heap.size]? = some (.cells #[.string ⟨#[]⟩, .string ⟨#[]⟩] 31 (0, 0)) := by
      rw [b1.block w.heap.size (by simp)]; exact heap_alloc_new w _
    have hsz : w.heap.size < w1.heap.size := by have := b1.size; simp at this; omega
    have c0 : w1.cell? ⟨w.heap.size, 0, none⟩ = some (.string ⟨#[]⟩) := by rw [Lib.cell_of_heap hblk]; rfl
    have c1 : w1.cell? ⟨w.heap.size, 1, none⟩ = some (.string ⟨#[]⟩) := by rw [Lib.cell_of_heap hblk]; rfl
    have f0 : w1.frozen? ⟨w.heap.size, 0, none⟩ = false := Lib.frozen_of_heap hblk 0
    have f1 : w1.frozen? ⟨w.heap.size, 1, none⟩ = false := Lib.frozen_of_heap hblk 1
    have b2 : Below w.heap.size w w1 := ((Below.refl _ w).alloc (Nat.le_refl _) _).trans (b1.mono (by simp))
    clear hblk b1
    go_wp2_with fail
    refine use (K34.out _) ?_
    clear K20 K32 K33 K34
    go_wp2
    exact bodyPost_ret (v := .tuple #[.int .i64 ((l : Int) + i), .agg #[.string nm, .string ⟨#[117, 117, 99, 112]⟩]]) (by simp [results, Try.results27, go_sem, c0, c1]) rfl ⟨rfl, (b2.setCell (p := ⟨w.heap.size, 0, none⟩) (Nat.le_refl _) _).setCell (p := ⟨w.heap.size, 1, none⟩) (Nat.le_refl _) _⟩
  | true =>
    rw [hc] at k33'
    have K33 : Hid _ := k33'
    clear hc hh k33'
    go_enter Try.func27, Try.ntmps27
    go_wp2_with fail
    refine use (K20.out _) ?_
    go_wp2_with fail
    refine use (K32.out _) ?_
    go_wp2_with fail
    refine (Calls.mono (K33.out _)) ?_
    rintro e w1 ⟨rfl, b1⟩
    have hblk : w1.heap[w.heap.size]? = some (.cells #[.string ⟨#[]⟩, .string ⟨#[]⟩] 31 (0, 0)) := by
      rw [b1.block w.heap.size (by simp)]; exact heap_alloc_new w _
    have hsz : w.heap.size < w1.heap.size := by have := b1.size; simp at this; omega
    have c0 : w1.cell? ⟨w.heap.size, 0, none⟩ = some (.string ⟨#[]⟩) := by rw [Lib.cell_of_heap hblk]; rfl
    have c1 : w1.cell? ⟨w.heap.size, 1, none⟩ = some (.string ⟨#[]⟩) := by rw [Lib.cell_of_heap hblk]; rfl
    have f0 : w1.frozen? ⟨w.heap.size, 0, none⟩ = false := Lib.frozen_of_heap hblk 0
    have f1 : w1.frozen? ⟨w.heap.size, 1, none⟩ = false := Lib.frozen_of_heap hblk 1
    have b2 : Below w.heap.size w w1 := ((Below.refl _ w).alloc (Nat.le_refl _) _).trans (b1.mono (by simp))
    clear hblk b1
    go_wp2_with fail
    refine use (K34.out _) ?_
    clear K20 K32 K33 K34
    go_wp2
    exact bodyPost_ret (v := .tuple #[.int .i64 ((l : Int) + i), .agg #[.string nm, .string ⟨#[100, 111, 109, 97, 105, 110]⟩]]) (by simp [results, Try.results27, go_sem, c0, c1]) rfl ⟨rfl, (b2.setCell (p := ⟨w.heap.size, 0, none⟩) (Nat.le_refl _) _).setCell (p := ⟨w.heap.size, 1, none⟩) (Nat.le_refl _) _⟩

theorem bang_any (s : ByteArray) (l r : Nat) (w : World) (hs : s.size ≤ 4194304) (hlr : l ≤ r) (hr : r ≤ s.size) :
    Calls Try.prog 27 #[.string s, .int .i64 l, .int .i64 r] w fun e w' => (∃ (bi : Int) (nm kd : ByteArray), e = .returned (.tuple #[.int .i64 bi, .agg #[.string nm, .string kd]]) ∧ BRep (fbang (L s) l r) bi nm kd) ∧ Below w.heap.size w w' := by
  by_cases h1 : Lib.indexByte (sub (L s) l r) 33 < 0
  · refine (bang_no s l r w hs hlr hr h1).mono ?_
    rintro e w' ⟨rfl, hb⟩
    refine ⟨⟨_, _, _, rfl, ?_⟩, hb⟩
    unfold fbang
    rw [if_pos h1]
    exact ⟨rfl, by omega, by omega⟩
  · obtain ⟨i, hi⟩ : ∃ i : Nat, Lib.indexByte (sub (L s) l r) 33 = i := ⟨(Lib.indexByte (sub (L s) l r) 33).toNat, by omega⟩
    have hlt := index_lt (sub (L s) l r) 33 (by omega)
    rw [sub_len _ _ _ (by rw [L_len]; exact hr), hi, Int.toNat_natCast] at hlt
    have hst := sub_take (L s) l r i (by omega)
    cases hh : isHopB (sub (L s) l (l + i)) with
    | false =>
      refine (bang_bad s l r i w hs hlr hr hi (by omega) hh).mono ?_
      rintro e w' ⟨rfl, hb⟩
      refine ⟨⟨_, _, _, rfl, ?_⟩, hb⟩
      unfold fbang
      rw [if_neg h1, hi, Int.toNat_natCast, ← hst, hh]
      exact ⟨rfl, by omega, by omega⟩
    | true =>
      refine (bang_hop s l r i w hs hlr hr hi (by omega) hh).mono ?_
      rintro e w' ⟨rfl, hb⟩
      refine ⟨⟨_, _, _, rfl, ?_⟩, hb⟩
      unfold fbang
      rw [if_neg h1, hi, Int.toNat_natCast, ← hst, if_pos hh]
      by_cases ht : Lib.trimSuffix (sub (L s) l (l + i)) [46] = []
      · rw [if_pos ht, ht]
        exact ⟨rfl, by omega, by omega⟩
      · rw [if_neg ht]
        exact ⟨rfl, rfl, rfl⟩
end Go.Proofs.Qxb6003626a.LocC
