import Derived.Test.Qxb6600482aRows
import Derived.Test.Qxb6600482aEndP
import Derived.WalkKit
import Derived.ProofKit
import Derived.OpenShut
import Derived.ShutString
import Derived.ChangeOld
import Derived.Below
import Derived.Lib.SliceRun
namespace Go.Proofs.Qxb6600482a.EndA
open Go.ChangeShapes Go.WideShapes Go.ChangeAt Go.RowKit EndP
set_option linter.unusedVariables false

theorem use {P : Program} {f : FuncId} {args : Array Value} {w : World} {v : Value} {Q : Ending → World → Prop} (h : Calls P f args w fun e w' => e = .returned v ∧ w' = w) (hQ : Q (.returned v) w) : Calls P f args w Q :=
  h.mono (by rintro e w' ⟨rfl, rfl⟩; exact hQ)
theorem ret_int {k : IntKind} {a b : Int} (h : a = b) : Ending.returned (.int k a) = .returned (.int k b) := by rw [h]

theorem Try.info5 : (Try.prog.info? 5).map (fun i => (i.zero, i.size, i.bytes)) = some (some (.int .u8 0), 1, 1) := by kernel_rfl

/-- What is told of a slice of bytes: its cells where there is a byte; nil means nothing. -/
structure Arg (w : World) (p : Option Addr) (n c : Nat) (xs : List Int) : Prop where
  len : xs.length = n
  cells : 0 < n → ∃ b o, p = some ⟨b, o, none⟩ ∧ ∀ i, i < n → w.cell? ⟨b, o + i, none⟩ = some (.int .u8 (xs.getD i 0))
  none : p = none → n = 0 ∧ c = 0

theorem Arg.below {w w' : World} {p : Option Addr} {n c : Nat} {xs : List Int} (h : Arg w p n c xs) (hb : Below w.heap.size w w') : Arg w' p n c xs := by
  refine ⟨h.len, fun h0 => ?_, h.none⟩
  obtain ⟨b, o, e, hc⟩ := h.cells h0
  refine ⟨b, o, e, fun i hi => ?_⟩
  have h1 := hc i hi
  rw [hb.cell (World.block_lt_of_cell? w _ h1), h1]

theorem Arg.src {w wc : World} {p : Option Addr} {n c : Nat} {xs : List Int} (h : Arg w p n c xs) (hb : Below w.heap.size w wc) :
    ∀ ad, p = some ad → ∀ j u, (xs.map (Value.int .u8))[j]? = some u → wc.cell? (ad.add j) = some u := by
  intro ad hp j u hj
  have hl : j < xs.length := by have := (List.getElem?_eq_some_iff.1 hj).1; simpa using this
  obtain ⟨b, o, e, hcell⟩ := h.cells (by have := h.len; omega)
  rw [hp] at e; cases e
  have hc := hcell j (by have := h.len; omega)
  rw [Go.WideShapes.add_plain, hb.cell (World.block_lt_of_cell? w _ hc), hc]
  simp [hl] at hj
  simp [hl, hj]

def fits3 (a b c : Nat) : Bool := decide (a + b + c ≤ 1048576)

set_option maxHeartbeats 1000000 in
theorem zzBytes3 (a0 a1 a2 : Option Addr) (l0 l1 l2 c0 c1 c2 : Nat) (w : World) (h0 : l0 ≤ maxLen) (h1 : l1 ≤ maxLen) (h2 : l2 ≤ maxLen) :
    Calls Try.prog 13 #[.slice a0 l0 c0, .slice a1 l1 c1, .slice a2 l2 c2] w fun e w' => e = .returned (.bool (fits3 l0 l1 l2)) ∧ w' = w := by
  unfold maxLen at *
  by_cases hf : l0 + l1 + l2 ≤ 1048576
  · have hff : fits3 l0 l1 l2 = true := by unfold fits3; exact decide_eq_true hf
    rw [hff]; clear hff
    go_enter Try.func13, Try.ntmps13
    go_wp2
    go_ret
    exact ⟨rfl, rfl⟩
  · have hff : fits3 l0 l1 l2 = false := by unfold fits3; exact decide_eq_false hf
    rw [hff]; clear hff
    go_enter Try.func13, Try.ntmps13
    go_wp2
    all_goals go_ret
    all_goals exact ⟨rfl, rfl⟩

theorem clone_nil (w : World) : Calls Try.prog 10 #[.slice none 0 0] w fun e w' => e = .returned (.slice none 0 0) ∧ w' = w := by
  have q22 : ∀ (w : World) (a : Option Addr) (n c n' c' : Nat), (binOp .eql 22 (.slice a n c) (.slice none n' c')).run Try.prog w = .ok (.bool a.isNone) w := fun w a n c n' c' => Lib.run_eql_slice_nil w _ _ a n c n' c' Try.underlying22
  go_enter Try.func10, Try.ntmps10
  go_wp2
  go_ret
  exact ⟨rfl, rfl⟩

set_option maxHeartbeats 2000000 in
theorem clone_some (a : Addr) (n c : Nat) (xs : List Int) (w : World) (hn : n ≤ 1048576) (h : Arg w (some a) n c xs) :
    Calls Try.prog 10 #[.slice (some a) n c] w fun e w' => e = .returned (.slice (some ⟨w.heap.size, 0, none⟩) n n) ∧ Arg w' (some ⟨w.heap.size, 0, none⟩) n n xs ∧ Below w.heap.size w w' := by
  have q22 : ∀ (w : World) (a : Option Addr) (n c n' c' : Nat), (binOp .eql 22 (.slice a n c) (.slice none n' c')).run Try.prog w = .ok (.bool a.isNone) w := fun w a n c n' c' => Lib.run_eql_slice_nil w _ _ a n c n' c' Try.underlying22
  obtain ⟨i0, hi, hz0, hz1, hz2⟩ := info_parts Try.info5
  go_enter Try.func10, Try.ntmps10
  go_wp2_with (at_make; refine wpList_make_full _ rfl _ _ 22 rfl w.heap.size 5 i0 (.int .u8 0) 1 Try.underlying22 hi hz0 hz1 _ _ _ _ n rfl rfl rfl rfl (by rw [hz2]; omega) (by unfold maxLen; omega) (Nat.le_refl _) ?_; intro w0 own0 gr0; have b0 := (Below.refl w.heap.size w).grown gr0 (Nat.le_refl _) (by intro k hk; cases hk); clear gr0)
  go_loopw [4] (fun i wr => ∃ (k : Nat) (cs : List Value), k ≤ n ∧ i = .int .i64 k ∧ wr.ownsRow w.heap.size 5 1 (.slice (some ⟨w.heap.size, 0, none⟩) n n) n cs ∧ (∀ j, j < k → cs[j]? = some (.int .u8 (xs.getD j 0))) ∧ Below w.heap.size w wr) (fun i wr => n - (intOf i).toNat)
  case atStart => exact ⟨0, _, Nat.zero_le _, rfl, own0, fun j hj => by omega, b0⟩
  case round =>
    obtain ⟨k, cs, hk, rfl, hown, hcs, hbw⟩ := hrel
    have HCS : Hid _ := hcs
    clear hcs own0 b0 q22
    by_cases hlt : k < n
    · obtain ⟨b, o, e, hcell⟩ := h.cells (by omega)
      cases e
      have hsrc : wr.cell? ⟨b, o + k, none⟩ = some (.int .u8 (xs.getD k 0)) := by rw [hbw.cell (World.block_lt_of_cell? w _ (hcell k hlt)), hcell k hlt]
      have hl := hown.1
      have hlk : k < cs.length := by omega
      have hdst : wr.cell? ⟨w.heap.size, k, none⟩ = some (cs[k]) := by rw [hown.cellAt k (by omega), List.getElem?_eq_getElem hlk]
      have hfz := hown.frozenAt k
      generalize cs[k] = old at hdst
      have hst := hown.stored k (.int .u8 (xs.getD k 0))
      have hgx : xs.getD k 0 = xs.getD k 0 := rfl
      generalize hx : xs.getD k 0 = x at hsrc hst
      have HX : Hid _ := hx
      clear hx hcell hgx h hl
      go_wp2
      go_roundw
      case rel =>
        refine ⟨k + 1, cs.set k (.int .u8 x), by omega, by go_num, hst.1, fun j hj => ?_, hbw.setCell (p := ⟨w.heap.size, k, none⟩) (Nat.le_refl _) _⟩
        by_cases hjk : j = k
        · subst hjk
          rw [List.getElem?_set_self hlk, HX.out]
        · rw [List.getElem?_set_ne (by omega)]
          exact HCS.out j (by omega)
      case measure => simp [intOf]; omega
    · go_wp2
      go_ret
      refine ⟨rfl, ⟨h.len, fun h0 => ⟨w.heap.size, 0, rfl, fun i hi => ?_⟩, fun e => by cases e⟩, hbw⟩
      rw [Nat.zero_add, hown.cellAt i (by omega)]
      exact HCS.out i (by omega)

/-- cloneB_b1: a copy: the same bytes, the same length; nil stays nil. -/
theorem clone_any (p : Option Addr) (n c : Nat) (xs : List Int) (w : World) (hn : n ≤ 1048576) (h : Arg w p n c xs) :
    Calls Try.prog 10 #[.slice p n c] w fun e w' => (∃ p' c', e = .returned (.slice p' n c') ∧ Arg w' p' n c' xs) ∧ Below w.heap.size w w' := by
  cases p with
  | none =>
    obtain ⟨rfl, rfl⟩ := h.none rfl
    refine (clone_nil w).mono ?_
    rintro e w' ⟨rfl, rfl⟩
    exact ⟨⟨_, _, rfl, h⟩, Below.refl _ _⟩
  | some a =>
    refine (clone_some a n c xs w hn h).mono ?_
    rintro e w' ⟨rfl, h1, h2⟩
    exact ⟨⟨_, _, rfl, h1⟩, h2⟩

set_option maxHeartbeats 2000000 in
/-- endOfString where the content q of the string that opens at i is followed by its closing quote. -/
theorem end_any (g n c i : Nat) (zs q r : List Int) (w : World) (hn : n ≤ 4194304) (hz : zs.length = n) (hcell : ∀ i, i < n → w.cell? ⟨g, i, none⟩ = some (.int .u8 (zs.getD i 0))) (hq : zs.drop (i + 1) = q ++ 34 :: r) (hb : body false q = true) :
    Calls Try.prog 22 #[.slice (some ⟨g, 0, none⟩) n c, .int .i64 i] w fun e w' => e = .returned (.int .i64 (i + 2 + q.length : Nat)) ∧ w' = w := by
  have hlen : i + 1 + q.length < n := by
    have := congrArg List.length hq
    simp at this
    omega
  have hat : ∀ k, k ≤ q.length → zs.drop (i + 1 + k) = q.drop k ++ 34 :: r := by
    intro k hk
    rw [← List.drop_drop, hq, List.drop_append_of_le_length hk]
  have HA : Hid _ := hat
  clear hat hq
  go_enter Try.func22, Try.ntmps22
  go_wp2
  go_loop [1] (fun j => ∃ k : Nat, k ≤ q.length ∧ j = .int .i64 (i + 1 + k : Nat) ∧ body false (q.drop k) = true) (fun j => n - (intOf j).toNat)
  case atStart => exact ⟨0, Nat.zero_le _, by go_num, hb⟩
  case round =>
    obtain ⟨k, hk, rfl, hbk⟩ := hrel
    have HB : Hid _ := hbk
    clear hbk hb
    have hj : i + 1 + k < n := by omega
    have hcl := hcell (i + 1 + k) hj
    obtain ⟨x, hx⟩ : ∃ x, x = zs.getD (i + 1 + k) 0 := ⟨_, rfl⟩
    rw [← hx] at hcl
    have HH : Hid (q.drop k ++ 34 :: r = x :: zs.drop (i + 1 + k + 1)) := by
      show q.drop k ++ 34 :: r = x :: zs.drop (i + 1 + k + 1)
      rw [← HA.out k hk, List.drop_eq_getElem_cons (by omega), hx, List.getD_eq_getElem?_getD, List.getElem?_eq_getElem (by omega)]
      rfl
    clear HA hx hcell
    go_wp2
    · obtain ⟨h1, h2⟩ := step92 HB.out HH.out (beq_iff_eq.1 ‹_›)
      go_round
      case rel => exact ⟨k + 2, h1, by go_num, h2⟩
      case measure => simp [intOf]; omega
    · have h1 := step34 hk HB.out HH.out (beq_iff_eq.1 ‹_›)
      go_ret
      exact ⟨ret_int (by omega), rfl⟩
    · obtain ⟨h1, h2⟩ := stepElse HB.out HH.out (beq_eq_false_iff_ne.1 ‹_›) (beq_eq_false_iff_ne.1 ‹_›)
      go_round
      case rel => exact ⟨k + 1, h1, by go_num, h2⟩
      case measure => simp [intOf]; omega
end Go.Proofs.Qxb6600482a.EndA
