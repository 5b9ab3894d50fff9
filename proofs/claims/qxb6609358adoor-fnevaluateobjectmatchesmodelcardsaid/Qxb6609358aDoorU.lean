import Derived.Test.Qxb6609358aDoorS
namespace Go.Proofs.Qxb6609358aDoor.A
open Go.ChangeShapes Go.WideShapes Go.ChangeAt Go.RowKit P T
set_option linter.unusedVariables false
attribute [local go_sem] a9_9 a9_79 a9_88 a88_9 a88_88 aN_9 aN_79 aN_88

def IsLast (kf : Nat → ByteArray) (m : Nat) (q : List UInt8) (j : Nat) : Prop := j < m ∧ L (kf j) = q ∧ ∀ l, j < l → l < m → L (kf l) ≠ q
def NoKey (kf : Nat → ByteArray) (m : Nat) (q : List UInt8) : Prop := ∀ j, j < m → L (kf j) ≠ q
theorem last_or (kf : Nat → ByteArray) (q : List UInt8) : ∀ m, (∃ j, IsLast kf m q j) ∨ NoKey kf m q
  | 0 => .inr fun j hj => absurd hj (Nat.not_lt_zero _)
  | m + 1 => by
    by_cases h : L (kf m) = q
    · exact .inl ⟨m, Nat.lt_succ_self m, h, fun l h1 h2 => absurd h1 (by omega)⟩
    · rcases last_or kf q m with ⟨j, h1, h2, h3⟩ | h1
      · refine .inl ⟨j, by omega, h2, fun l h4 h5 => ?_⟩
        by_cases hl : l = m
        · subst hl; exact h
        · exact h3 l h4 (by omega)
      · refine .inr fun j hj => ?_
        by_cases hl : j = m
        · subst hl; exact h
        · exact h1 j (by omega)

/-- The datum behind m stores. -/
abbrev DM (kf vf : Nat → ByteArray) (m : Nat) : DataW Unit := dm (fun i => L (kf i)) (fun i => L (vf i)) m

/-- What Evaluate answers on the object in block d. -/
def EObj (d m : Nat) (kf vf : Nat → ByteArray) (ts : List (List UInt8)) (e : Ending) (w' : World) : Prop :=
  (ts = [] ∧ e = .returned (.tuple #[.iface 88 (.map (some d)), .nilIface])) ∨
  (∃ q rest b tok, ts = q :: rest ∧ NoKey kf m q ∧ L tok = q ∧ e = .returned (.tuple #[.nilIface, .iface 84 (.pointer (some ⟨b, 0, none⟩))]) ∧ w'.heap[b]? = some (.cells #[.string kMem, .int .i64 1, .string tok] 87 (0, 0))) ∨
  (∃ q q2 rest b tok j, ts = q :: q2 :: rest ∧ IsLast kf m q j ∧ L tok = q2 ∧ e = .returned (.tuple #[.nilIface, .iface 84 (.pointer (some ⟨b, 0, none⟩))]) ∧ w'.heap[b]? = some (.cells #[.string kCont, .int .i64 2, .string tok] 87 (0, 0))) ∨
  (∃ q j, ts = [q] ∧ IsLast kf m q j ∧ e = .returned (.tuple #[.iface 9 (.string (vf j)), .nilIface]))

/-- Evaluate on an object of strings. -/
theorem eval_obj (v : Value) (t : ByteArray) (ts : List (List UInt8)) (d n m : Nat) (kf vf : Nat → ByteArray) (w : World) (h : PtrIs w v t ts) (hd : Own w d n (DM kf vf m)) :
    Calls Tryd.prog 40 #[.agg #[.string t, v], .iface 88 (.map (some d))] w fun e w' => EObj d m kf vf ts e w' ∧ Below w.heap.size w w' := by
  have ht := h.2.1
  match ts, h with
  | [], h =>
    refine (eval_nil v _ t w h).mono ?_
    rintro e w' ⟨rfl, hB⟩
    exact ⟨.inl ⟨rfl, rfl⟩, hB⟩
  | q :: rest, h =>
    have hLx : L (t.extract 1 (1 + q.length)) = q := by
      have := tok_L t [] rest q h.1
      simpa [txt] using this
    have hxs : (t.extract 1 (1 + q.length)).size ≤ 9223372036854775807 := by
      have : (t.extract 1 (1 + q.length)).size ≤ t.size := by simp; omega
      omega
    rcases last_or kf q m with ⟨j, hk⟩ | hk
    · obtain ⟨hh, ha⟩ := last_key (fun i => L (kf i)) (fun i => L (vf i)) q j hk.2.1 m hk.1 hk.2.2
      have hsel : ∀ W, Below w.heap.size w W → Calls Tryd.prog 60 #[.iface 88 (.map (some d)), .string (t.extract 1 (1 + q.length))] W fun e w' => e = .returned (.tuple #[.iface 9 (.string (vf j)), .string kNone]) ∧ w' = W := fun W hW =>
        selm_ok d n _ _ (vf j) W hxs (hd.below hW) (by rw [hLx]; exact hh) (by rw [hLx]; exact ha)
      match rest, h with
      | [], h =>
        refine (eval_one v _ t _ q w h hsel).mono ?_
        rintro e w' ⟨rfl, hB⟩
        exact ⟨.inr (.inr (.inr ⟨q, j, rfl, hk, rfl⟩)), hB⟩
      | q2 :: rest, h =>
        refine (eval_two v _ t _ q q2 rest w h hsel).mono ?_
        rintro e w' ⟨⟨b, rfl, hb, _⟩, hB⟩
        refine ⟨.inr (.inr (.inl ⟨q, q2, rest, b, _, j, rfl, hk, ?_, rfl, hb⟩)), hB⟩
        have := tok_L t [q] rest q2 h.1
        simpa [txt, Nat.add_comm, Nat.add_left_comm, Nat.add_assoc] using this
    · have hh := no_key (fun i => L (kf i)) (fun i => L (vf i)) q m hk
      have hsel : ∀ W, Below w.heap.size w W → Calls Tryd.prog 60 #[.iface 88 (.map (some d)), .string (t.extract 1 (1 + q.length))] W fun e w' => e = .returned (.tuple #[.nilIface, .string kMem]) ∧ w' = W := fun W hW =>
        selm_no d n _ _ W hxs (hd.below hW) (by rw [hLx]; exact hh)
      refine (eval_bad v _ t _ q rest w h (by rw [Lib.toList_data]; rfl) hsel).mono ?_
      rintro e w' ⟨⟨b, rfl, hb, _⟩, hB⟩
      exact ⟨.inr (.inl ⟨q, rest, b, _, rfl, hk, hLx, rfl, hb⟩), hB⟩
end Go.Proofs.Qxb6609358aDoor.A
