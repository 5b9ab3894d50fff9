/-
  Plain lists of bytes: the quote automaton of the laws (states 0, 1, 2), what it keeps, and the quoted strings' contents.
-/
namespace Go.Proofs.Qxb6003626a.QuoP

/-- One step of the automaton. -/
def stp (st : Nat) (c : UInt8) : Nat := if st = 0 then (if c = 34 then 1 else 0) else if st = 1 then (if c = 92 then 2 else if c = 34 then 0 else 1) else 1
/-- What it keeps of a byte. -/
def emit (st : Nat) (c : UInt8) : List UInt8 := if st = 0 then (if c = 34 then [] else [c]) else if st = 1 then (if c = 92 then [] else if c = 34 then [] else [c]) else [c]
def endSt : Nat → List UInt8 → Nat
  | st, [] => st
  | st, c :: l => endSt (stp st c) l
def out : Nat → List UInt8 → List UInt8
  | _, [] => []
  | st, c :: l => emit st c ++ out (stp st c) l

theorem endSt_append (st : Nat) (a b : List UInt8) : endSt st (a ++ b) = endSt (endSt st a) b := by
  induction a generalizing st with
  | nil => rfl
  | cons c a ih => simp [endSt, ih]
theorem out_append (st : Nat) (a b : List UInt8) : out st (a ++ b) = out st a ++ out (endSt st a) b := by
  induction a generalizing st with
  | nil => rfl
  | cons c a ih => simp [out, endSt, ih]
theorem stp_le (st : Nat) (c : UInt8) : stp st c ≤ 2 := by unfold stp; split <;> (try split) <;> (try split) <;> (try split) <;> omega
theorem endSt_le (st : Nat) (l : List UInt8) (h : st ≤ 2) : endSt st l ≤ 2 := by
  induction l generalizing st with
  | nil => exact h
  | cons c l ih => exact ih _ (stp_le st c)
theorem emit_le (st : Nat) (c : UInt8) : (emit st c).length ≤ 1 := by unfold emit; split <;> (try split) <;> (try split) <;> (try split) <;> simp
theorem out_le (st : Nat) (l : List UInt8) : (out st l).length ≤ l.length := by
  induction l generalizing st with
  | nil => simp [out]
  | cons c l ih => have h1 := ih (stp st c); have h2 := emit_le st c; simp [out]; omega

/-- The content of a quoted string: it is never closed inside, and no quoted pair is cut off at its end. -/
def body : Bool → List UInt8 → Bool
  | false, [] => true
  | true, [] => false
  | false, c :: l => if c = 34 then false else body (if c = 92 then true else false) l
  | true, _ :: l => body false l

theorem body_end : ∀ (b : Bool) (q : List UInt8), body b q = true → endSt (if b then 2 else 1) q = 1
  | false, [], _ => rfl
  | true, [], h => by simp [body] at h
  | false, c :: l, h => by
    rw [body] at h
    by_cases h34 : c = 34
    · simp [h34] at h
    · rw [if_neg h34] at h
      have ih := body_end _ l h
      by_cases h92 : c = 92
      · simp [h92] at ih; simp [endSt, stp, h92, ih]
      · simp [h92] at ih; simp [endSt, stp, h92, h34, ih]
  | true, c :: l, h => by
    rw [body] at h
    have ih := body_end _ l h
    simp at ih
    simp [endSt, stp, ih]

theorem out_body (q r : List UInt8) (h : body false q = true) : out 0 (34 :: (q ++ 34 :: r)) = out 1 q ++ out 0 r := by
  have he := body_end false q h
  simp at he
  simp [out, emit, stp, out_append, he]
theorem endSt_body (q r : List UInt8) (h : body false q = true) : endSt 0 (34 :: (q ++ 34 :: r)) = endSt 0 r := by
  have he := body_end false q h
  simp at he
  simp [endSt, stp, endSt_append, he]

/-- Where a string that has been opened is closed at the end, its content stands at its head. -/
theorem split_body : ∀ (n : Nat) (b : Bool) (l : List UInt8), l.length ≤ n → endSt (if b then 2 else 1) l = 0 → ∃ q r, l = q ++ 34 :: r ∧ body b q = true ∧ endSt 0 r = 0
  | _, false, [], _, h => by simp [endSt] at h
  | _, true, [], _, h => by simp [endSt] at h
  | 0, _, _ :: _, hn, _ => by simp at hn
  | n + 1, false, c :: l, hn, h => by
    by_cases h34 : c = 34
    · subst h34
      exact ⟨[], l, rfl, rfl, by simpa [endSt, stp] using h⟩
    · have h' : endSt (if (if c = 92 then true else false) = true then 2 else 1) l = 0 := by
        by_cases h92 : c = 92
        · simpa [endSt, stp, h92] using h
        · simpa [endSt, stp, h92, h34] using h
      obtain ⟨q, r, rfl, hb, hr⟩ := split_body n _ l (by simp at hn; exact hn) h'
      exact ⟨c :: q, r, rfl, by rw [body, if_neg h34]; exact hb, hr⟩
  | n + 1, true, c :: l, hn, h => by
    have h' : endSt (if false = true then 2 else 1) l = 0 := by simpa [endSt, stp] using h
    obtain ⟨q, r, rfl, hb, hr⟩ := split_body n false l (by simp at hn; exact hn) h'
    exact ⟨c :: q, r, rfl, by rw [body]; exact hb, hr⟩

theorem split_open (l : List UInt8) (h : endSt 0 (34 :: l) = 0) : ∃ q r, l = q ++ 34 :: r ∧ body false q = true ∧ endSt 0 r = 0 :=
  split_body l.length false l (Nat.le_refl _) (by simpa [endSt, stp] using h)

theorem out_plain (l : List UInt8) (h : ∀ c ∈ l, c ≠ 34) : out 0 l = l := by
  induction l with
  | nil => rfl
  | cons c l ih =>
    have hc := h c (List.mem_cons_self ..)
    simp [out, emit, stp, hc, ih (fun x hx => h x (List.mem_cons_of_mem _ hx))]
theorem endSt_plain (l : List UInt8) (h : ∀ c ∈ l, c ≠ 34) : endSt 0 l = 0 := by
  induction l with
  | nil => rfl
  | cons c l ih =>
    have hc := h c (List.mem_cons_self ..)
    simp [endSt, stp, hc, ih (fun x hx => h x (List.mem_cons_of_mem _ hx))]

theorem out_bare (q : List UInt8) (h : body false q = true) (hn : ∀ c ∈ q, c ≠ 92) : out 1 q = q := by
  induction q with
  | nil => rfl
  | cons c q ih =>
    have hc := hn c (List.mem_cons_self ..)
    rw [body] at h
    by_cases h34 : c = 34
    · simp [h34] at h
    · rw [if_neg h34] at h
      simp [hc] at h
      simp [out, emit, stp, hc, h34, ih h (fun x hx => hn x (List.mem_cons_of_mem _ hx))]

theorem body_bare (q : List UInt8) (h1 : ∀ c ∈ q, c ≠ 34) (h2 : ∀ c ∈ q, c ≠ 92) : body false q = true := by
  induction q with
  | nil => rfl
  | cons c q ih =>
    have ha := h1 c (List.mem_cons_self ..)
    have hb := h2 c (List.mem_cons_self ..)
    simp [body, ha, hb, ih (fun x hx => h1 x (List.mem_cons_of_mem _ hx)) (fun x hx => h2 x (List.mem_cons_of_mem _ hx))]

/-- The head of a content that is not a backslash. -/
theorem body_step (c : UInt8) (q : List UInt8) (h : body false (c :: q) = true) (hc : c ≠ 92) : c ≠ 34 ∧ body false q = true ∧ out 1 (c :: q) = c :: out 1 q := by
  rw [body] at h
  by_cases h34 : c = 34
  · simp [h34] at h
  · rw [if_neg h34] at h
    simp [hc] at h
    exact ⟨h34, h, by simp [out, emit, stp, hc, h34]⟩
/-- .. that is one. -/
theorem body_pair (q : List UInt8) (h : body false (92 :: q) = true) : ∃ d r, q = d :: r ∧ body false r = true ∧ out 1 (92 :: q) = d :: out 1 r := by
  cases q with
  | nil => simp [body] at h
  | cons d r => exact ⟨d, r, rfl, by simpa [body] using h, by simp [out, emit, stp]⟩

end Go.Proofs.Qxb6003626a.QuoP
