/-
  Plain lists of numbers (bytes): the encoded string, and where a string that has been opened ends.
-/
namespace Go.Proofs.Qxb6600482a.EndP

/-- The content of a quoted string: not closed inside, no escape cut off at its end. -/
def body : Bool → List Int → Bool
  | false, [] => true
  | true, [] => false
  | false, c :: l => if c = 34 then false else body (if c = 92 then true else false) l
  | true, _ :: l => body false l

/-- How one byte is written. -/
def piece (c : Int) : List Int := if c = 34 then [92, 34] else if c = 92 then [92, 92] else if c = 10 then [92, 110] else [c]
def enc : List Int → List Int
  | [] => []
  | c :: l => piece c ++ enc l

theorem enc_append (a b : List Int) : enc (a ++ b) = enc a ++ enc b := by
  induction a with
  | nil => rfl
  | cons c a ih => simp [enc, ih]
theorem piece_le (c : Int) : (piece c).length ≤ 2 := by unfold piece; split <;> (try split) <;> (try split) <;> simp
theorem enc_le (l : List Int) : (enc l).length ≤ 2 * l.length := by
  induction l with
  | nil => simp [enc]
  | cons c l ih => have := piece_le c; simp [enc]; omega
theorem enc_body (l : List Int) : body false (enc l) = true := by
  induction l with
  | nil => rfl
  | cons c l ih =>
    unfold enc piece
    by_cases h1 : c = 34
    · simp [h1, body, ih]
    · by_cases h2 : c = 92
      · simp [h2, body, ih]
      · by_cases h3 : c = 10
        · simp [h3, body, ih]
        · simp [h1, h2, h3, body, ih]

theorem drop_split {q : List Int} {k : Nat} {c : Int} {l : List Int} (h : q.drop k = c :: l) : k + 1 ≤ q.length ∧ q.drop (k + 1) = l := by
  have h1 : k < q.length := by
    rcases Nat.lt_or_ge k q.length with h' | h'
    · exact h'
    · rw [List.drop_eq_nil_of_le h'] at h; cases h
  rw [List.drop_eq_getElem_cons h1] at h
  exact ⟨h1, (List.cons.inj h).2⟩

theorem step92 {q r t : List Int} {k : Nat} {c : Int} (hb : body false (q.drop k) = true) (h : q.drop k ++ 34 :: r = c :: t) (hc : c = 92) : k + 2 ≤ q.length ∧ body false (q.drop (k + 2)) = true := by
  subst hc
  cases hl : q.drop k with
  | nil => rw [hl] at h; simp at h
  | cons d l =>
    rw [hl] at h hb
    obtain rfl : d = 92 := (List.cons.inj h).1
    cases l with
    | nil => simp [body] at hb
    | cons e l' =>
      obtain ⟨_, h4⟩ := drop_split hl
      obtain ⟨h5, h6⟩ := drop_split h4
      exact ⟨h5, by rw [h6]; simpa [body] using hb⟩
theorem step34 {q r t : List Int} {k : Nat} {c : Int} (hk : k ≤ q.length) (hb : body false (q.drop k) = true) (h : q.drop k ++ 34 :: r = c :: t) (hc : c = 34) : k = q.length := by
  subst hc
  cases hl : q.drop k with
  | nil => have := List.drop_eq_nil_iff.1 hl; omega
  | cons d l =>
    rw [hl] at h hb
    obtain rfl : d = 34 := (List.cons.inj h).1
    simp [body] at hb
theorem stepElse {q r t : List Int} {k : Nat} {c : Int} (hb : body false (q.drop k) = true) (h : q.drop k ++ 34 :: r = c :: t) (h1 : c ≠ 92) (h2 : c ≠ 34) : k + 1 ≤ q.length ∧ body false (q.drop (k + 1)) = true := by
  cases hl : q.drop k with
  | nil => rw [hl] at h; exact absurd (List.cons.inj h).1.symm h2
  | cons d l =>
    rw [hl] at h hb
    obtain rfl : d = c := (List.cons.inj h).1
    obtain ⟨h3, h4⟩ := drop_split hl
    refine ⟨h3, ?_⟩
    rw [h4]
    rw [body, if_neg h2] at hb
    simpa [h1] using hb

end Go.Proofs.Qxb6600482a.EndP
