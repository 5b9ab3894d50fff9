/-
  Plain lists of bytes: JSON Pointers: well-formed texts, their tokens, the decoded text and its ends.
-/
namespace Go.Proofs.Qxb6609358aDoor.P

/-- Every '~' is followed by '0' or '1' (true: a '~' stands just before). -/
def wf : Bool → List UInt8 → Bool
  | false, [] => true
  | true, [] => false
  | false, c :: l => wf (if c = 126 then true else false) l
  | true, c :: l => (if c = 48 then true else if c = 49 then true else false) && wf false l
/-- The decoded bytes. -/
def dec : Bool → List UInt8 → List UInt8
  | _, [] => []
  | false, c :: l => if c = 126 then dec true l else c :: dec false l
  | true, c :: l => (if c = 49 then 47 else 126) :: dec false l
/-- The stretches between the slashes: the first, and the others. -/
def sp : List UInt8 → List UInt8 × List (List UInt8)
  | [] => ([], [])
  | c :: l => if c = 47 then ([], (sp l).1 :: (sp l).2) else (c :: (sp l).1, (sp l).2)
def raw (l : List UInt8) : List (List UInt8) := (sp l).1 :: (sp l).2
/-- The decoded tokens of what stands behind the first slash. -/
def toks (l : List UInt8) : List (List UInt8) := (raw l).map (dec false)
/-- The law's own reading of them. -/
def pt : Bool → List UInt8 → List UInt8 → List (List UInt8)
  | _, cur, [] => [cur]
  | false, cur, c :: l => if c = 47 then cur :: pt false [] l else if c = 126 then pt true cur l else pt false (cur ++ [c]) l
  | true, cur, c :: l => pt false (cur ++ [if c = 49 then 47 else 126]) l
/-- Each token behind a slash. -/
def txt : List (List UInt8) → List UInt8
  | [] => []
  | t :: ts => 47 :: (t ++ txt ts)
/-- Where each token ends, a text of n bytes standing ahead. -/
def cum : Nat → List (List UInt8) → List Nat
  | _, [] => []
  | n, t :: ts => (n + 1 + t.length) :: cum (n + 1 + t.length) ts

theorem pt_toks : ∀ (b : Bool) (cur l : List UInt8), wf b l = true → pt b cur l = (cur ++ dec b (sp l).1) :: (sp l).2.map (dec false)
  | false, cur, [], _ => by simp [pt, sp, dec]
  | true, cur, [], h => by simp [wf] at h
  | false, cur, c :: l, h => by
    rw [wf] at h
    by_cases h47 : c = 47
    · subst h47
      have ih := pt_toks false [] l (by simpa using h)
      simp [pt, sp, dec, ih]
    · by_cases h126 : c = 126
      · subst h126
        have ih := pt_toks true cur l (by simpa using h)
        simp [pt, sp, dec, ih]
      · have ih := pt_toks false (cur ++ [c]) l (by simpa [h126] using h)
        simp [pt, sp, dec, h47, h126, ih]
  | true, cur, c :: l, h => by
    rw [wf] at h
    simp only [Bool.and_eq_true] at h
    have hc : c ≠ 47 := by rintro rfl; simp at h
    have ih := pt_toks false (cur ++ [if c = 49 then 47 else 126]) l h.2
    simp [pt, sp, dec, hc, ih]
theorem pt_eq (l : List UInt8) (h : wf false l = true) : pt false [] l = toks l := by
  rw [pt_toks false [] l h]; simp [toks, raw]

theorem txt_append (a b : List (List UInt8)) : txt (a ++ b) = txt a ++ txt b := by
  induction a with
  | nil => rfl
  | cons t a ih => simp [txt, ih]
theorem cum_append (n : Nat) (a b : List (List UInt8)) : cum n (a ++ b) = cum n a ++ cum (n + (txt a).length) b := by
  induction a generalizing n with
  | nil => simp [cum, txt]
  | cons t a ih => simp [cum, txt, ih, show n + 1 + t.length + (txt a).length = n + (t.length + (txt a).length + 1) by omega]
theorem cum_len (n : Nat) (a : List (List UInt8)) : (cum n a).length = a.length := by
  induction a generalizing n with
  | nil => rfl
  | cons t a ih => simp [cum, ih]

/-- The raw stretches, each behind a slash, are the text itself. -/
theorem txt_raw (l : List UInt8) : txt (raw l) = 47 :: l := by
  induction l with
  | nil => simp [raw, sp, txt]
  | cons c l ih =>
    unfold raw sp
    by_cases h : c = 47
    · subst h
      simp only [if_true, txt, List.nil_append]
      rw [← ih]; rfl
    · simp only [if_neg h, txt]
      have : txt (raw l) = 47 :: ((sp l).1 ++ txt (sp l).2) := rfl
      rw [this] at ih
      simp at ih ⊢
      exact ih
theorem raw_no47 (l : List UInt8) : ∀ t ∈ raw l, ∀ c ∈ t, c ≠ 47 := by
  induction l with
  | nil => intro t ht c hc; simp [raw, sp] at ht; subst ht; cases hc
  | cons d l ih =>
    unfold raw sp
    by_cases h : d = 47
    · simp only [if_pos h]
      intro t ht
      rcases List.mem_cons.1 ht with rfl | ht
      · intro c hc; cases hc
      · exact ih t ht
    · simp only [if_neg h]
      intro t ht
      rcases List.mem_cons.1 ht with rfl | ht
      · intro c hc
        rcases List.mem_cons.1 hc with rfl | hc
        · exact h
        · exact ih (sp l).1 (List.mem_cons_self ..) c hc
      · exact ih t (List.mem_cons_of_mem _ ht)

/-- Well-formed as a whole: well-formed token by token. -/
theorem wf_raw : ∀ (b : Bool) (l : List UInt8), wf b l = true → wf b (sp l).1 = true ∧ ∀ t ∈ (sp l).2, wf false t = true
  | false, [], _ => ⟨rfl, fun t ht => by cases ht⟩
  | true, [], h => by simp [wf] at h
  | false, c :: l, h => by
    rw [wf] at h
    by_cases h47 : c = 47
    · subst h47
      have ih := wf_raw false l (by simpa using h)
      refine ⟨by simp [sp, wf], fun t ht => ?_⟩
      simp [sp] at ht
      rcases ht with rfl | ht
      · exact ih.1
      · exact ih.2 t ht
    · by_cases h126 : c = 126
      · subst h126
        have ih := wf_raw true l (by simpa using h)
        exact ⟨by simp [sp, wf, ih.1], by simpa [sp] using ih.2⟩
      · have ih := wf_raw false l (by simpa [h126] using h)
        exact ⟨by simp [sp, h47, wf, h126, ih.1], by simpa [sp, h47] using ih.2⟩
  | true, c :: l, h => by
    rw [wf] at h
    simp only [Bool.and_eq_true] at h
    have hc : c ≠ 47 := by rintro rfl; simp at h
    have ih := wf_raw false l h.2
    refine ⟨?_, by simpa [sp, hc] using ih.2⟩
    simp only [sp, if_neg hc, wf, ih.1, Bool.and_true]
    exact h.1
theorem wf_toks (l : List UInt8) (h : wf false l = true) : ∀ t ∈ raw l, wf false t = true := by
  have := wf_raw false l h
  intro t ht
  rcases List.mem_cons.1 ht with rfl | ht
  · exact this.1
  · exact this.2 t ht

theorem dec_le : ∀ (b : Bool) (l : List UInt8), (dec b l).length ≤ l.length
  | _, [] => by cases ‹Bool› <;> simp [dec]
  | false, c :: l => by
    by_cases h : c = 126
    · have := dec_le true l; simp [dec, h]; omega
    · have := dec_le false l; simp [dec, h]; omega
  | true, c :: l => by have := dec_le false l; simp [dec]; omega

/-- No '~': decoding changes nothing. -/
theorem dec_same (l : List UInt8) (h : ∀ c ∈ l, c ≠ 126) : dec false l = l := by
  induction l with
  | nil => rfl
  | cons c l ih => simp [dec, h c (List.mem_cons_self ..), ih (fun d hd => h d (List.mem_cons_of_mem _ hd))]
theorem raw_mem (l : List UInt8) : ∀ t ∈ raw l, ∀ c ∈ t, c ∈ l := by
  induction l with
  | nil => intro t ht c hc; simp [raw, sp] at ht; subst ht; cases hc
  | cons d l ih =>
    unfold raw sp
    by_cases h : d = 47
    · simp only [if_pos h]
      intro t ht c hc
      rcases List.mem_cons.1 ht with rfl | ht
      · cases hc
      · exact List.mem_cons_of_mem _ (ih t ht c hc)
    · simp only [if_neg h]
      intro t ht c hc
      rcases List.mem_cons.1 ht with rfl | ht
      · rcases List.mem_cons.1 hc with rfl | hc
        · exact List.mem_cons_self ..
        · exact List.mem_cons_of_mem _ (ih (sp l).1 (List.mem_cons_self ..) c hc)
      · exact List.mem_cons_of_mem _ (ih t (List.mem_cons_of_mem _ ht) c hc)
theorem toks_same (l : List UInt8) (h : ∀ c ∈ l, c ≠ 126) : toks l = raw l := by
  unfold toks
  rw [List.map_congr_left (g := id) (fun t ht => dec_same t (fun c hc => h c (raw_mem l t ht c hc)))]
  simp

/-- Does the pair '~' '1' stand in it (true: a '~' stands just before)? -/
def has1 : Bool → List UInt8 → Bool
  | _, [] => false
  | false, c :: l => has1 (if c = 126 then true else false) l
  | true, c :: l => (if c = 49 then true else false) || has1 (if c = 126 then true else false) l

/-- Where it doesn't, no token holds a slash. -/
theorem dec_no47 : ∀ (b : Bool) (l : List UInt8), wf b l = true → has1 b l = false → (∀ c ∈ l, c ≠ 47) → ∀ c ∈ dec b l, c ≠ 47
  | _, [], _, _, _ => by intro c hc; cases ‹Bool› <;> simp [dec] at hc
  | false, d :: l, hw, h1, hn => by
    rw [wf] at hw
    rw [has1] at h1
    have hn' : ∀ c ∈ l, c ≠ 47 := fun c hc => hn c (List.mem_cons_of_mem _ hc)
    by_cases h : d = 126
    · simp [h] at hw h1
      simpa [dec, h] using dec_no47 true l hw h1 hn'
    · simp [h] at hw h1
      intro c hc
      simp [dec, h] at hc
      rcases hc with rfl | hc
      · exact hn c (List.mem_cons_self ..)
      · exact dec_no47 false l hw h1 hn' c hc
  | true, d :: l, hw, h1, hn => by
    rw [wf] at hw
    rw [has1] at h1
    simp only [Bool.and_eq_true] at hw
    simp only [Bool.or_eq_false_iff] at h1
    have hn' : ∀ c ∈ l, c ≠ 47 := fun c hc => hn c (List.mem_cons_of_mem _ hc)
    have h49 : d ≠ 49 := by rintro rfl; simp at h1
    have h48 : d = 48 := by
      by_cases h48 : d = 48
      · exact h48
      · simp [h48, h49] at hw
    subst h48
    intro c hc
    simp [dec] at hc
    rcases hc with rfl | hc
    · decide
    · exact dec_no47 false l hw.2 (by simpa using h1.2) hn' c hc

theorem has1_sub : ∀ (b : Bool) (l : List UInt8), has1 b l = false → has1 b (sp l).1 = false ∧ ∀ t ∈ (sp l).2, has1 false t = false
  | _, [], _ => ⟨by cases ‹Bool› <;> rfl, fun t ht => by cases ht⟩
  | b, c :: l, h => by
    have h' : has1 (if c = 126 then true else false) l = false := by
      cases b with
      | false => rw [has1] at h; exact h
      | true => rw [has1] at h; simp only [Bool.or_eq_false_iff] at h; exact h.2
    by_cases h47 : c = 47
    · subst h47
      have ih := has1_sub false l (by simpa using h')
      refine ⟨by cases b <;> simp [sp, has1], fun t ht => ?_⟩
      simp [sp] at ht
      rcases ht with rfl | ht
      · exact ih.1
      · exact ih.2 t ht
    · have ih := has1_sub _ l h'
      refine ⟨?_, by simpa [sp, h47] using ih.2⟩
      cases b with
      | false => simp only [sp, if_neg h47, has1]; exact ih.1
      | true =>
        rw [has1] at h
        simp only [Bool.or_eq_false_iff] at h
        simp only [sp, if_neg h47, has1, ih.1, Bool.or_false]
        exact h.1
theorem toks_no47 (l : List UInt8) (hw : wf false l = true) (h1 : has1 false l = false) : ∀ t ∈ toks l, ∀ c ∈ t, c ≠ 47 := by
  intro t ht
  unfold toks at ht
  obtain ⟨u, hu, rfl⟩ := List.mem_map.1 ht
  have hs := has1_sub false l h1
  have h1u : has1 false u = false := by
    rcases List.mem_cons.1 hu with rfl | hu'
    · exact hs.1
    · exact hs.2 u hu'
  exact dec_no47 false u (wf_toks l hw u hu) h1u (raw_no47 l u hu)

end Go.Proofs.Qxb6609358aDoor.P
