/-
  Plain lists of bytes: the two laws of readLocalPart's reading.
-/
import Derived.Test.Qxb6003626aLocP
namespace Go.Proofs.Qxb6003626a.LocQ
open Go LocP

theorem steps_succ (pf : Bool) (S : List UInt8) : ∀ (f : Nat) (l r : Nat) (b : Option (Nat × List UInt8 × List UInt8)) (p : Option (Nat × List UInt8)), r ≤ S.length → l ≤ r → (∀ i hp, b = some (i, hp) → l ≤ i) → (∀ i nm, p = some (i, nm) → i < r) → r - l ≤ f →
    steps pf S (f + 1) l r b p = steps pf S f l r b p
  | 0, l, r, b, p, hr, hl, hb, hp, hf => by
    have h1 : canP p l = false := by
      cases p with
      | none => rfl
      | some x => have := hp x.1 x.2 rfl; simp [canP]; omega
    have h2 : canB b r = false := by
      cases b with
      | none => rfl
      | some x => have := hb x.1 x.2 rfl; simp [canB]; omega
    rw [steps_end h1 h2, steps_end h1 h2]
  | f + 1, l, r, b, p, hr, hl, hb, hp, hf => by
    by_cases c1 : (canP p l && (pf || !canB b r)) = true
    · cases p with
      | none => simp [canP] at c1
      | some x =>
        obtain ⟨i, nm⟩ := x
        simp only [Bool.and_eq_true, canP, decide_eq_true_eq] at c1
        have hi := hp i nm rfl
        rw [steps_pct c1.1 c1.2, steps_pct c1.1 c1.2]
        rw [steps_succ pf S f l i b (lpct S l i) (by omega) (by omega) hb (fun j m h => (lpct_some h).2.1) (by omega)]
    · by_cases c2 : canB b r = true
      · cases b with
        | none => simp [canB] at c2
        | some x =>
          obtain ⟨i, hq⟩ := x
          have c2' : i + 1 < r := by simpa [canB] using c2
          have hi := hb i hq rfl
          have c3 : (canP p l && pf) = false := by
            cases h : (canP p l && pf) with
            | false => rfl
            | true => simp only [Bool.and_eq_true] at h; exact absurd (by simp [h.1, h.2]) c1
          rw [steps_bang c2' c3, steps_bang c2' c3]
          rw [steps_succ pf S f (i + 1) r (fbang S (i + 1) r) p hr (by omega) (fun j m h => (fbang_some hr h).1) hp (by omega)]
      · have c2' : canB b r = false := by simpa using c2
        have c1' : canP p l = false := by
          cases h : canP p l with
          | false => rfl
          | true => exact absurd (by simp [h, c2']) c1
        rw [steps_end c1' c2', steps_end c1' c2']

theorem steps_more (pf : Bool) (S : List UInt8) (k : Nat) (f : Nat) (l r : Nat) (b : Option (Nat × List UInt8 × List UInt8)) (p : Option (Nat × List UInt8)) (hr : r ≤ S.length) (hl : l ≤ r) (hb : ∀ i hp, b = some (i, hp) → l ≤ i) (hp : ∀ i nm, p = some (i, nm) → i < r) (hf : r - l ≤ f) :
    steps pf S (f + k) l r b p = steps pf S f l r b p := by
  induction k with
  | zero => rfl
  | succ k ih => rw [show f + (k + 1) = (f + k) + 1 by omega, steps_succ pf S (f + k) l r b p hr hl hb hp (by omega), ih]

theorem sub_all (S : List UInt8) : sub S 0 S.length = S := by unfold sub; rw [List.drop_zero, Nat.sub_zero, List.take_length]

theorem index_at (h t : List UInt8) (c : UInt8) (hn : ∀ x ∈ h, x ≠ c) : Lib.indexByte (h ++ c :: t) c = (h.length : Int) := by
  induction h with
  | nil => simp [Lib.indexByte]
  | cons x h ih =>
    have hx := hn x (List.mem_cons_self ..)
    rw [List.cons_append, Lib.indexByte, if_neg (by simpa using hx), ih (fun y hy => hn y (List.mem_cons_of_mem _ hy)), if_neg (by simp)]
    simp

theorem index_app (s t : List UInt8) (c : UInt8) (hn : ∀ x ∈ t, x ≠ c) : Lib.indexByte (s ++ t) c = Lib.indexByte s c := by
  induction s with
  | nil =>
    induction t with
    | nil => rfl
    | cons x t ih =>
      have hx := hn x (List.mem_cons_self ..)
      have := ih (fun y hy => hn y (List.mem_cons_of_mem _ hy))
      simp only [List.nil_append] at this ⊢
      show Lib.indexByte (x :: t) c = -1
      rw [show Lib.indexByte (x :: t) c = if (x == c) = true then 0 else if (Lib.indexByte t c == -1) = true then -1 else Lib.indexByte t c + 1 from rfl, if_neg (by simpa using hx), this]
      rfl
  | cons x s ih => rw [List.cons_append, Lib.indexByte, Lib.indexByte, ih]

theorem containsAny_no (h cs : List UInt8) (hn : ∀ x ∈ h, cs.contains x = false) : Lib.containsAny h cs = false := by
  have : Lib.indexAny h cs = -1 := by
    induction h with
    | nil => rfl
    | cons x h ih =>
      rw [Lib.indexAny, hn x (List.mem_cons_self ..), ih (fun y hy => hn y (List.mem_cons_of_mem _ hy))]
      rfl
  unfold Lib.containsAny
  rw [this]
  rfl

theorem trim_no (h : List UInt8) (hn : ∀ x ∈ h, x ≠ 46) : Lib.trimSuffix h [46] = h := by
  unfold Lib.trimSuffix
  rw [if_neg]
  unfold Lib.hasSuffix
  rw [List.isSuffixOf_iff_suffix]
  rintro ⟨t, rfl⟩
  exact hn 46 (by simp) rfl

theorem nameB_not {c : UInt8} (h : nameB c = true) : c ≠ 33 ∧ c ≠ 37 ∧ c ≠ 91 := by
  refine ⟨?_, ?_, ?_⟩ <;> rintro rfl <;> exact absurd h (by decide)

/-- A '!' step taken first: the whole's reading is the hop, then the rest's. -/
theorem bang_law (h s : List UInt8) (hne : h ≠ []) (hall : ∀ c ∈ h, nameB c = true ∧ c ≠ 46) (hs : s ≠ []) :
    total false (h ++ 33 :: s) = ((h, uucp) :: (total false s).1, (total false s).2) := by
  have hlen : (h ++ 33 :: s).length = h.length + 1 + s.length := by simp; omega
  have hsl : s.length ≠ 0 := by simpa using hs
  have e0 : sub (h ++ 33 :: s) 0 (h ++ 33 :: s).length = h ++ 33 :: s := sub_all _
  have e1 : Lib.indexByte (h ++ 33 :: s) 33 = (h.length : Int) := index_at h s 33 (fun x hx => (nameB_not (hall x hx).1).1)
  have e2 : (h ++ 33 :: s).take h.length = h := by simp
  have fb : fbang (h ++ 33 :: s) 0 (h ++ 33 :: s).length = some (h.length, h, uucp) := by
    unfold fbang
    rw [e0, e1, if_neg (by omega), Int.toNat_natCast, e2, if_pos (isHopB_name hne (fun c hc => (hall c hc).1)), trim_no h (fun c hc => (hall c hc).2), if_neg hne, Nat.zero_add]
    rw [containsAny_no h [46, 91] (fun x hx => by
      have := (hall x hx).2
      have := (nameB_not (hall x hx).1).2.2
      simp [*])]
    rfl
  have hA : ((h ++ 33 :: s).drop (h.length + 1)).take s.length = s := by
    rw [show h ++ 33 :: s = (h ++ [33]) ++ s by simp, List.drop_append_of_le_length (by simp)]
    simp
  have hget : ∀ i, (h ++ 33 :: s).getD (i + (h.length + 1)) 0 = s.getD i 0 := by
    intro i
    rw [show h ++ 33 :: s = (h ++ [33]) ++ s by simp]
    rw [List.getD_eq_getElem?_getD, List.getElem?_append_right (by simp), List.getD_eq_getElem?_getD]
    congr 2
    simp
  have hmid : (h ++ 33 :: s).getD h.length 0 = 33 := by simp [List.getD_eq_getElem?_getD]
  have hB : ∀ i, i < s.length → pctAt (h ++ 33 :: s) (i + (h.length + 1)) = pctAt s i := by
    intro i hi
    unfold pctAt
    rw [hget i, show i + (h.length + 1) + 1 = (i + 1) + (h.length + 1) by omega, hget (i + 1), hlen]
    have h3 : decide (i + 1 + (h.length + 1) = h.length + 1 + s.length) = decide (i + 1 = s.length) := by
      rw [Bool.eq_iff_iff]; simp; omega
    rw [h3]
    congr 2
    cases i with
    | zero =>
      rw [Nat.zero_add, Nat.add_sub_cancel, hmid]
      simp
    | succ j =>
      rw [show j + 1 + (h.length + 1) - 1 = j + (h.length + 1) by omega, hget j]
      simp
  -- nothing before the '!' is a '%'
  have hlow : ∀ n, n ≤ h.length + 1 → lastP (h ++ 33 :: s) 0 n = none := by
    intro n
    induction n with
    | zero => intro _; rfl
    | succ n ih =>
      intro hn
      have h37 : (h ++ 33 :: s).getD n 0 ≠ 37 := by
        by_cases hnl : n = h.length
        · rw [hnl, hmid]; decide
        · have hn' : n < h.length := by omega
          rw [List.getD_eq_getElem?_getD, List.getElem?_append_left hn', List.getElem?_eq_getElem hn']
          exact (nameB_not (hall _ (List.getElem_mem hn')).1).2.1
      rw [lastP, if_neg (by omega), if_neg (by unfold pctAt; simp only [h37]; simp), ih (by omega)]
  have hlow2 : ∀ n, lastP (h ++ 33 :: s) 0 (n + (h.length + 1)) = lastP (h ++ 33 :: s) (0 + (h.length + 1)) (n + (h.length + 1)) := by
    intro n
    induction n with
    | zero =>
      rw [Nat.zero_add, hlow _ (Nat.le_refl _)]
      rw [lastP, if_pos (by omega)]
    | succ n ih =>
      rw [show n + 1 + (h.length + 1) = (n + (h.length + 1)) + 1 by omega, lastP, lastP, if_neg (Nat.not_lt_zero _), if_neg (by omega : ¬ n + (h.length + 1) < 0 + (h.length + 1)), ih]
  have lp : lpct (h ++ 33 :: s) 0 (h ++ 33 :: s).length = shP (h.length + 1) (lpct s 0 s.length) := by
    rw [← lpct_sh hA hB (Nat.le_refl _) (Nat.zero_le _)]
    unfold lpct
    rw [hlen, show h.length + 1 + s.length = s.length + (h.length + 1) by omega, hlow2]
  have hb0 : ∀ i hp, fbang s 0 s.length = some (i, hp) → 0 ≤ i := fun i hp _ => Nat.zero_le _
  have hp0 : ∀ i nm, lpct s 0 s.length = some (i, nm) → i < s.length := fun i nm e => (lpct_some e).2.1
  have key := steps_sh hA hB false s.length 0 s.length (fbang s 0 s.length) (lpct s 0 s.length) (Nat.le_refl _) (Nat.zero_le _) hb0 hp0
  have e3 : fbang (h ++ 33 :: s) (h.length + 1) (h ++ 33 :: s).length = shB (h.length + 1) (fbang s 0 s.length) := by
    rw [← fbang_sh hA (Nat.le_refl _), Nat.zero_add, hlen, show h.length + 1 + s.length = s.length + (h.length + 1) by omega]
  have e4 : steps false (h ++ 33 :: s) (h.length + s.length) (h.length + 1) (h ++ 33 :: s).length (fbang (h ++ 33 :: s) (h.length + 1) (h ++ 33 :: s).length) (shP (h.length + 1) (lpct s 0 s.length)) = total false s := by
    unfold total
    rw [← key, e3, Nat.zero_add, hlen, Nat.add_comm h.length s.length, show h.length + 1 + s.length = s.length + (h.length + 1) by omega]
    refine steps_more false _ h.length s.length _ _ _ _ (by rw [hlen]; omega) (by omega) ?_ ?_ (by omega)
    · intro i hp e
      cases hf : fbang s 0 s.length with
      | none => rw [hf] at e; cases e
      | some x => rw [hf] at e; simp [shB] at e; omega
    · intro i nm e
      cases hf : lpct s 0 s.length with
      | none => rw [hf] at e; cases e
      | some x =>
        have := hp0 x.1 x.2 hf
        rw [hf] at e; simp [shP] at e; omega
  show steps false (h ++ 33 :: s) (h ++ 33 :: s).length 0 (h ++ 33 :: s).length _ _ = _
  rw [fb, lp]
  obtain ⟨n, hn⟩ : ∃ n, (h ++ 33 :: s).length = n + 1 := ⟨h.length + s.length, by rw [hlen]; omega⟩
  have hn' : n = h.length + s.length := by omega
  rw [show steps false (h ++ 33 :: s) (h ++ 33 :: s).length = steps false (h ++ 33 :: s) (n + 1) by rw [← hn]]
  rw [steps_bang (by rw [hlen]; omega) (by simp), hn', e4]

/-- A '%' step taken first. -/
theorem pct_law (s d : List UInt8) (hs : s ≠ []) (hlast : s.getD (s.length - 1) 0 ≠ 37) (hd : d ≠ []) (hall : ∀ c ∈ d, nameB c = true) :
    total true (s ++ 37 :: d) = ((d, dom) :: (total true s).1, (total true s).2) := by
  have hlen : (s ++ 37 :: d).length = s.length + 1 + d.length := by simp; omega
  have hsl : s.length ≠ 0 := by simpa using hs
  have hdl : d.length ≠ 0 := by simpa using hd
  have hA : ((s ++ 37 :: d).drop 0).take s.length = s := by simp
  have hgl : ∀ i, i < s.length → (s ++ 37 :: d).getD i 0 = s.getD i 0 := by
    intro i hi
    rw [List.getD_eq_getElem?_getD, List.getElem?_append_left hi, List.getD_eq_getElem?_getD]
  have hmid : (s ++ 37 :: d).getD s.length 0 = 37 := by simp [List.getD_eq_getElem?_getD]
  have hgr : ∀ i, (s ++ 37 :: d).getD (s.length + 1 + i) 0 = d.getD i 0 := by
    intro i
    rw [show s ++ 37 :: d = (s ++ [37]) ++ d by simp]
    rw [List.getD_eq_getElem?_getD, List.getElem?_append_right (by simp), List.getD_eq_getElem?_getD]
    congr 2
    simp
  have hd37 : ∀ i, i < d.length → d.getD i 0 ≠ 37 := by
    intro i hi
    rw [List.getD_eq_getElem?_getD, List.getElem?_eq_getElem hi]
    exact (nameB_not (hall _ (List.getElem_mem hi))).2.1
  have hB : ∀ i, i < s.length → pctAt (s ++ 37 :: d) (i + 0) = pctAt s i := by
    intro i hi
    rw [Nat.add_zero]
    unfold pctAt
    rw [hgl i hi]
    by_cases h37 : s.getD i 0 = 37
    · have hil : i ≠ s.length - 1 := by rintro rfl; exact hlast h37
      rw [hgl (i + 1) (by omega), hgl (i - 1) (by omega), hlen]
      have h3 : decide (i + 1 = s.length + 1 + d.length) = decide (i + 1 = s.length) := by
        rw [Bool.eq_iff_iff]; simp; omega
      rw [h3]
    · simp only [h37]; simp
  have fb : fbang (s ++ 37 :: d) 0 (s ++ 37 :: d).length = fbang s 0 s.length := by
    have e0 : sub (s ++ 37 :: d) 0 (s ++ 37 :: d).length = s ++ 37 :: d := sub_all _
    have e1 : sub s 0 s.length = s := sub_all _
    have e2 : Lib.indexByte (s ++ 37 :: d) 33 = Lib.indexByte s 33 := by
      apply index_app
      intro x hx
      rcases List.mem_cons.1 hx with rfl | hx
      · decide
      · exact (nameB_not (hall x hx)).1
    unfold fbang
    rw [e0, e1, e2]
    by_cases h1 : Lib.indexByte s 33 < 0
    · rw [if_pos h1, if_pos h1]
    · rw [if_neg h1, if_neg h1]
      have hlt := index_lt s 33 (by omega)
      rw [List.take_append_of_le_length (by omega)]
  have hhigh : ∀ n, n ≤ d.length → lastP (s ++ 37 :: d) 0 (s.length + 1 + n) = some s.length := by
    intro n
    induction n with
    | zero =>
      intro _
      rw [Nat.add_zero, lastP, if_neg (by omega), if_pos]
      unfold pctAt
      rw [hmid, hgl (s.length - 1) (by omega)]
      have h0 := hgr 0
      rw [Nat.add_zero] at h0
      rw [h0]
      have hd0 := hd37 0 (by omega)
      rw [decide_eq_true hlast, decide_eq_true hd0]
      simp
    | succ n ih =>
      intro hn
      rw [show s.length + 1 + (n + 1) = (s.length + 1 + n) + 1 by omega, lastP, if_neg (by omega), if_neg, ih (by omega)]
      unfold pctAt
      rw [hgr n]
      simp only [hd37 n (by omega)]
      simp
  have hsub : sub (s ++ 37 :: d) (s.length + 1) (s ++ 37 :: d).length = d := by
    unfold sub
    rw [hlen, show s ++ 37 :: d = (s ++ [37]) ++ d by simp, List.drop_append_of_le_length (by simp), show s.length + 1 + d.length - (s.length + 1) = d.length by omega]
    simp
  have lp : lpct (s ++ 37 :: d) 0 (s ++ 37 :: d).length = some (s.length, d) := by
    have e : lastP (s ++ 37 :: d) 0 (s ++ 37 :: d).length = some s.length := by rw [hlen]; exact hhigh d.length (Nat.le_refl _)
    unfold lpct
    rw [e]
    simp only
    rw [hsub, if_pos (isHopB_name hd hall)]
  have hb0 : ∀ i hp, fbang s 0 s.length = some (i, hp) → 0 ≤ i := fun i hp _ => Nat.zero_le _
  have hp0 : ∀ i nm, lpct s 0 s.length = some (i, nm) → i < s.length := fun i nm e => (lpct_some e).2.1
  have key := steps_sh hA hB true s.length 0 s.length (fbang s 0 s.length) (lpct s 0 s.length) (Nat.le_refl _) (Nat.zero_le _) hb0 hp0
  have eB : shB 0 (fbang s 0 s.length) = fbang s 0 s.length := by cases fbang s 0 s.length <;> rfl
  have eP : shP 0 (lpct s 0 s.length) = lpct s 0 s.length := by cases lpct s 0 s.length <;> rfl
  have e5 : lpct (s ++ 37 :: d) 0 s.length = lpct s 0 s.length := by
    have := lpct_sh hA hB (Nat.le_refl s.length) (Nat.zero_le _)
    rw [eP] at this
    exact this
  rw [eB, eP] at key
  have e4 : steps true (s ++ 37 :: d) (s.length + d.length) 0 s.length (fbang s 0 s.length) (lpct s 0 s.length) = total true s := by
    unfold total
    rw [← key]
    exact steps_more true _ d.length s.length _ _ _ _ (by rw [hlen]; omega) (by omega) hb0 hp0 (by omega)
  show steps true (s ++ 37 :: d) (s ++ 37 :: d).length 0 (s ++ 37 :: d).length _ _ = _
  rw [fb, lp]
  obtain ⟨n, hn⟩ : ∃ n, (s ++ 37 :: d).length = n + 1 := ⟨s.length + d.length, by rw [hlen]; omega⟩
  have hn' : n = s.length + d.length := by omega
  rw [show steps true (s ++ 37 :: d) (s ++ 37 :: d).length = steps true (s ++ 37 :: d) (n + 1) by rw [← hn]]
  rw [steps_pct (by omega) (by simp), e5, hn', e4]

end Go.Proofs.Qxb6003626a.LocQ
