/-
  Plain lists of bytes: what readLocalPart computes, and its two laws.
-/
import Derived.Lib.Bytealg
import Derived.Lib.IndexAny
namespace Go.Proofs.Qxb6003626a.LocP
open Go

def dom : List UInt8 := [100, 111, 109, 97, 105, 110]
def uucp : List UInt8 := [117, 117, 99, 112]

def nameB (c : UInt8) : Bool := (decide (97 ≤ c.toNat) && decide (c.toNat ≤ 122)) || (decide (65 ≤ c.toNat) && decide (c.toNat ≤ 90)) || (decide (48 ≤ c.toNat) && decide (c.toNat ≤ 57)) || decide (c.toNat = 45) || decide (c.toNat = 46) || decide (c.toNat = 95)
def dtextB (c : UInt8) : Bool := decide (33 ≤ c.toNat) && decide (c.toNat ≤ 126) && decide (c.toNat ≠ 91) && decide (c.toNat ≠ 93) && decide (c.toNat ≠ 92)
def isDLB (h : List UInt8) : Bool := decide (3 ≤ h.length) && decide (h.getD (h.length - 1) 0 = 93) && ((h.drop 1).take (h.length - 2)).all dtextB
def isHopB (h : List UInt8) : Bool := match h with
  | [] => false
  | c :: t => if c = 91 then isDLB (c :: t) else (c :: t).all nameB

theorem nameB_lt {c : UInt8} (h : nameB c = true) : c.toNat < 128 := by
  simp [nameB] at h; omega
theorem dtextB_lt {c : UInt8} (h : dtextB c = true) : c.toNat < 128 := by
  simp [dtextB] at h; omega

theorem isHopB_ne {h : List UInt8} (hh : isHopB h = true) : h ≠ [] := by
  rintro rfl; simp [isHopB] at hh

theorem isHopB_ascii {h : List UInt8} (hh : isHopB h = true) : ∀ c ∈ h, c.toNat < 128 := by
  cases h with
  | nil => simp
  | cons c t =>
    rw [isHopB] at hh
    by_cases h91 : c = 91
    · rw [if_pos h91] at hh
      simp only [isDLB, Bool.and_eq_true, decide_eq_true_eq] at hh
      obtain ⟨⟨h3, h93⟩, hall⟩ := hh
      intro x hx
      obtain ⟨j, hj, rfl⟩ := List.mem_iff_getElem.1 hx
      by_cases hj0 : j = 0
      · subst hj0; simp [h91]
      · by_cases hjl : j = (c :: t).length - 1
        · rw [List.getD_eq_getElem?_getD, ← hjl, List.getElem?_eq_getElem hj] at h93
          simp only [Option.getD_some] at h93
          rw [h93]; decide
        · refine dtextB_lt (List.all_eq_true.1 hall _ ?_)
          rw [List.mem_iff_getElem]
          refine ⟨j - 1, by simp at hj hjl ⊢; omega, ?_⟩
          simp only [List.getElem_take, List.getElem_drop]
          congr 1
          omega
    · rw [if_neg h91] at hh
      intro x hx
      exact nameB_lt (List.all_eq_true.1 hh x hx)

theorem isHopB_name {h : List UInt8} (hne : h ≠ []) (hall : ∀ c ∈ h, nameB c = true) : isHopB h = true := by
  cases h with
  | nil => exact absurd rfl hne
  | cons c t =>
    rw [isHopB]
    have hc := hall c (List.mem_cons_self ..)
    have h91 : c ≠ 91 := by rintro rfl; exact absurd hc (by decide)
    rw [if_neg h91]
    exact List.all_eq_true.2 hall

def sub (S : List UInt8) (l r : Nat) : List UInt8 := (S.drop l).take (r - l)

/-- firstBang: the hop before the first '!' of S[l:r], and where that stands. -/
def fbang (S : List UInt8) (l r : Nat) : Option (Nat × List UInt8 × List UInt8) :=
  if Lib.indexByte (sub S l r) 33 < 0 then none
  else if isHopB ((sub S l r).take (Lib.indexByte (sub S l r) 33).toNat) then
    (if Lib.trimSuffix ((sub S l r).take (Lib.indexByte (sub S l r) 33).toNat) [46] = [] then none
     else some (l + (Lib.indexByte (sub S l r) 33).toNat, Lib.trimSuffix ((sub S l r).take (Lib.indexByte (sub S l r) 33).toNat) [46],
       if Lib.containsAny ((sub S l r).take (Lib.indexByte (sub S l r) 33).toNat) [46, 91] then dom else uucp))
  else none

/-- A single '%' at place i. -/
def pctAt (S : List UInt8) (i : Nat) : Bool := decide (S.getD i 0 = 37) && (decide (i = 0) || decide (S.getD (i - 1) 0 ≠ 37)) && (decide (i + 1 = S.length) || decide (S.getD (i + 1) 0 ≠ 37))
/-- The last single '%' in S[l:r]. -/
def lastP (S : List UInt8) (l : Nat) : Nat → Option Nat
  | 0 => none
  | r + 1 => if r < l then none else if pctAt S r then some r else lastP S l r
def lpct (S : List UInt8) (l r : Nat) : Option (Nat × List UInt8) :=
  match lastP S l r with
  | none => none
  | some i => if isHopB (sub S (i + 1) r) then some (i, sub S (i + 1) r) else none

def canB (b : Option (Nat × List UInt8 × List UInt8)) (r : Nat) : Bool := match b with
  | none => false
  | some (i, _) => decide (i + 1 < r)
def canP (p : Option (Nat × List UInt8)) (l : Nat) : Bool := match p with
  | none => false
  | some (i, _) => decide (l < i)

def gp (p : Option (Nat × List UInt8)) : Nat × List UInt8 := p.getD (0, [])
def gb (b : Option (Nat × List UInt8 × List UInt8)) : Nat × List UInt8 × List UInt8 := b.getD (0, [], [])

/-- The reading from a state on. -/
def steps (pf : Bool) (S : List UInt8) : Nat → Nat → Nat → Option (Nat × List UInt8 × List UInt8) → Option (Nat × List UInt8) → List (List UInt8 × List UInt8) × List UInt8
  | 0, l, r, _, _ => ([], sub S l r)
  | f + 1, l, r, b, p =>
    if canP p l && (pf || !canB b r) then
      (((gp p).2, dom) :: (steps pf S f l (gp p).1 b (lpct S l (gp p).1)).1, (steps pf S f l (gp p).1 b (lpct S l (gp p).1)).2)
    else if canB b r then
      ((gb b).2 :: (steps pf S f ((gb b).1 + 1) r (fbang S ((gb b).1 + 1) r) p).1, (steps pf S f ((gb b).1 + 1) r (fbang S ((gb b).1 + 1) r) p).2)
    else ([], sub S l r)

def total (pf : Bool) (S : List UInt8) : List (List UInt8 × List UInt8) × List UInt8 := steps pf S S.length 0 S.length (fbang S 0 S.length) (lpct S 0 S.length)

theorem steps_pct {pf : Bool} {S : List UInt8} {f l r i : Nat} {nm : List UInt8} {b : Option (Nat × List UInt8 × List UInt8)} (hi : l < i) (h : (pf || !canB b r) = true) :
    steps pf S (f + 1) l r b (some (i, nm)) = ((nm, dom) :: (steps pf S f l i b (lpct S l i)).1, (steps pf S f l i b (lpct S l i)).2) := by
  rw [steps, if_pos (by simp only [canP, Bool.and_eq_true, decide_eq_true_eq]; exact ⟨hi, h⟩)]
  rfl
theorem steps_bang {pf : Bool} {S : List UInt8} {f l r i : Nat} {hp : List UInt8 × List UInt8} {p : Option (Nat × List UInt8)} (hi : i + 1 < r) (h : (canP p l && pf) = false) :
    steps pf S (f + 1) l r (some (i, hp)) p = (hp :: (steps pf S f (i + 1) r (fbang S (i + 1) r) p).1, (steps pf S f (i + 1) r (fbang S (i + 1) r) p).2) := by
  have hb : canB (some (i, hp)) r = true := by simp [canB, hi]
  rw [steps, if_neg (by rw [hb]; simp; simpa using h), if_pos hb]
  rfl
theorem steps_end {pf : Bool} {S : List UInt8} {f l r : Nat} {b : Option (Nat × List UInt8 × List UInt8)} {p : Option (Nat × List UInt8)} (h1 : canP p l = false) (h2 : canB b r = false) :
    steps pf S f l r b p = ([], sub S l r) := by
  cases f with
  | zero => rfl
  | succ f => rw [steps, h1, h2]; simp

theorem index_lt (l : List UInt8) (c : UInt8) (h : 0 ≤ Lib.indexByte l c) : (Lib.indexByte l c).toNat < l.length := by
  induction l with
  | nil => simp [Lib.indexByte] at h
  | cons b l ih =>
    rw [Lib.indexByte] at h ⊢
    by_cases hb : (b == c) = true
    · simp [hb]
    · rw [if_neg hb] at h ⊢
      by_cases h1 : (Lib.indexByte l c == -1) = true
      · rw [if_pos h1] at h; omega
      · rw [if_neg h1] at h ⊢
        have := Lib.indexByte_ge l c
        have h2 : Lib.indexByte l c ≠ -1 := by simpa using h1
        have := ih (by omega)
        simp
        omega

theorem sub_len (S : List UInt8) (l r : Nat) (hr : r ≤ S.length) : (sub S l r).length = r - l := by unfold sub; simp; omega

theorem fbang_some {S : List UInt8} {l r i : Nat} {hp : List UInt8 × List UInt8} (hr : r ≤ S.length) (h : fbang S l r = some (i, hp)) : l ≤ i ∧ i < r ∧ hp.1 ≠ [] := by
  unfold fbang at h
  by_cases h1 : Lib.indexByte (sub S l r) 33 < 0
  · rw [if_pos h1] at h; cases h
  · rw [if_neg h1] at h
    by_cases h2 : isHopB ((sub S l r).take (Lib.indexByte (sub S l r) 33).toNat) = true
    · rw [if_pos h2] at h
      by_cases h3 : Lib.trimSuffix ((sub S l r).take (Lib.indexByte (sub S l r) 33).toNat) [46] = []
      · rw [if_pos h3] at h; cases h
      · rw [if_neg h3] at h
        have hl := index_lt (sub S l r) 33 (by omega)
        rw [sub_len S l r hr] at hl
        simp only [Option.some.injEq, Prod.mk.injEq] at h
        obtain ⟨rfl, rfl⟩ := h
        exact ⟨by omega, by omega, h3⟩
    · rw [if_neg h2] at h; cases h

theorem lastP_some {S : List UInt8} {l i : Nat} : ∀ {r : Nat}, lastP S l r = some i → l ≤ i ∧ i < r
  | 0, h => by simp [lastP] at h
  | r + 1, h => by
    rw [lastP] at h
    by_cases h1 : r < l
    · rw [if_pos h1] at h; cases h
    · rw [if_neg h1] at h
      by_cases h2 : pctAt S r = true
      · rw [if_pos h2] at h; cases h; omega
      · rw [if_neg h2] at h
        have := lastP_some h
        omega

theorem lpct_some {S : List UInt8} {l r i : Nat} {nm : List UInt8} (h : lpct S l r = some (i, nm)) : l ≤ i ∧ i < r ∧ nm ≠ [] := by
  unfold lpct at h
  cases hl : lastP S l r with
  | none => rw [hl] at h; cases h
  | some j =>
    rw [hl] at h
    simp only at h
    by_cases hh : isHopB (sub S (j + 1) r) = true
    · rw [if_pos hh] at h
      simp only [Option.some.injEq, Prod.mk.injEq] at h
      obtain ⟨rfl, rfl⟩ := h
      have := lastP_some hl
      exact ⟨this.1, this.2, isHopB_ne hh⟩
    · rw [if_neg hh] at h; cases h

/-! ### two texts, one lying in the other -/

def shB (D : Nat) (b : Option (Nat × List UInt8 × List UInt8)) : Option (Nat × List UInt8 × List UInt8) := b.map fun x => (x.1 + D, x.2)
def shP (D : Nat) (p : Option (Nat × List UInt8)) : Option (Nat × List UInt8) := p.map fun x => (x.1 + D, x.2)

section
variable {S' S : List UInt8} {D : Nat}

theorem sub_sh (hA : (S'.drop D).take S.length = S) {l r : Nat} (hr : r ≤ S.length) : sub S' (l + D) (r + D) = sub S l r := by
  unfold sub
  rw [← hA, show r + D - (l + D) = r - l by omega, Nat.add_comm l D, ← List.drop_drop]
  rw [List.drop_take, List.take_take]
  congr 1
  have hl : S.length ≤ (S'.drop D).length := by
    have := congrArg List.length hA
    simp at this ⊢
    omega
  simp at hl ⊢
  omega

theorem fbang_sh (hA : (S'.drop D).take S.length = S) {l r : Nat} (hr : r ≤ S.length) : fbang S' (l + D) (r + D) = shB D (fbang S l r) := by
  unfold fbang
  rw [sub_sh hA hr]
  generalize sub S l r = t
  by_cases h1 : Lib.indexByte t 33 < 0
  · rw [if_pos h1, if_pos h1]; rfl
  · rw [if_neg h1, if_neg h1]
    by_cases h2 : isHopB (t.take (Lib.indexByte t 33).toNat) = true
    · rw [if_pos h2, if_pos h2]
      by_cases h3 : Lib.trimSuffix (t.take (Lib.indexByte t 33).toNat) [46] = []
      · rw [if_pos h3, if_pos h3]; rfl
      · rw [if_neg h3, if_neg h3]
        simp only [shB, Option.map_some]
        congr 2
        omega
    · rw [if_neg h2, if_neg h2]; rfl

theorem lastP_sh (hB : ∀ i, i < S.length → pctAt S' (i + D) = pctAt S i) {l : Nat} : ∀ {r : Nat}, r ≤ S.length → l ≤ r → lastP S' (l + D) (r + D) = (lastP S l r).map (· + D)
  | 0, _, hl => by
    obtain rfl : l = 0 := by omega
    cases D with
    | zero => rfl
    | succ D =>
      rw [Nat.zero_add]
      show lastP S' (D + 1) (D + 1) = none
      rw [lastP, if_pos (by omega)]
  | r + 1, hr, hl => by
    rw [show r + 1 + D = (r + D) + 1 by omega, lastP, lastP, hB r (by omega)]
    by_cases h1 : r < l
    · rw [if_pos h1, if_pos (by omega)]; rfl
    · rw [if_neg h1, if_neg (by omega)]
      by_cases h2 : pctAt S r = true
      · rw [if_pos h2, if_pos h2]; rfl
      · rw [if_neg h2, if_neg h2]
        exact lastP_sh hB (by omega) (by omega)

theorem lpct_sh (hA : (S'.drop D).take S.length = S) (hB : ∀ i, i < S.length → pctAt S' (i + D) = pctAt S i) {l r : Nat} (hr : r ≤ S.length) (hl : l ≤ r) : lpct S' (l + D) (r + D) = shP D (lpct S l r) := by
  unfold lpct
  rw [lastP_sh hB hr hl]
  cases h : lastP S l r with
  | none => rfl
  | some i =>
    simp only [Option.map_some]
    rw [show i + D + 1 = (i + 1) + D by omega, sub_sh hA hr]
    by_cases h2 : isHopB (sub S (i + 1) r) = true
    · rw [if_pos h2, if_pos h2]; rfl
    · rw [if_neg h2, if_neg h2]; rfl

theorem canB_sh (b : Option (Nat × List UInt8 × List UInt8)) (r : Nat) : canB (shB D b) (r + D) = canB b r := by
  cases b with
  | none => rfl
  | some x => simp [canB, shB]; omega
theorem canP_sh (p : Option (Nat × List UInt8)) (l : Nat) : canP (shP D p) (l + D) = canP p l := by
  cases p with
  | none => rfl
  | some x => simp [canP, shP]

/-- The two readings go on alike. -/
theorem steps_sh (hA : (S'.drop D).take S.length = S) (hB : ∀ i, i < S.length → pctAt S' (i + D) = pctAt S i) (pf : Bool) : ∀ (f : Nat) (l r : Nat) (b : Option (Nat × List UInt8 × List UInt8)) (p : Option (Nat × List UInt8)), r ≤ S.length → l ≤ r → (∀ i hp, b = some (i, hp) → l ≤ i) → (∀ i nm, p = some (i, nm) → i < r) →
    steps pf S' f (l + D) (r + D) (shB D b) (shP D p) = steps pf S f l r b p
  | 0, l, r, b, p, hr, hl, hb, hp => by rw [steps, steps, sub_sh hA hr]
  | f + 1, l, r, b, p, hr, hl, hb, hp => by
    by_cases c1 : (canP p l && (pf || !canB b r)) = true
    · cases p with
      | none => simp [canP] at c1
      | some x =>
        obtain ⟨i, nm⟩ := x
        simp only [Bool.and_eq_true, canP, decide_eq_true_eq] at c1
        have hi := hp i nm rfl
        rw [steps_pct c1.1 c1.2]
        show steps pf S' (f + 1) (l + D) (r + D) (shB D b) (some (i + D, nm)) = _
        rw [steps_pct (by omega) (by rw [canB_sh]; exact c1.2), lpct_sh hA hB (by omega) (by omega)]
        rw [steps_sh hA hB pf f l i b (lpct S l i) (by omega) (by omega) hb (fun j m h => (lpct_some h).2.1)]
    · by_cases c2 : canB b r = true
      · cases b with
        | none => simp [canB] at c2
        | some x =>
          obtain ⟨i, hq⟩ := x
          have c2' : i + 1 < r := by simpa [canB] using c2
          have hi := hb i hq rfl
          have c3 : (canP p l && pf) = false := by
            cases h : (canP p l && pf) with
            | false => rfl
            | true => simp only [Bool.and_eq_true] at h; exact absurd (by simp [h.1, h.2]) c1
          rw [steps_bang c2' c3]
          show steps pf S' (f + 1) (l + D) (r + D) (some (i + D, hq)) (shP D p) = _
          rw [steps_bang (by omega) (by rw [canP_sh]; exact c3), show i + D + 1 = (i + 1) + D by omega, fbang_sh hA hr]
          rw [steps_sh hA hB pf f (i + 1) r (fbang S (i + 1) r) p hr (by omega) (fun j m h => (fbang_some hr h).1) hp]
      · have c2' : canB b r = false := by simpa using c2
        have c1' : canP p l = false := by
          cases h : canP p l with
          | false => rfl
          | true => exact absurd (by simp [h, c2']) c1
        rw [steps_end c1' c2', steps_end (by rw [canP_sh]; exact c1') (by rw [canB_sh]; exact c2'), sub_sh hA hr]
end

end Go.Proofs.Qxb6003626a.LocP
