import Derived.Lib.Bytealg
import Derived.Lib.Bytes2
namespace Go.Proofs.Qxb6604580a.ReqP
open Go

theorem ofNat_ne {x c : Int} (h1 : 0 ≤ x) (h2 : x < 256) (h3 : 0 ≤ c) (h4 : c < 256) (h : x ≠ c) : UInt8.ofNat x.toNat ≠ c.toNat.toUInt8 := by
  intro e
  have e2 := congrArg UInt8.toNat e
  simp [Nat.toUInt8] at e2
  omega

/-- Where a number first stands, told by the bytes' own search. -/
theorem indexByte_first : ∀ (l r : List Int) (c : Int), (∀ x ∈ l, 0 ≤ x ∧ x < 256) → 0 ≤ c → c < 256 → (∀ x ∈ l, x ≠ c) →
    Lib.indexByte (Lib.bytesOf (l ++ c :: r)) c.toNat.toUInt8 = (l.length : Int)
  | [], r, c, _, _, _, _ => by simp [Lib.bytesOf, Lib.indexByte, Nat.toUInt8]
  | x :: l, r, c, hr, h0, h1, hn => by
    have ih := indexByte_first l r c (fun y hy => hr y (List.mem_cons_of_mem _ hy)) h0 h1 (fun y hy => hn y (List.mem_cons_of_mem _ hy))
    have hx := hr x (List.mem_cons_self ..)
    have hne := ofNat_ne hx.1 hx.2 h0 h1 (hn x (List.mem_cons_self ..))
    have e : Lib.bytesOf (x :: l ++ c :: r) = UInt8.ofNat x.toNat :: Lib.bytesOf (l ++ c :: r) := by simp [Lib.bytesOf]
    rw [e, Lib.indexByte, if_neg (by simpa using hne), ih, if_neg (by simp)]
    simp

theorem hasSuffix_13 (l : List Int) : Lib.hasSuffix (Lib.bytesOf (l ++ [13])) (Lib.bytesOf [13]) = true := by
  unfold Lib.hasSuffix
  rw [List.isSuffixOf_iff_suffix]
  exact ⟨Lib.bytesOf l, by simp [Lib.bytesOf]⟩

/-- The numbers behind a place. -/
theorem behind (l r : List Int) (c : Int) (hn : ∀ x ∈ r, x ≠ c) (j : Nat) (h1 : l.length < j) (h2 : j < (l ++ c :: r).length) : (l ++ c :: r).getD j 0 ≠ c := by
  have h3 : j - l.length - 1 < r.length := by simp at h2; omega
  have e : (l ++ c :: r).getD j 0 = r[j - l.length - 1] := by
    rw [List.getD_eq_getElem?_getD, List.getElem?_append_right (by omega)]
    obtain ⟨t, ht⟩ : ∃ t, j - l.length = t + 1 := ⟨j - l.length - 1, by omega⟩
    have ht' : t < r.length := by omega
    simp [ht, ht']
  rw [e]
  exact hn _ (List.getElem_mem h3)

theorem at_place (l r : List Int) (c : Int) : (l ++ c :: r).getD l.length 0 = c := by simp [List.getD_eq_getElem?_getD]

end Go.Proofs.Qxb6604580a.ReqP
