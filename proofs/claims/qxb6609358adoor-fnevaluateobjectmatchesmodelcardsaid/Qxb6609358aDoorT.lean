/-
  The object as data: what a sequence of stores leaves; the last store of a key wins.
-/
import Derived.Maps.OwnSet
import Derived.Maps.OwnOps
import Derived.Maps.Views
namespace Go.Proofs.Qxb6609358aDoor.T
open Go.Maps

theorem kl (l : List UInt8) : WideAt.IsKeyLit (.string l) := trivial

/-- The map's datum behind the first i stores. -/
def dm (k v : Nat → List UInt8) : Nat → DataW Unit
  | 0 => .map []
  | i + 1 => (dm k v i).put (.string (k i)) (.lit (.string (v i)))
/-- The set of the first i keys. -/
def st (k : Nat → List UInt8) : Nat → DataW Unit
  | 0 => .map []
  | i + 1 => (st k i).put (.string (k i)) (.lit (.bool true))
theorem dm_tidy (k v : Nat → List UInt8) : ∀ i, Tidy (dm k v i)
  | 0 => tidy_empty
  | i + 1 => (dm_tidy k v i).put (kl _) _
theorem st_tidy (k : Nat → List UInt8) : ∀ i, Tidy (st k i)
  | 0 => tidy_empty
  | i + 1 => (st_tidy k i).put (kl _) _
theorem has_same (k v : Nat → List UInt8) (q : Lit) : ∀ i, has (dm k v i) q = has (st k i) q
  | 0 => rfl
  | i + 1 => by
    by_cases h : q = .string (k i)
    · subst h
      show has ((dm k v i).put _ _) _ = has ((st k i).put _ _) _
      rw [has_put_same (dm_tidy k v i).isMap (kl _), has_put_same (st_tidy k i).isMap (kl _)]
    · show has ((dm k v i).put _ _) _ = has ((st k i).put _ _) _
      rw [has_put_other h, has_put_other h]
      exact has_same k v q i
theorem size_same (k v : Nat → List UInt8) : ∀ i, size (dm k v i) = size (st k i)
  | 0 => rfl
  | i + 1 => by
    show size ((dm k v i).put _ _) = size ((st k i).put _ _)
    rw [size_put (dm_tidy k v i), size_put (st_tidy k i), has_same k v _ i, size_same k v i]
theorem size_le (k v : Nat → List UInt8) : ∀ i, size (dm k v i) ≤ i
  | 0 => Nat.le_refl _
  | i + 1 => by
    have := size_le k v i
    show size ((dm k v i).put _ _) ≤ _
    rw [size_put (dm_tidy k v i)]
    split <;> omega
theorem no_key (k v : Nat → List UInt8) (q : List UInt8) : ∀ i, (∀ j, j < i → k j ≠ q) → has (dm k v i) (.string q) = false
  | 0, _ => rfl
  | i + 1, h => by
    have hne : (Lit.string q) ≠ .string (k i) := fun e => h i (Nat.lt_succ_self i) (by cases e; rfl)
    show has ((dm k v i).put _ _) _ = false
    rw [has_put_other hne]
    exact no_key k v q i (fun j hj => h j (by omega))
theorem last_key (k v : Nat → List UInt8) (q : List UInt8) (j : Nat) (hj : k j = q) : ∀ i, j < i → (∀ l, j < l → l < i → k l ≠ q) → has (dm k v i) (.string q) = true ∧ ∀ z, (dm k v i).atKey (.string q) z = .lit (.string (v j))
  | 0, h, _ => absurd h (Nat.not_lt_zero _)
  | i + 1, h, hl => by
    show has ((dm k v i).put _ _) _ = true ∧ ∀ z, ((dm k v i).put _ _).atKey _ z = _
    by_cases hij : j = i
    · subst hij
      rw [← hj]
      exact ⟨has_put_same (dm_tidy k v _).isMap (kl _) _, fun z => atKey_put_same (dm_tidy k v _).isMap (kl _) _ _⟩
    · have hne : (Lit.string q) ≠ .string (k i) := fun e => hl i (by omega) (Nat.lt_succ_self i) (by cases e; rfl)
      obtain ⟨h1, h2⟩ := last_key k v q j hj i (by omega) (fun l h1 h2 => hl l h1 (by omega))
      rw [has_put_other hne]
      exact ⟨h1, fun z => by rw [atKey_put_other hne]; exact h2 z⟩

/-- How an element of the map reads: a string in an interface; nil. -/
def R (v : Value) : Option (DataW Unit × List MemPlace) := match v with
  | .iface 9 (.string s) => some (.lit (.string s.data.toList), [])
  | .nilIface => some (.nil, [])
  | _ => none
theorem R_inv {v : Value} {l : List UInt8} {ps : List MemPlace} (h : R v = some (.lit (.string l), ps)) : v = .iface 9 (.string ⟨l.toArray⟩) := by
  unfold R at h
  split at h
  · simp at h
    obtain ⟨rfl, _⟩ := h
    cases ‹ByteArray›
    simp
  · simp at h
  · cases h
end Go.Proofs.Qxb6609358aDoor.T
