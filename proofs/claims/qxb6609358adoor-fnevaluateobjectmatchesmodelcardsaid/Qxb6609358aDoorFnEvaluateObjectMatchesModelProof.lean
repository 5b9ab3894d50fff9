/-
  The row of FnEvaluateObjectMatchesModel out of the walk of the law, and its card.
-/
import Derived.Test.Qxb6609358aDoorR
import Derived.Test.Qxb6609358aDoorY2
import Derived.Test.Qxb6609358aDoorTie
import Derived.Test.Qxb6609358aDoorCards
import Derived.SevenTiedAt
namespace Go.Proofs.Qxb6609358aDoor.fnEvaluateObjectMatchesModel
open Go.ChangeShapes Go.WideShapes Go.ChangeAt Go.RowKit R
open Go.ChangeMaps (open_string shut_string)
set_option linter.unusedVariables false

set_option maxRecDepth 100000 in
theorem lifted (os : Os) (started : os.Started) (H : Type) (enc : TypeId × Value → H) :
    ReturnsInHanded {} Tryd.checked os 7 .any (fun w args => (Rows.fnEvaluateObjectMatchesModelSpec.pre enc Tryd.prog Tryd.f7 [] false w args ∧ laidMetH Tryd.prog laid w) ∧ sizedMet enc Tryd.prog Tryd.f7 (OpenSpec.ofChange Rows.fnEvaluateObjectMatchesModelSpec) false w args)
      (Rows.fnEvaluateObjectMatchesModelSpec.post enc Tryd.prog Tryd.f7 false true false false) := by
  refine wrap (C := Tryd.checked) (X := fun w _ => laidMetH Tryd.prog laid w) (fun _ _ _ hh h => h.of_heap hh) own started (by kernel_rfl) Tryd.func7
    (ChangeSpec.witness_at (enc := enc) (C := Tryd.checked) (os := os) (X := fun w _ => laidMetH Tryd.prog laid w) false (laidWorld os) #[.string ByteArray.empty, .slice none 0 0, .slice none 0 0] 8 rfl (by kernel_rfl) (by kernel_rfl) (by kernel_rfl) (by kernel_rfl) (by kernel_rfl) (laidWorld_met os _)) ?_
  intro W base args ds gs before hval0 hW hL hsh
  have hval : ∀ (j : Nat) t v, Tryd.f7.params[j]? = some t → args[j]? = some v → Value.okWide Tryd.prog W .any base t v := hval0
  have hW' := hW
  obtain ⟨p, q, hA0, hV, rfl, hfz, hnd⟩ := hW
  have hA : DataW.TrodAll enc Tryd.prog W 0 (fun _ => true) true Tryd.f7.params.toList args.toList ds p := hA0
  rw [Tryd.params7] at hA hval
  obtain ⟨v0, vs0, d0, ds0, p0, q0, hargs, rfl, rfl, h0, r0⟩ := trodAll_cons hA
  obtain ⟨v1, vs1, d1, ds1, p1, q1, rfl, rfl, rfl, h1, r1⟩ := trodAll_cons r0
  obtain ⟨v2, vs2, d2, ds2, p2, q2, rfl, rfl, rfl, h2, r2⟩ := trodAll_cons r1
  obtain ⟨rfl, rfl, rfl⟩ := trodAll_nil r2
  obtain rfl : args = #[v0, v1, v2] := by cases args; simp_all
  obtain ⟨rfl, rfl⟩ := trodVars_none hV
  obtain ⟨a0, rfl, rfl, rfl, w0⟩ := open_string Tryd.underlying9 (hval 0 9 v0 rfl rfl) h0
  obtain ⟨a1, len1, cap1, rfl⟩ := okWide_slice Tryd.underlying44 (hval 1 44 v1 rfl rfl)
  obtain ⟨a2, len2, cap2, rfl⟩ := okWide_slice Tryd.underlying44 (hval 2 44 v2 rfl rfl)
  have k1 := h1
  have k2 := h2
  have lt2 : ∀ x ∈ p2, x.block < W.heap.size := by obtain ⟨m, hm⟩ := k2; exact DataW.trod_lt m _ _ _ hm
  have lt1 : ∀ x ∈ p1, x.block < W.heap.size := by obtain ⟨m, hm⟩ := k1; exact DataW.trod_lt m _ _ _ hm
  have hg := handle_of_laid hL
  obtain ⟨m, hm⟩ := maxLen_cell hsh
  have key : Calls Tryd.prog 7 #[.string a0, .slice a1 len1 cap1, .slice a2 len2 cap2] W fun e w' => e = .returned (.bool true) ∧ Below W.heap.size W w' := by
    rcases strings_open (enc := enc) (W := W) (by obtain ⟨fuel, hf⟩ := h1; exact ⟨fuel, by simpa [Value.cells] using hf⟩) with ⟨rfl, rfl, rfl⟩ | ⟨ad, f, rfl, hn, hf, hc, hAr⟩
    · rcases strings_open (enc := enc) (W := W) (by obtain ⟨fuel, hf⟩ := h2; exact ⟨fuel, by simpa [Value.cells] using hf⟩) with ⟨rfl, rfl, rfl⟩ | ⟨ad2, g, rfl, hk, hg2, hc2, hCr⟩
      · exact A.obj_none_none a0 0 0 0 0 (fun _ => ByteArray.empty) (fun _ => ByteArray.empty) m W w0 (Nat.zero_le _) (Nat.zero_le _) (fun i hi => absurd hi (Nat.not_lt_zero _)) (fun i hi => absurd hi (Nat.not_lt_zero _)) hg hm (.inl ⟨trivial, rfl⟩) (.inl ⟨trivial, rfl⟩) (Nat.le_refl _) (Nat.le_refl _)
      · exact A.obj_none_some a0 ad2 0 0 len2 cap2 (fun _ => ByteArray.empty) g m W w0 (Nat.zero_le _) hk (fun i hi => absurd hi (Nat.not_lt_zero _)) hg2 hg hm (.inl ⟨trivial, rfl⟩) hCr (Nat.le_refl _) hc2
    · rcases strings_open (enc := enc) (W := W) (by obtain ⟨fuel, hf⟩ := h2; exact ⟨fuel, by simpa [Value.cells] using hf⟩) with ⟨rfl, rfl, rfl⟩ | ⟨ad2, g, rfl, hk, hg2, hc2, hCr⟩
      · exact A.obj_some_none a0 ad len1 cap1 0 0 f (fun _ => ByteArray.empty) m W w0 hn (Nat.zero_le _) hf (fun i hi => absurd hi (Nat.not_lt_zero _)) hg hm hAr (.inl ⟨trivial, rfl⟩) hc (Nat.le_refl _)
      · exact A.obj_some_some a0 ad ad2 len1 cap1 len2 cap2 f g m W w0 hn hk hf hg2 hg hm hAr hCr hc hc2
  clear hA0 hval0
  refine key.mono fun e W' ⟨he, bel⟩ => ?_
  subst he
  exact ⟨_, rfl, _, _, _, [], _, [], hW', trodAll_mk1 (shut_bool Tryd.underlying4 _), (trodAll_cons_mk (shut_string Tryd.underlying9 w0) (trodAll_cons_mk (Below.trod laidOut (by kernel_rfl) (of_decide_eq_true (by kernel_rfl)) k1 bel lt1) (trodAll_cons_mk (Below.trod laidOut (by kernel_rfl) (of_decide_eq_true (by kernel_rfl)) k2 bel lt2) trodAll_mk0))), rfl, bel.frame _, fun h => by cases h⟩

theorem over : Rows.FnEvaluateObjectMatchesModelSaid :=
  OpenClaim.holds_of_wide 7 Tryd.f7 rfl rfl rfl rfl rfl rfl rfl ⟨rfl, rfl, rfl, rfl, rfl⟩ rfl rfl rfl rfl rfl (by kernel_rfl) Tryd.func7 (by kernel_rfl)
    (of_decide_eq_true (by kernel_rfl)) (by unfold Func.isWrapper; first | (rw [if_pos (by decide +kernel)]; kernel_rfl) | (rw [if_neg (by decide +kernel)]; exact ⟨rfl, rfl⟩))
    (fun os started H enc _ => lifted os started H enc)

/-- The statement: the tied card. -/
theorem proved : Rows.FnEvaluateObjectMatchesModelCardSaid :=
  Claim7.holds_tied_plain_at .later [] [.handle] true (true, "d6f68a0eb16c5113f8449516026118682b5ed3fa75df0a131cbffb4de1535b00") true
    over (fun _ h => by cases h) (by kernel_rfl) (fun _ h => by cases h) fnEvaluateObjectMatchesModel_row_tie rfl ⟨rfl, rfl⟩ (by kernel_rfl) rfl
    (fun f fn hf hfn => by
      obtain rfl : f = 7 := Option.some.inj ((show Tryd.prog.funcNamed "example.com/tildeslash/tildeslash/zzlaws_root_b1.FnEvaluateObjectMatchesModel" = some 7 by kernel_rfl).symm.trans hf) |>.symm
      obtain rfl : fn = Tryd.f7 := (Option.some.inj (Tryd.func7.symm.trans hfn)).symm
      exact ⟨by kernel_rfl, fun j t ht => by
        rw [Tryd.params7] at ht
        have h3 : t = 9 ∨ t = 44 := by
          rcases j with _ | _ | _ | j
          · exact .inl (by simpa using ht.symm)
          · exact .inr (by simpa using ht.symm)
          · exact .inr (by simpa using ht.symm)
          · simp at ht
        rcases h3 with rfl | rfl
        · exact (show Tryd.prog.wantsStandIn 9 = false by kernel_rfl)
        · exact (show Tryd.prog.wantsStandIn 44 = false by kernel_rfl)⟩)
    (by kernel_rfl)
end Go.Proofs.Qxb6609358aDoor.fnEvaluateObjectMatchesModel
