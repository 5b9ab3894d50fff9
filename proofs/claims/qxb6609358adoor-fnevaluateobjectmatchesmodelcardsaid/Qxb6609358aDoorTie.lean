/-
  DERIVED. GIVEN WITH THE SEED: THE PROGRAM's TIES (one call each: nine closed facts by the kernel) AND EACH ROW's TIE, after the 31st guide's Derived/Test/Toyas{Tie, Card}.lean. No idea stands in it: it is a product of the set-up. Laid BY PROGRAM, IN A SANDBOX (cutbox-door.mjs). By AI agents, Wed Nov 11 2026. No macro, syntax, notation, axiom, sorry.
-/
import Derived.Test.Qxb6609358aDoorRows
import Derived.LaidByTextLater
import Derived.SevenTiedAt
import Derived.LaidSub
import Derived.LaidOnce
namespace Go.Proofs.Qxb6609358aDoor
open Go
set_option maxRecDepth 100000
theorem seatTie1 : Tryd.prog.laidByTextLater [("math/bits.deBruijn64tab", Rows.laid_math_bits_deBruijn64tab), ("unicode/utf8.acceptRanges", Rows.laid_unicode_utf8_acceptRanges), ("errors.errorType", Rows.laid_errors_errorType)] [.data, .data, .handle] true :=
  Program.laidByTextLater_by_one 31 8 65 (by kernel_rfl) (by kernel_rfl) (by kernel_rfl) (by kernel_rfl) (by kernel_rfl) (by kernel_rfl) (fun _ _ => by kernel_rfl)
theorem pin_laid_unicode_utf8_first : Tryd.pinned.checked.prog.pinnedFits "unicode/utf8.first" = true := by kernel_rfl
theorem noOwnUnsafe : Tryd.pinned.checked.prog.headLifts.contains "ownunsafe" = false := by kernel_rfl
theorem tie : Tryd.prog.laidByTextLater [("math/bits.deBruijn64tab", Rows.laid_math_bits_deBruijn64tab)] [.data] true :=
  Program.laidByTextLater.sub seatTie1 ["math/bits.deBruijn64tab"] (by kernel_rfl) (by kernel_rfl)
theorem fnFirstByteIsLowestNonzeroByte_row_tie : Rows.fnFirstByteIsLowestNonzeroByteRow.laidByTextAt .later Tryd.pinned [.data] true :=
  OpenClaim.laidByTextAt_later rfl rfl tie noOwnUnsafe
theorem fnFirstByteStepsByByte_row_tie : Rows.fnFirstByteStepsByByteRow.laidByTextAt .later Tryd.pinned [.data] true :=
  OpenClaim.laidByTextAt_later rfl rfl tie noOwnUnsafe
theorem fits2 : Tryd.pinned.checked.prog.listedFits [("unicode/utf8.acceptRanges", Rows.laid_unicode_utf8_acceptRanges), ("errors.errorType", Rows.laid_errors_errorType), ("unicode/utf8.first", Rows.laid_unicode_utf8_first)] = true := by
  unfold Program.listedFits
  rw [noOwnUnsafe]
  kernel_rfl
theorem tie2 : Tryd.prog.laidByTextLater [("unicode/utf8.acceptRanges", Rows.laid_unicode_utf8_acceptRanges), ("errors.errorType", Rows.laid_errors_errorType)] [.data, .handle] true :=
  Program.laidByTextLater.sub seatTie1 ["unicode/utf8.acceptRanges", "errors.errorType"] (by kernel_rfl) (by kernel_rfl)
theorem fnParseFragmentMatchesModel_row_tie : Rows.fnParseFragmentMatchesModelRow.laidByTextAt .later Tryd.pinned [.data, .handle, .pinned] true :=
  OpenClaim.laidByTextAt_pinned rfl rfl tie2 rfl rfl rfl rfl (fun y hy _e => by
    simp only [Rows.fnParseFragmentMatchesModelRow, List.zip_cons_cons, List.zip_nil_right, List.mem_cons, List.mem_nil_iff, or_false] at hy
    rcases hy with rfl | rfl | rfl
    · cases _e
    · cases _e
    · exact ⟨pin_laid_unicode_utf8_first, by kernel_rfl⟩) fits2
theorem tie3 : Tryd.prog.laidByTextLater [("errors.errorType", Rows.laid_errors_errorType)] [.handle] true :=
  Program.laidByTextLater.sub seatTie1 ["errors.errorType"] (by kernel_rfl) (by kernel_rfl)
theorem fnEvaluateArrayMatchesModel_row_tie : Rows.fnEvaluateArrayMatchesModelRow.laidByTextAt .later Tryd.pinned [.handle] true :=
  OpenClaim.laidByTextAt_later rfl rfl tie3 noOwnUnsafe
theorem fnEvaluateObjectMatchesModel_row_tie : Rows.fnEvaluateObjectMatchesModelRow.laidByTextAt .later Tryd.pinned [.handle] true :=
  OpenClaim.laidByTextAt_later rfl rfl tie3 noOwnUnsafe
end Go.Proofs.Qxb6609358aDoor
