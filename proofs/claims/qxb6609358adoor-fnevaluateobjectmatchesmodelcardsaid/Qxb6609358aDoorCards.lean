/-
  DERIVED. GIVEN WITH THE SEED: THE CARDS: each row of Qxb6609358aDoorRows.lean that lists a variable, with what it lists TIED to the program's text (the seventh form; the later family's looks); each row that meets fmt, with fmt's text TOLD by the authors' own Lean function (tested against real Go, not proved from fmt's source: count such statements apart). THE CARD IS WHAT COUNTS. Prove the row's statement (the work); the ties are given (Qxb6609358aDoorTie.lean); close each card by the builder's one call (the guide's Derived/Test/ToyasCard.lean, 'card_holds'). Laid BY PROGRAM, IN A SANDBOX (cutbox-door.mjs). By AI agents, Wed Nov 11 2026. No macro, syntax, notation, axiom, sorry.
-/
import Derived.Test.Qxb6609358aDoorRows
import GoSem.ClaimSeven
namespace Go.Proofs.Qxb6609358aDoor
namespace Rows

/-- THE TIED CARD OF 'zzlaws_root_b1.FnFirstByteIsLowestNonzeroByte'. -/
def fnFirstByteIsLowestNonzeroByteCard : Claim7 := { stood := { row := fnFirstByteIsLowestNonzeroByteRow, standIns := [], harness := (true, "d6f68a0eb16c5113f8449516026118682b5ed3fa75df0a131cbffb4de1535b00"), looks := true }, kinds := [], alts := [], laidByText := true, laidKinds := [.data], laidTests := true, laidLooks := .later }
def FnFirstByteIsLowestNonzeroByteCardSaid : Prop := Claim7.holds Tryd.pinned (.plain (OpenSpec.ofChange fnFirstByteIsLowestNonzeroByteSpec)) fnFirstByteIsLowestNonzeroByteCard

/-- THE TIED CARD OF 'zzlaws_root_b1.FnFirstByteStepsByByte'. -/
def fnFirstByteStepsByByteCard : Claim7 := { stood := { row := fnFirstByteStepsByByteRow, standIns := [], harness := (true, "d6f68a0eb16c5113f8449516026118682b5ed3fa75df0a131cbffb4de1535b00"), looks := true }, kinds := [], alts := [], laidByText := true, laidKinds := [.data], laidTests := true, laidLooks := .later }
def FnFirstByteStepsByByteCardSaid : Prop := Claim7.holds Tryd.pinned (.plain (OpenSpec.ofChange fnFirstByteStepsByByteSpec)) fnFirstByteStepsByByteCard

/-- THE TIED CARD OF 'zzlaws_root_b1.FnParseFragmentMatchesModel'. -/
def fnParseFragmentMatchesModelCard : Claim7 := { stood := { row := fnParseFragmentMatchesModelRow, standIns := [], harness := (true, "d6f68a0eb16c5113f8449516026118682b5ed3fa75df0a131cbffb4de1535b00"), looks := true }, kinds := [], alts := [], laidByText := true, laidKinds := [.data, .handle, .pinned], laidTests := true, laidLooks := .later }
def FnParseFragmentMatchesModelCardSaid : Prop := Claim7.holds Tryd.pinned (.plain (OpenSpec.ofChange fnParseFragmentMatchesModelSpec)) fnParseFragmentMatchesModelCard

/-- THE TIED CARD OF 'zzlaws_root_b1.FnEvaluateArrayMatchesModel'. -/
def fnEvaluateArrayMatchesModelCard : Claim7 := { stood := { row := fnEvaluateArrayMatchesModelRow, standIns := [], harness := (true, "d6f68a0eb16c5113f8449516026118682b5ed3fa75df0a131cbffb4de1535b00"), looks := true }, kinds := [], alts := [], laidByText := true, laidKinds := [.handle], laidTests := true, laidLooks := .later }
def FnEvaluateArrayMatchesModelCardSaid : Prop := Claim7.holds Tryd.pinned (.plain (OpenSpec.ofChange fnEvaluateArrayMatchesModelSpec)) fnEvaluateArrayMatchesModelCard

/-- THE TIED CARD OF 'zzlaws_root_b1.FnEvaluateObjectMatchesModel'. -/
def fnEvaluateObjectMatchesModelCard : Claim7 := { stood := { row := fnEvaluateObjectMatchesModelRow, standIns := [], harness := (true, "d6f68a0eb16c5113f8449516026118682b5ed3fa75df0a131cbffb4de1535b00"), looks := true }, kinds := [], alts := [], laidByText := true, laidKinds := [.handle], laidTests := true, laidLooks := .later }
def FnEvaluateObjectMatchesModelCardSaid : Prop := Claim7.holds Tryd.pinned (.plain (OpenSpec.ofChange fnEvaluateObjectMatchesModelSpec)) fnEvaluateObjectMatchesModelCard
end Rows
end Go.Proofs.Qxb6609358aDoor
