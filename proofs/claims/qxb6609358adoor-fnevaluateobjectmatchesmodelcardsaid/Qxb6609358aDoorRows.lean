/-
  NARROWER THAN 'FOR EVERY INPUT', by the rows' own cells (each row's printed sentence says how): FnFirstByteIsLowestNonzeroByte: laid · FnFirstByteStepsByByte: laid · FnParseFragmentMatchesModel: laid · FnEvaluateArrayMatchesModel: laid · FnEvaluateObjectMatchesModel: laid.
  DERIVED. THE GIVEN ROWS OF THIS SEAT. 5 by the template 'for every input the law returns true; each argument reads behind the call as it read before'; 0 by the template 'total and deterministic' (their statements: Qxb6609358aDoorTotals.lean).
  GIVEN WITH THE SEED: the statements are not yours to turn. If you find one false, say at which input.
  Laid BY PROGRAM, IN A SANDBOX (cutbox-rows.mjs): the forced cells as the released guide's own fill.sh prints them over the translation 64478968796ac08d… (all of the seat's roots in one cut). By AI agents, Wed Nov 11 2026. No macro, syntax, notation, axiom, sorry.
-/
import Derived.Test.Qxb6609358aDoorChecked
import GoSem.PinnedTables
import GoSem.Claim
import GoSem.ClaimJoined
import GoSem.ClaimMapViews
import Derived.JoinedTies
import Derived.KernelRfl
namespace Go.Proofs.Qxb6609358aDoor
/- THE CELL 'sum', in the pinned program and in every row, IS THE sha256 OF THE DUMP (.gsa) THAT Qxb6609358aDoorProg.lean LOADS. Nothing in Lean hashes anything: it is a label: what it is worth is what the hold of that sum in a sandbox is worth. -/
noncomputable def Tryd.pinned : Pinned := { name := "qxb6609358adoor", sum := "64478968796ac08db239705c33d9ea0f0eb87109bf6bd2557f6bd403beb27947", checked := Tryd.checked }
namespace Rows
def none {H : Type} : Left H := { results := [], args := [] }

/- WHAT THE LISTED PACKAGE-LEVEL VARIABLES READ AS WHEN THE CALL BEGINS. Each datum BY PROGRAM (the guide's laid-datum.mjs) off the statement by which the dump's own 'gosem.cut.vars' lays the variable. In a bare row this is a premise. The card (Qxb6609358aDoorCards.lean) ties it to the program's text. -/
def laid_math_bits_deBruijn64tab {H : Type} : DataW H := .agg [.lit (.int .u8 0), .lit (.int .u8 1), .lit (.int .u8 56), .lit (.int .u8 2), .lit (.int .u8 57), .lit (.int .u8 49), .lit (.int .u8 28), .lit (.int .u8 3), .lit (.int .u8 61), .lit (.int .u8 58), .lit (.int .u8 42), .lit (.int .u8 50), .lit (.int .u8 38), .lit (.int .u8 29), .lit (.int .u8 17), .lit (.int .u8 4), .lit (.int .u8 62), .lit (.int .u8 47), .lit (.int .u8 59), .lit (.int .u8 36), .lit (.int .u8 45), .lit (.int .u8 43), .lit (.int .u8 51), .lit (.int .u8 22), .lit (.int .u8 53), .lit (.int .u8 39), .lit (.int .u8 33), .lit (.int .u8 30), .lit (.int .u8 24), .lit (.int .u8 18), .lit (.int .u8 12), .lit (.int .u8 5), .lit (.int .u8 63), .lit (.int .u8 55), .lit (.int .u8 48), .lit (.int .u8 27), .lit (.int .u8 60), .lit (.int .u8 41), .lit (.int .u8 37), .lit (.int .u8 16), .lit (.int .u8 46), .lit (.int .u8 35), .lit (.int .u8 44), .lit (.int .u8 21), .lit (.int .u8 52), .lit (.int .u8 32), .lit (.int .u8 23), .lit (.int .u8 11), .lit (.int .u8 54), .lit (.int .u8 26), .lit (.int .u8 40), .lit (.int .u8 15), .lit (.int .u8 34), .lit (.int .u8 20), .lit (.int .u8 31), .lit (.int .u8 10), .lit (.int .u8 25), .lit (.int .u8 14), .lit (.int .u8 19), .lit (.int .u8 9), .lit (.int .u8 13), .lit (.int .u8 8), .lit (.int .u8 7), .lit (.int .u8 6)]
def laid_unicode_utf8_acceptRanges {H : Type} : DataW H := .agg [.agg [.lit (.int .u8 128), .lit (.int .u8 191)], .agg [.lit (.int .u8 160), .lit (.int .u8 191)], .agg [.lit (.int .u8 128), .lit (.int .u8 159)], .agg [.lit (.int .u8 144), .lit (.int .u8 191)], .agg [.lit (.int .u8 128), .lit (.int .u8 143)], .agg [.lit (.int .u8 0), .lit (.int .u8 0)], .agg [.lit (.int .u8 0), .lit (.int .u8 0)], .agg [.lit (.int .u8 0), .lit (.int .u8 0)], .agg [.lit (.int .u8 0), .lit (.int .u8 0)], .agg [.lit (.int .u8 0), .lit (.int .u8 0)], .agg [.lit (.int .u8 0), .lit (.int .u8 0)], .agg [.lit (.int .u8 0), .lit (.int .u8 0)], .agg [.lit (.int .u8 0), .lit (.int .u8 0)], .agg [.lit (.int .u8 0), .lit (.int .u8 0)], .agg [.lit (.int .u8 0), .lit (.int .u8 0)], .agg [.lit (.int .u8 0), .lit (.int .u8 0)]]
def laid_errors_errorType {H : Type} : DataW H := .iface "internal/reflectlite.rtype" (.agg [.ptr (.lit (.string [101, 114, 114, 111, 114]))])
/-- One of Go's own tables, pinned by name: the form's constant. -/
def laid_unicode_utf8_first : DataW Unit := Go.Pinned.utf8First

/-- 'zzlaws_root_b1.FnFirstByteIsLowestNonzeroByte': WHATEVER THE INPUT: true; the input reads as it did. -/
def fnFirstByteIsLowestNonzeroByteSpec : ChangeSpec := { name := "fnFirstByteIsLowestNonzeroByte", fn := fun _ => fun
  | [d] => { results := [.lit (.bool true)], args := [d] }
  | _ => none }
def fnFirstByteIsLowestNonzeroByteRow : OpenClaim := { program := "qxb6609358adoor", sum := "64478968796ac08db239705c33d9ea0f0eb87109bf6bd2557f6bd403beb27947", func := "example.com/tildeslash/tildeslash/zzlaws_root_b1.FnFirstByteIsLowestNonzeroByte", spec := "fnFirstByteIsLowestNonzeroByte", named := ["math/bits.deBruijn64tab"], apart := false, laid := [("math/bits.deBruijn64tab", laid_math_bits_deBruijn64tab)] }
def FnFirstByteIsLowestNonzeroByteSaid : Prop := fnFirstByteIsLowestNonzeroByteRow.holds Tryd.pinned (OpenSpec.ofChange fnFirstByteIsLowestNonzeroByteSpec)

/-- ITS FALSE NEIGHBOUR: 'it returns false'. Refute it at one input. -/
def fnFirstByteIsLowestNonzeroByteWrong : ChangeSpec := { name := "fnFirstByteIsLowestNonzeroByte", fn := fun _ => fun
  | [d] => { results := [.lit (.bool false)], args := [d] }
  | _ => none }
def FnFirstByteIsLowestNonzeroByteWrongFalsely : Prop := fnFirstByteIsLowestNonzeroByteRow.holds Tryd.pinned (OpenSpec.ofChange fnFirstByteIsLowestNonzeroByteWrong)

/-- 'zzlaws_root_b1.FnFirstByteStepsByByte': WHATEVER THE INPUT: true; the input reads as it did. -/
def fnFirstByteStepsByByteSpec : ChangeSpec := { name := "fnFirstByteStepsByByte", fn := fun _ => fun
  | [d] => { results := [.lit (.bool true)], args := [d] }
  | _ => none }
def fnFirstByteStepsByByteRow : OpenClaim := { program := "qxb6609358adoor", sum := "64478968796ac08db239705c33d9ea0f0eb87109bf6bd2557f6bd403beb27947", func := "example.com/tildeslash/tildeslash/zzlaws_root_b1.FnFirstByteStepsByByte", spec := "fnFirstByteStepsByByte", named := ["math/bits.deBruijn64tab"], apart := false, laid := [("math/bits.deBruijn64tab", laid_math_bits_deBruijn64tab)] }
def FnFirstByteStepsByByteSaid : Prop := fnFirstByteStepsByByteRow.holds Tryd.pinned (OpenSpec.ofChange fnFirstByteStepsByByteSpec)

/-- ITS FALSE NEIGHBOUR: 'it returns false'. Refute it at one input. -/
def fnFirstByteStepsByByteWrong : ChangeSpec := { name := "fnFirstByteStepsByByte", fn := fun _ => fun
  | [d] => { results := [.lit (.bool false)], args := [d] }
  | _ => none }
def FnFirstByteStepsByByteWrongFalsely : Prop := fnFirstByteStepsByByteRow.holds Tryd.pinned (OpenSpec.ofChange fnFirstByteStepsByByteWrong)

/-- 'zzlaws_root_b1.FnParseFragmentMatchesModel': WHATEVER THE INPUT: true; the input reads as it did. -/
def fnParseFragmentMatchesModelSpec : ChangeSpec := { name := "fnParseFragmentMatchesModel", fn := fun _ => fun
  | [d] => { results := [.lit (.bool true)], args := [d] }
  | _ => none }
def fnParseFragmentMatchesModelRow : OpenClaim := { program := "qxb6609358adoor", sum := "64478968796ac08db239705c33d9ea0f0eb87109bf6bd2557f6bd403beb27947", func := "example.com/tildeslash/tildeslash/zzlaws_root_b1.FnParseFragmentMatchesModel", spec := "fnParseFragmentMatchesModel", inPlace := ["internal/bytealg.IndexByteString", "internal/abi.NoEscape", "internal/bytealg.MakeNoZero", "internal/bytealg.IndexString", "internal/bytealg.CountString", "internal/reflectlite.ValueOf", "(internal/reflectlite.Value).Type", "(internal/reflectlite.Value).IsNil", "internal/reflectlite.TypeOf", "(internal/reflectlite.Value).Elem", "(internal/reflectlite.Value).Set"], unfollowed := true, recurses := true, named := ["unicode/utf8.first", "unicode/utf8.acceptRanges", "internal/bytealg.MaxLen", "errors.errorType"], apart := false, laid := [("unicode/utf8.acceptRanges", laid_unicode_utf8_acceptRanges), ("errors.errorType", laid_errors_errorType), ("unicode/utf8.first", laid_unicode_utf8_first)] }
def FnParseFragmentMatchesModelSaid : Prop := fnParseFragmentMatchesModelRow.holds Tryd.pinned (OpenSpec.ofChange fnParseFragmentMatchesModelSpec)

/-- ITS FALSE NEIGHBOUR: 'it returns false'. Refute it at one input. -/
def fnParseFragmentMatchesModelWrong : ChangeSpec := { name := "fnParseFragmentMatchesModel", fn := fun _ => fun
  | [d] => { results := [.lit (.bool false)], args := [d] }
  | _ => none }
def FnParseFragmentMatchesModelWrongFalsely : Prop := fnParseFragmentMatchesModelRow.holds Tryd.pinned (OpenSpec.ofChange fnParseFragmentMatchesModelWrong)

/-- 'zzlaws_root_b1.FnEvaluateArrayMatchesModel': WHATEVER THE INPUT: true; the input reads as it did. -/
def fnEvaluateArrayMatchesModelSpec : ChangeSpec := { name := "fnEvaluateArrayMatchesModel", fn := fun _ => fun
  | [d1, d2] => { results := [.lit (.bool true)], args := [d1, d2] }
  | _ => none }
def fnEvaluateArrayMatchesModelRow : OpenClaim := { program := "qxb6609358adoor", sum := "64478968796ac08db239705c33d9ea0f0eb87109bf6bd2557f6bd403beb27947", func := "example.com/tildeslash/tildeslash/zzlaws_root_b1.FnEvaluateArrayMatchesModel", spec := "fnEvaluateArrayMatchesModel", inPlace := ["internal/bytealg.IndexByteString", "internal/abi.NoEscape", "internal/bytealg.MakeNoZero", "internal/bytealg.IndexString", "internal/bytealg.CountString", "internal/reflectlite.ValueOf", "(internal/reflectlite.Value).Type", "(internal/reflectlite.Value).IsNil", "internal/reflectlite.TypeOf", "(internal/reflectlite.Value).Elem", "(internal/reflectlite.Value).Set"], unfollowed := true, recurses := true, named := ["internal/bytealg.MaxLen", "errors.errorType"], apart := false, laid := [("errors.errorType", laid_errors_errorType)] }
def FnEvaluateArrayMatchesModelSaid : Prop := fnEvaluateArrayMatchesModelRow.holds Tryd.pinned (OpenSpec.ofChange fnEvaluateArrayMatchesModelSpec)

/-- ITS FALSE NEIGHBOUR: 'it returns false'. Refute it at one input. -/
def fnEvaluateArrayMatchesModelWrong : ChangeSpec := { name := "fnEvaluateArrayMatchesModel", fn := fun _ => fun
  | [d1, d2] => { results := [.lit (.bool false)], args := [d1, d2] }
  | _ => none }
def FnEvaluateArrayMatchesModelWrongFalsely : Prop := fnEvaluateArrayMatchesModelRow.holds Tryd.pinned (OpenSpec.ofChange fnEvaluateArrayMatchesModelWrong)

/-- 'zzlaws_root_b1.FnEvaluateObjectMatchesModel': WHATEVER THE INPUT: true; the input reads as it did. -/
def fnEvaluateObjectMatchesModelSpec : ChangeSpec := { name := "fnEvaluateObjectMatchesModel", fn := fun _ => fun
  | [d1, d2, d3] => { results := [.lit (.bool true)], args := [d1, d2, d3] }
  | _ => none }
def fnEvaluateObjectMatchesModelRow : OpenClaim := { program := "qxb6609358adoor", sum := "64478968796ac08db239705c33d9ea0f0eb87109bf6bd2557f6bd403beb27947", func := "example.com/tildeslash/tildeslash/zzlaws_root_b1.FnEvaluateObjectMatchesModel", spec := "fnEvaluateObjectMatchesModel", inPlace := ["internal/bytealg.IndexByteString", "internal/abi.NoEscape", "internal/bytealg.MakeNoZero", "internal/bytealg.IndexString", "internal/bytealg.CountString", "internal/reflectlite.ValueOf", "(internal/reflectlite.Value).Type", "(internal/reflectlite.Value).IsNil", "internal/reflectlite.TypeOf", "(internal/reflectlite.Value).Elem", "(internal/reflectlite.Value).Set"], unfollowed := true, recurses := true, named := ["internal/bytealg.MaxLen", "errors.errorType"], apart := false, laid := [("errors.errorType", laid_errors_errorType)] }
def FnEvaluateObjectMatchesModelSaid : Prop := fnEvaluateObjectMatchesModelRow.holds Tryd.pinned (OpenSpec.ofChange fnEvaluateObjectMatchesModelSpec)

/-- ITS FALSE NEIGHBOUR: 'it returns false'. Refute it at one input. -/
def fnEvaluateObjectMatchesModelWrong : ChangeSpec := { name := "fnEvaluateObjectMatchesModel", fn := fun _ => fun
  | [d1, d2, d3] => { results := [.lit (.bool false)], args := [d1, d2, d3] }
  | _ => none }
def FnEvaluateObjectMatchesModelWrongFalsely : Prop := fnEvaluateObjectMatchesModelRow.holds Tryd.pinned (OpenSpec.ofChange fnEvaluateObjectMatchesModelWrong)

end Rows
end Go.Proofs.Qxb6609358aDoor
