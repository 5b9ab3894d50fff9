/-
  No cell of these rows narrows 'for every input' (looked for: loops, veiled, ifaces, maps, wideKeys, modest, calm, conditions, laid).
  DERIVED. THE GIVEN ROWS OF THIS SEAT. 4 by the template 'for every input the law returns true; each argument reads behind the call as it read before'; 0 by the template 'total and deterministic' (their statements: Qxb6003626aTotals.lean).
  GIVEN WITH THE SEED: the statements are not yours to turn. If you find one false, say at which input.
  Laid BY PROGRAM, IN A SANDBOX (cutbox-rows.mjs): the forced cells as the released guide's own fill.sh prints them over the translation f72105ddac559e67… (all of the seat's roots in one cut). By AI agents, Wed Nov 11 2026. No macro, syntax, notation, axiom, sorry.
-/
import Derived.Test.Qxb6003626aChecked
import GoSem.Claim
import GoSem.ClaimJoined
import GoSem.ClaimMapViews
import Derived.JoinedTies
import Derived.KernelRfl
namespace Go.Proofs.Qxb6003626a
/- THE CELL 'sum', in the pinned program and in every row, IS THE sha256 OF THE DUMP (.gsa) THAT Qxb6003626aProg.lean LOADS. Nothing in Lean hashes anything: it is a label: what it is worth is what the hold of that sum in a sandbox is worth. -/
noncomputable def Try.pinned : Pinned := { name := "qxb6003626a", sum := "f72105ddac559e673f26e215968a66f5718a4f2df7dbfd154c5ee8504bfd592c", checked := Try.checked }
namespace Rows
def none {H : Type} : Left H := { results := [], args := [] }

/-- 'zzlaws_root_b1.FnUnquoteWordsMatchesQuoteAutomaton': WHATEVER THE INPUT: true; the input reads as it did. -/
def fnUnquoteWordsMatchesQuoteAutomatonSpec : ChangeSpec := { name := "fnUnquoteWordsMatchesQuoteAutomaton", fn := fun _ => fun
  | [d] => { results := [.lit (.bool true)], args := [d] }
  | _ => none }
def fnUnquoteWordsMatchesQuoteAutomatonRow : OpenClaim := { program := "qxb6003626a", sum := "f72105ddac559e673f26e215968a66f5718a4f2df7dbfd154c5ee8504bfd592c", func := "example.com/addrwright/addrwright/zzlaws_root_b1.FnUnquoteWordsMatchesQuoteAutomaton", spec := "fnUnquoteWordsMatchesQuoteAutomaton", inPlace := ["internal/bytealg.IndexByteString", "internal/abi.NoEscape", "internal/bytealg.MakeNoZero"], apart := false }
def FnUnquoteWordsMatchesQuoteAutomatonSaid : Prop := fnUnquoteWordsMatchesQuoteAutomatonRow.holds Try.pinned (OpenSpec.ofChange fnUnquoteWordsMatchesQuoteAutomatonSpec)

/-- ITS FALSE NEIGHBOUR: 'it returns false'. Refute it at one input. -/
def fnUnquoteWordsMatchesQuoteAutomatonWrong : ChangeSpec := { name := "fnUnquoteWordsMatchesQuoteAutomaton", fn := fun _ => fun
  | [d] => { results := [.lit (.bool false)], args := [d] }
  | _ => none }
def FnUnquoteWordsMatchesQuoteAutomatonWrongFalsely : Prop := fnUnquoteWordsMatchesQuoteAutomatonRow.holds Try.pinned (OpenSpec.ofChange fnUnquoteWordsMatchesQuoteAutomatonWrong)

/-- 'zzlaws_root_b1.FnUnquoteWordsJoinsAtClosedCut': WHATEVER THE INPUT: true; the input reads as it did. -/
def fnUnquoteWordsJoinsAtClosedCutSpec : ChangeSpec := { name := "fnUnquoteWordsJoinsAtClosedCut", fn := fun _ => fun
  | [d1, d2, d3] => { results := [.lit (.bool true)], args := [d1, d2, d3] }
  | _ => none }
def fnUnquoteWordsJoinsAtClosedCutRow : OpenClaim := { program := "qxb6003626a", sum := "f72105ddac559e673f26e215968a66f5718a4f2df7dbfd154c5ee8504bfd592c", func := "example.com/addrwright/addrwright/zzlaws_root_b1.FnUnquoteWordsJoinsAtClosedCut", spec := "fnUnquoteWordsJoinsAtClosedCut", inPlace := ["internal/bytealg.IndexByteString", "internal/abi.NoEscape", "internal/bytealg.MakeNoZero"], apart := false }
def FnUnquoteWordsJoinsAtClosedCutSaid : Prop := fnUnquoteWordsJoinsAtClosedCutRow.holds Try.pinned (OpenSpec.ofChange fnUnquoteWordsJoinsAtClosedCutSpec)

/-- ITS FALSE NEIGHBOUR: 'it returns false'. Refute it at one input. -/
def fnUnquoteWordsJoinsAtClosedCutWrong : ChangeSpec := { name := "fnUnquoteWordsJoinsAtClosedCut", fn := fun _ => fun
  | [d1, d2, d3] => { results := [.lit (.bool false)], args := [d1, d2, d3] }
  | _ => none }
def FnUnquoteWordsJoinsAtClosedCutWrongFalsely : Prop := fnUnquoteWordsJoinsAtClosedCutRow.holds Try.pinned (OpenSpec.ofChange fnUnquoteWordsJoinsAtClosedCutWrong)

/-- 'zzlaws_root_b1.FnReadLocalPartPeelsLeadingBang': WHATEVER THE INPUT: true; the input reads as it did. -/
def fnReadLocalPartPeelsLeadingBangSpec : ChangeSpec := { name := "fnReadLocalPartPeelsLeadingBang", fn := fun _ => fun
  | [d1, d2] => { results := [.lit (.bool true)], args := [d1, d2] }
  | _ => none }
def fnReadLocalPartPeelsLeadingBangRow : OpenClaim := { program := "qxb6003626a", sum := "f72105ddac559e673f26e215968a66f5718a4f2df7dbfd154c5ee8504bfd592c", func := "example.com/addrwright/addrwright/zzlaws_root_b1.FnReadLocalPartPeelsLeadingBang", spec := "fnReadLocalPartPeelsLeadingBang", inPlace := ["internal/bytealg.IndexByteString", "internal/bytealg.IndexString"], named := ["internal/bytealg.MaxLen"], apart := false }
def FnReadLocalPartPeelsLeadingBangSaid : Prop := fnReadLocalPartPeelsLeadingBangRow.holds Try.pinned (OpenSpec.ofChange fnReadLocalPartPeelsLeadingBangSpec)

/-- ITS FALSE NEIGHBOUR: 'it returns false'. Refute it at one input. -/
def fnReadLocalPartPeelsLeadingBangWrong : ChangeSpec := { name := "fnReadLocalPartPeelsLeadingBang", fn := fun _ => fun
  | [d1, d2] => { results := [.lit (.bool false)], args := [d1, d2] }
  | _ => none }
def FnReadLocalPartPeelsLeadingBangWrongFalsely : Prop := fnReadLocalPartPeelsLeadingBangRow.holds Try.pinned (OpenSpec.ofChange fnReadLocalPartPeelsLeadingBangWrong)

/-- 'zzlaws_root_b1.FnReadLocalPartPeelsTrailingPercent': WHATEVER THE INPUT: true; the input reads as it did. -/
def fnReadLocalPartPeelsTrailingPercentSpec : ChangeSpec := { name := "fnReadLocalPartPeelsTrailingPercent", fn := fun _ => fun
  | [d1, d2] => { results := [.lit (.bool true)], args := [d1, d2] }
  | _ => none }
def fnReadLocalPartPeelsTrailingPercentRow : OpenClaim := { program := "qxb6003626a", sum := "f72105ddac559e673f26e215968a66f5718a4f2df7dbfd154c5ee8504bfd592c", func := "example.com/addrwright/addrwright/zzlaws_root_b1.FnReadLocalPartPeelsTrailingPercent", spec := "fnReadLocalPartPeelsTrailingPercent", inPlace := ["internal/bytealg.IndexByteString", "internal/bytealg.IndexString"], named := ["internal/bytealg.MaxLen"], apart := false }
def FnReadLocalPartPeelsTrailingPercentSaid : Prop := fnReadLocalPartPeelsTrailingPercentRow.holds Try.pinned (OpenSpec.ofChange fnReadLocalPartPeelsTrailingPercentSpec)

/-- ITS FALSE NEIGHBOUR: 'it returns false'. Refute it at one input. -/
def fnReadLocalPartPeelsTrailingPercentWrong : ChangeSpec := { name := "fnReadLocalPartPeelsTrailingPercent", fn := fun _ => fun
  | [d1, d2] => { results := [.lit (.bool false)], args := [d1, d2] }
  | _ => none }
def FnReadLocalPartPeelsTrailingPercentWrongFalsely : Prop := fnReadLocalPartPeelsTrailingPercentRow.holds Try.pinned (OpenSpec.ofChange fnReadLocalPartPeelsTrailingPercentWrong)

end Rows
end Go.Proofs.Qxb6003626a
