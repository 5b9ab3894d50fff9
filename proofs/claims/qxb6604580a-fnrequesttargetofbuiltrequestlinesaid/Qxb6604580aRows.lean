/-
  No cell of these rows narrows 'for every input' (looked for: loops, veiled, ifaces, maps, wideKeys, modest, calm, conditions, laid).
  DERIVED. THE GIVEN ROWS OF THIS SEAT. 1 by the template 'for every input the law returns true; each argument reads behind the call as it read before'; 0 by the template 'total and deterministic' (their statements: Qxb6604580aTotals.lean).
  GIVEN WITH THE SEED: the statements are not yours to turn. If you find one false, say at which input.
  Laid BY PROGRAM, IN A SANDBOX (cutbox-rows.mjs): the forced cells as the released guide's own fill.sh prints them over the translation 617aeb15c759855f… (all of the seat's roots in one cut). By AI agents, Wed Nov 11 2026. No macro, syntax, notation, axiom, sorry.
-/
import Derived.Test.Qxb6604580aChecked
import GoSem.Claim
import GoSem.ClaimJoined
import GoSem.ClaimMapViews
import Derived.JoinedTies
import Derived.KernelRfl
namespace Go.Proofs.Qxb6604580a
/- THE CELL 'sum', in the pinned program and in every row, IS THE sha256 OF THE DUMP (.gsa) THAT Qxb6604580aProg.lean LOADS. Nothing in Lean hashes anything: it is a label: what it is worth is what the hold of that sum in a sandbox is worth. -/
noncomputable def Try.pinned : Pinned := { name := "qxb6604580a", sum := "617aeb15c759855f6320b3b2b96b5bc802790b4e2b854995a352a724f7bf7e32", checked := Try.checked }
namespace Rows
def none {H : Type} : Left H := { results := [], args := [] }

/-- 'zzlaws_pkg_request_b1.FnRequestTargetOfBuiltRequestLine': WHATEVER THE INPUT: true; the input reads as it did. -/
def fnRequestTargetOfBuiltRequestLineSpec : ChangeSpec := { name := "fnRequestTargetOfBuiltRequestLine", fn := fun _ => fun
  | [d1, d2, d3, d4] => { results := [.lit (.bool true)], args := [d1, d2, d3, d4] }
  | _ => none }
def fnRequestTargetOfBuiltRequestLineRow : OpenClaim := { program := "qxb6604580a", sum := "617aeb15c759855f6320b3b2b96b5bc802790b4e2b854995a352a724f7bf7e32", func := "example.com/injectrix/injectrix/zzlaws_pkg_request_b1.FnRequestTargetOfBuiltRequestLine", spec := "fnRequestTargetOfBuiltRequestLine", inPlace := ["internal/bytealg.IndexByte", "internal/bytealg.Index"], named := ["internal/bytealg.MaxLen"], apart := false }
def FnRequestTargetOfBuiltRequestLineSaid : Prop := fnRequestTargetOfBuiltRequestLineRow.holds Try.pinned (OpenSpec.ofChange fnRequestTargetOfBuiltRequestLineSpec)

/-- ITS FALSE NEIGHBOUR: 'it returns false'. Refute it at one input. -/
def fnRequestTargetOfBuiltRequestLineWrong : ChangeSpec := { name := "fnRequestTargetOfBuiltRequestLine", fn := fun _ => fun
  | [d1, d2, d3, d4] => { results := [.lit (.bool false)], args := [d1, d2, d3, d4] }
  | _ => none }
def FnRequestTargetOfBuiltRequestLineWrongFalsely : Prop := fnRequestTargetOfBuiltRequestLineRow.holds Try.pinned (OpenSpec.ofChange fnRequestTargetOfBuiltRequestLineWrong)

end Rows
end Go.Proofs.Qxb6604580a
