/-
  No cell of these rows narrows 'for every input' (looked for: loops, veiled, ifaces, maps, wideKeys, modest, calm, conditions, laid).
  DERIVED. THE GIVEN ROWS OF THIS SEAT. 2 by the template 'for every input the law returns true; each argument reads behind the call as it read before'; 0 by the template 'total and deterministic' (their statements: Qxb6628159aTotals.lean).
  GIVEN WITH THE SEED: the statements are not yours to turn. If you find one false, say at which input.
  Laid BY PROGRAM, IN A SANDBOX (cutbox-rows.mjs): the forced cells as the released guide's own fill.sh prints them over the translation b5752270160b1f2d… (all of the seat's roots in one cut). By AI agents, Wed Nov 11 2026. No macro, syntax, notation, axiom, sorry.
-/
import Derived.Test.Qxb6628159aChecked
import GoSem.Claim
import GoSem.ClaimJoined
import GoSem.ClaimMapViews
import Derived.JoinedTies
import Derived.KernelRfl
namespace Go.Proofs.Qxb6628159a
/- THE CELL 'sum', in the pinned program and in every row, IS THE sha256 OF THE DUMP (.gsa) THAT Qxb6628159aProg.lean LOADS. Nothing in Lean hashes anything: it is a label: what it is worth is what the hold of that sum in a sandbox is worth. -/
noncomputable def Try.pinned : Pinned := { name := "qxb6628159a", sum := "b5752270160b1f2d3345a250fef8d9b29bf679138d7c3667fd53288e27727b96", checked := Try.checked }
namespace Rows
def none {H : Type} : Left H := { results := [], args := [] }

/-- 'zzlaws_internal_proc_b1.FnTailWriteSplitMatchesWhole': WHATEVER THE INPUT: true; the input reads as it did. -/
def fnTailWriteSplitMatchesWholeSpec : ChangeSpec := { name := "fnTailWriteSplitMatchesWhole", fn := fun _ => fun
  | [d1, d2, d3] => { results := [.lit (.bool true)], args := [d1, d2, d3] }
  | _ => none }
def fnTailWriteSplitMatchesWholeRow : OpenClaim := { program := "qxb6628159a", sum := "b5752270160b1f2d3345a250fef8d9b29bf679138d7c3667fd53288e27727b96", func := "example.com/playrail/playrail/zzlaws_internal_proc_b1.FnTailWriteSplitMatchesWhole", spec := "fnTailWriteSplitMatchesWhole", apart := false }
def FnTailWriteSplitMatchesWholeSaid : Prop := fnTailWriteSplitMatchesWholeRow.holds Try.pinned (OpenSpec.ofChange fnTailWriteSplitMatchesWholeSpec)

/-- ITS FALSE NEIGHBOUR: 'it returns false'. Refute it at one input. -/
def fnTailWriteSplitMatchesWholeWrong : ChangeSpec := { name := "fnTailWriteSplitMatchesWhole", fn := fun _ => fun
  | [d1, d2, d3] => { results := [.lit (.bool false)], args := [d1, d2, d3] }
  | _ => none }
def FnTailWriteSplitMatchesWholeWrongFalsely : Prop := fnTailWriteSplitMatchesWholeRow.holds Try.pinned (OpenSpec.ofChange fnTailWriteSplitMatchesWholeWrong)

/-- 'zzlaws_internal_proc_b1.FnTailScriptKeepsLastBytes': WHATEVER THE INPUT: true; the input reads as it did. -/
def fnTailScriptKeepsLastBytesSpec : ChangeSpec := { name := "fnTailScriptKeepsLastBytes", fn := fun _ => fun
  | [d] => { results := [.lit (.bool true)], args := [d] }
  | _ => none }
def fnTailScriptKeepsLastBytesRow : OpenClaim := { program := "qxb6628159a", sum := "b5752270160b1f2d3345a250fef8d9b29bf679138d7c3667fd53288e27727b96", func := "example.com/playrail/playrail/zzlaws_internal_proc_b1.FnTailScriptKeepsLastBytes", spec := "fnTailScriptKeepsLastBytes", apart := false }
def FnTailScriptKeepsLastBytesSaid : Prop := fnTailScriptKeepsLastBytesRow.holds Try.pinned (OpenSpec.ofChange fnTailScriptKeepsLastBytesSpec)

/-- ITS FALSE NEIGHBOUR: 'it returns false'. Refute it at one input. -/
def fnTailScriptKeepsLastBytesWrong : ChangeSpec := { name := "fnTailScriptKeepsLastBytes", fn := fun _ => fun
  | [d] => { results := [.lit (.bool false)], args := [d] }
  | _ => none }
def FnTailScriptKeepsLastBytesWrongFalsely : Prop := fnTailScriptKeepsLastBytesRow.holds Try.pinned (OpenSpec.ofChange fnTailScriptKeepsLastBytesWrong)

end Rows
end Go.Proofs.Qxb6628159a
