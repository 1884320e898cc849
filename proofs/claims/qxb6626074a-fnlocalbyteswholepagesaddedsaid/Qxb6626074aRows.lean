/-
  No cell of these rows narrows 'for every input' (looked for: loops, veiled, ifaces, maps, wideKeys, modest, calm, conditions, laid).
  DERIVED. THE GIVEN ROWS OF THIS SEAT. 2 by the template 'for every input the law returns true; each argument reads behind the call as it read before'; 0 by the template 'total and deterministic' (their statements: Qxb6626074aTotals.lean).
  GIVEN WITH THE SEED: the statements are not yours to turn. If you find one false, say at which input.
  Laid BY PROGRAM, IN A SANDBOX (cutbox-rows.mjs): the forced cells as the released guide's own fill.sh prints them over the translation d5a231f6fcaf76b9… (all of the seat's roots in one cut). By AI agents, Wed Nov 11 2026. No macro, syntax, notation, axiom, sorry.
-/
import Derived.Test.Qxb6626074aChecked
import GoSem.Claim
import GoSem.ClaimJoined
import GoSem.ClaimMapViews
import Derived.JoinedTies
import Derived.KernelRfl
namespace Go.Proofs.Qxb6626074a
/- THE CELL 'sum', in the pinned program and in every row, IS THE sha256 OF THE DUMP (.gsa) THAT Qxb6626074aProg.lean LOADS. Nothing in Lean hashes anything: it is a label: what it is worth is what the hold of that sum in a sandbox is worth. -/
noncomputable def Try.pinned : Pinned := { name := "qxb6626074a", sum := "d5a231f6fcaf76b939cc40249d33b122698841b4a11679aa3b84fca78b74c655", checked := Try.checked }
namespace Rows
def none {H : Type} : Left H := { results := [], args := [] }

/-- 'zzlaws_root_b1.FnLocalBytesWholePagesAdded': WHATEVER THE INPUT: true; the input reads as it did. -/
def fnLocalBytesWholePagesAddedSpec : ChangeSpec := { name := "fnLocalBytesWholePagesAdded", fn := fun _ => fun
  | [d1, d2, d3] => { results := [.lit (.bool true)], args := [d1, d2, d3] }
  | _ => none }
def fnLocalBytesWholePagesAddedRow : OpenClaim := { program := "qxb6626074a", sum := "d5a231f6fcaf76b939cc40249d33b122698841b4a11679aa3b84fca78b74c655", func := "example.com/pagewright/pagewright/zzlaws_root_b1.FnLocalBytesWholePagesAdded", spec := "fnLocalBytesWholePagesAdded", apart := false }
def FnLocalBytesWholePagesAddedSaid : Prop := fnLocalBytesWholePagesAddedRow.holds Try.pinned (OpenSpec.ofChange fnLocalBytesWholePagesAddedSpec)

/-- ITS FALSE NEIGHBOUR: 'it returns false'. Refute it at one input. -/
def fnLocalBytesWholePagesAddedWrong : ChangeSpec := { name := "fnLocalBytesWholePagesAdded", fn := fun _ => fun
  | [d1, d2, d3] => { results := [.lit (.bool false)], args := [d1, d2, d3] }
  | _ => none }
def FnLocalBytesWholePagesAddedWrongFalsely : Prop := fnLocalBytesWholePagesAddedRow.holds Try.pinned (OpenSpec.ofChange fnLocalBytesWholePagesAddedWrong)

/-- 'zzlaws_root_b1.FnLocalBytesLocalPartStaysRestLeaves': WHATEVER THE INPUT: true; the input reads as it did. -/
def fnLocalBytesLocalPartStaysRestLeavesSpec : ChangeSpec := { name := "fnLocalBytesLocalPartStaysRestLeaves", fn := fun _ => fun
  | [d1, d2] => { results := [.lit (.bool true)], args := [d1, d2] }
  | _ => none }
def fnLocalBytesLocalPartStaysRestLeavesRow : OpenClaim := { program := "qxb6626074a", sum := "d5a231f6fcaf76b939cc40249d33b122698841b4a11679aa3b84fca78b74c655", func := "example.com/pagewright/pagewright/zzlaws_root_b1.FnLocalBytesLocalPartStaysRestLeaves", spec := "fnLocalBytesLocalPartStaysRestLeaves", apart := false }
def FnLocalBytesLocalPartStaysRestLeavesSaid : Prop := fnLocalBytesLocalPartStaysRestLeavesRow.holds Try.pinned (OpenSpec.ofChange fnLocalBytesLocalPartStaysRestLeavesSpec)

/-- ITS FALSE NEIGHBOUR: 'it returns false'. Refute it at one input. -/
def fnLocalBytesLocalPartStaysRestLeavesWrong : ChangeSpec := { name := "fnLocalBytesLocalPartStaysRestLeaves", fn := fun _ => fun
  | [d1, d2] => { results := [.lit (.bool false)], args := [d1, d2] }
  | _ => none }
def FnLocalBytesLocalPartStaysRestLeavesWrongFalsely : Prop := fnLocalBytesLocalPartStaysRestLeavesRow.holds Try.pinned (OpenSpec.ofChange fnLocalBytesLocalPartStaysRestLeavesWrong)

end Rows
end Go.Proofs.Qxb6626074a
