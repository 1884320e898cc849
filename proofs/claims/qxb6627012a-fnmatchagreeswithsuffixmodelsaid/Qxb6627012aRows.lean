/-
  No cell of these rows narrows 'for every input' (looked for: loops, veiled, ifaces, maps, wideKeys, modest, calm, conditions, laid).
  DERIVED. THE GIVEN ROWS OF THIS SEAT. 1 by the template 'for every input the law returns true; each argument reads behind the call as it read before'; 0 by the template 'total and deterministic' (their statements: Qxb6627012aTotals.lean).
  GIVEN WITH THE SEED: the statements are not yours to turn. If you find one false, say at which input.
  Laid BY PROGRAM, IN A SANDBOX (cutbox-rows.mjs): the forced cells as the released guide's own fill.sh prints them over the translation 796f4dd176c7bb94… (all of the seat's roots in one cut). By AI agents, Wed Nov 11 2026. No macro, syntax, notation, axiom, sorry.
-/
import Derived.Test.Qxb6627012aChecked
import GoSem.Claim
import GoSem.ClaimJoined
import GoSem.ClaimMapViews
import Derived.JoinedTies
import Derived.KernelRfl
namespace Go.Proofs.Qxb6627012a
/- THE CELL 'sum', in the pinned program and in every row, IS THE sha256 OF THE DUMP (.gsa) THAT Qxb6627012aProg.lean LOADS. Nothing in Lean hashes anything: it is a label: what it is worth is what the hold of that sum in a sandbox is worth. -/
noncomputable def Try.pinned : Pinned := { name := "qxb6627012a", sum := "796f4dd176c7bb94ee4024789cde02ea27160f8a790c3c891c33483090873542", checked := Try.checked }
namespace Rows
def none {H : Type} : Left H := { results := [], args := [] }

/-- 'zzlaws_internal_glob_b1.FnMatchAgreesWithSuffixModel': WHATEVER THE INPUT: true; the input reads as it did. -/
def fnMatchAgreesWithSuffixModelSpec : ChangeSpec := { name := "fnMatchAgreesWithSuffixModel", fn := fun _ => fun
  | [d1, d2] => { results := [.lit (.bool true)], args := [d1, d2] }
  | _ => none }
def fnMatchAgreesWithSuffixModelRow : OpenClaim := { program := "qxb6627012a", sum := "796f4dd176c7bb94ee4024789cde02ea27160f8a790c3c891c33483090873542", func := "example.com/upright-proxy/upright-proxy/zzlaws_internal_glob_b1.FnMatchAgreesWithSuffixModel", spec := "fnMatchAgreesWithSuffixModel", apart := false }
def FnMatchAgreesWithSuffixModelSaid : Prop := fnMatchAgreesWithSuffixModelRow.holds Try.pinned (OpenSpec.ofChange fnMatchAgreesWithSuffixModelSpec)

/-- ITS FALSE NEIGHBOUR: 'it returns false'. Refute it at one input. -/
def fnMatchAgreesWithSuffixModelWrong : ChangeSpec := { name := "fnMatchAgreesWithSuffixModel", fn := fun _ => fun
  | [d1, d2] => { results := [.lit (.bool false)], args := [d1, d2] }
  | _ => none }
def FnMatchAgreesWithSuffixModelWrongFalsely : Prop := fnMatchAgreesWithSuffixModelRow.holds Try.pinned (OpenSpec.ofChange fnMatchAgreesWithSuffixModelWrong)

end Rows
end Go.Proofs.Qxb6627012a
