/-
  No cell of these rows narrows 'for every input' (looked for: loops, veiled, ifaces, maps, wideKeys, modest, calm, conditions, laid).
  DERIVED. THE GIVEN ROWS OF THIS SEAT. 2 by the template 'for every input the law returns true; each argument reads behind the call as it read before'; 0 by the template 'total and deterministic' (their statements: Qxb6627484aTotals.lean).
  GIVEN WITH THE SEED: the statements are not yours to turn. If you find one false, say at which input.
  Laid BY PROGRAM, IN A SANDBOX (cutbox-rows.mjs): the forced cells as the released guide's own fill.sh prints them over the translation 8e67ee982bf23242… (all of the seat's roots in one cut). By AI agents, Wed Nov 11 2026. No macro, syntax, notation, axiom, sorry.
-/
import Derived.Test.Qxb6627484aChecked
import GoSem.Claim
import GoSem.ClaimJoined
import GoSem.ClaimMapViews
import Derived.JoinedTies
import Derived.KernelRfl
namespace Go.Proofs.Qxb6627484a
/- THE CELL 'sum', in the pinned program and in every row, IS THE sha256 OF THE DUMP (.gsa) THAT Qxb6627484aProg.lean LOADS. Nothing in Lean hashes anything: it is a label: what it is worth is what the hold of that sum in a sandbox is worth. -/
noncomputable def Try.pinned : Pinned := { name := "qxb6627484a", sum := "8e67ee982bf232425ac40bddc2b4e2613f4f9f6bbcf7140ce762619ac5730979", checked := Try.checked }
namespace Rows
def none {H : Type} : Left H := { results := [], args := [] }

/-- 'zzlaws_cgroup_b1.FnSharesThousandMoreIs1024More': WHATEVER THE INPUT: true; the input reads as it did. -/
def fnSharesThousandMoreIs1024MoreSpec : ChangeSpec := { name := "fnSharesThousandMoreIs1024More", fn := fun _ => fun
  | [d] => { results := [.lit (.bool true)], args := [d] }
  | _ => none }
def fnSharesThousandMoreIs1024MoreRow : OpenClaim := { program := "qxb6627484a", sum := "8e67ee982bf232425ac40bddc2b4e2613f4f9f6bbcf7140ce762619ac5730979", func := "example.com/allotment/allotment/zzlaws_cgroup_b1.FnSharesThousandMoreIs1024More", spec := "fnSharesThousandMoreIs1024More", apart := false }
def FnSharesThousandMoreIs1024MoreSaid : Prop := fnSharesThousandMoreIs1024MoreRow.holds Try.pinned (OpenSpec.ofChange fnSharesThousandMoreIs1024MoreSpec)

/-- ITS FALSE NEIGHBOUR: 'it returns false'. Refute it at one input. -/
def fnSharesThousandMoreIs1024MoreWrong : ChangeSpec := { name := "fnSharesThousandMoreIs1024More", fn := fun _ => fun
  | [d] => { results := [.lit (.bool false)], args := [d] }
  | _ => none }
def FnSharesThousandMoreIs1024MoreWrongFalsely : Prop := fnSharesThousandMoreIs1024MoreRow.holds Try.pinned (OpenSpec.ofChange fnSharesThousandMoreIs1024MoreWrong)

/-- 'zzlaws_cgroup_b1.FnSharesSplitAddsWithCarry': WHATEVER THE INPUT: true; the input reads as it did. -/
def fnSharesSplitAddsWithCarrySpec : ChangeSpec := { name := "fnSharesSplitAddsWithCarry", fn := fun _ => fun
  | [d1, d2] => { results := [.lit (.bool true)], args := [d1, d2] }
  | _ => none }
def fnSharesSplitAddsWithCarryRow : OpenClaim := { program := "qxb6627484a", sum := "8e67ee982bf232425ac40bddc2b4e2613f4f9f6bbcf7140ce762619ac5730979", func := "example.com/allotment/allotment/zzlaws_cgroup_b1.FnSharesSplitAddsWithCarry", spec := "fnSharesSplitAddsWithCarry", apart := false }
def FnSharesSplitAddsWithCarrySaid : Prop := fnSharesSplitAddsWithCarryRow.holds Try.pinned (OpenSpec.ofChange fnSharesSplitAddsWithCarrySpec)

/-- ITS FALSE NEIGHBOUR: 'it returns false'. Refute it at one input. -/
def fnSharesSplitAddsWithCarryWrong : ChangeSpec := { name := "fnSharesSplitAddsWithCarry", fn := fun _ => fun
  | [d1, d2] => { results := [.lit (.bool false)], args := [d1, d2] }
  | _ => none }
def FnSharesSplitAddsWithCarryWrongFalsely : Prop := fnSharesSplitAddsWithCarryRow.holds Try.pinned (OpenSpec.ofChange fnSharesSplitAddsWithCarryWrong)

end Rows
end Go.Proofs.Qxb6627484a
