/-
  THE PROOF OF 'Rows.FnTailScriptKeepsLastBytesSaid': the frame after the guide's proof-skeleton tool (turned by hand for a slice of byte slices), the walk by an AI agent.
-/
import Derived.Test.Qxb6628159aRows
import Derived.Test.Qxb6628159aScript
import Derived.WalkKit
import Derived.ProofKit
import Derived.OpenShut
import Derived.ShutString
import Derived.ChangeOld
import Derived.Below
import Derived.Deep.Matrix
namespace Go.Proofs.Qxb6628159a.fnTailScriptKeepsLastBytes
open Go.ChangeShapes Go.WideShapes Go.ChangeAt Go.RowKit
open Go.ChangeMaps (open_string shut_string)
set_option linter.unusedVariables false

theorem own : ownKnob Try.prog.godebug = none := by kernel_rfl
theorem laidOut : laidOutB Try.prog = true := by kernel_rfl

/-- What the slice of slices that came in leads to. -/
theorem chunks_of {H : Type} {enc : TypeId × Value → H} {W : World} {a : Option Addr} {len cap fuel : Nat} {x : DataW H × List MemPlace} (hf : DataW.trod enc Try.prog W 0 (fun _ => true) true fuel 33 [.slice a len cap] = some x) :
    len ≤ 9223372036854775807 ∧ ∃ A C X, Chunks W a len A C X := by
  rcases Deep.open_int_rows Try.underlying33 Try.underlying22 Try.underlying5 (by kernel_rfl) (by kernel_rfl) hf with ⟨hcs, _⟩ | ⟨y, l, c, A, L, C, Z, hcs, _, hl, hm, _, hr⟩
  · injection hcs with e
    injection e with e1 e2 e3
    subst e1; subst e2
    exact ⟨by omega, fun _ => none, fun _ => 0, fun _ => [], fun h => by omega⟩
  · injection hcs with e
    injection e with e1 e2 e3
    subst e1; subst e2; subst e3
    refine ⟨by unfold maxLen at hm; omega, A, C, fun r => (Z r).take (L r), fun h0 => ?_⟩
    obtain ⟨b, off, spot⟩ := y
    have hspot : spot = none := by simpa [Addr.add] using World.cell?_spot (hr 0 (by omega)).1
    subst hspot
    refine ⟨b, off, rfl, fun r hlt => ?_⟩
    obtain ⟨g1, g2, g3, g4, _, g6, g7⟩ := hr r (by omega)
    have el : ((Z r).take (L r)).length = L r := by rw [List.length_take]; omega
    rw [Addr.add_lit] at g1
    refine ⟨by rw [el]; exact g1, ?_, fun e => ?_, by rw [el]; unfold maxLen at g3; omega⟩
    · intro hne
      have h1 : 0 < L r := by
        rcases Nat.eq_zero_or_pos (L r) with h | h
        · have hz : (Z r).take (L r) = [] := by rw [h]; rfl
          exact absurd hz hne
        · exact h
      cases ea : A r with
      | none => have := g6 ea; omega
      | some a' =>
        obtain ⟨_, hc⟩ := g7 a' ea
        obtain ⟨b', off', spot'⟩ := a'
        have hs : spot' = none := by simpa [Addr.add] using World.cell?_spot (hc 0 (by omega))
        subst hs
        refine ⟨b', off', rfl, fun i hi => ?_⟩
        rw [el] at hi
        have := hc i (by omega)
        rw [Addr.add_lit] at this
        rw [this]
        have e : ((Z r).take (L r))[i]? = (Z r)[i]? := List.getElem?_take_of_lt hi
        simp [List.getD, e]
    · have := g6 e
      refine ⟨?_, this⟩
      have h0 : L r = 0 := by omega
      show (Z r).take (L r) = []
      rw [h0]; rfl

set_option maxRecDepth 100000 in
theorem lifted (os : Os) (started : os.Started) (H : Type) (enc : TypeId × Value → H) :
    ReturnsInHanded {} Try.checked os 4 .any (Rows.fnTailScriptKeepsLastBytesSpec.pre6 enc Try.prog Try.f4 Rows.fnTailScriptKeepsLastBytesRow.domain false) (Rows.fnTailScriptKeepsLastBytesSpec.post enc Try.prog Try.f4 false true false false) := by
  refine returnsInHanded_of_change (C := Try.checked) own started (by kernel_rfl) Try.func4
    (ChangeSpec.witness6 (enc := enc) (C := Try.checked) false ⟨#[], #[.slice none 0 0], []⟩ 8 (by kernel_rfl) (by kernel_rfl) (by kernel_rfl) (by kernel_rfl)) ?_
  intro W base args ds gs before hval0 hW hcnd _
  have hval : ∀ (j : Nat) t v, Try.f4.params[j]? = some t → args[j]? = some v → Value.okWide Try.prog W .any base t v := hval0
  have hW' := hW
  obtain ⟨p, q, hA0, hV, rfl, hfz, hnd⟩ := hW
  have hA : DataW.TrodAll enc Try.prog W 0 (fun _ => true) true Try.f4.params.toList args.toList ds p := hA0
  rw [Try.params4] at hA hval
  obtain ⟨v0, vs0, d0, ds0, p0, q0, hargs, rfl, rfl, h0, r0⟩ := trodAll_cons hA
  obtain ⟨rfl, rfl, rfl⟩ := trodAll_nil r0
  obtain rfl : args = #[v0] := by cases args; simp_all
  obtain ⟨rfl, rfl⟩ := trodVars_none hV
  obtain ⟨a0, len0, cap0, rfl⟩ := okWide_slice Try.underlying33 (hval 0 33 v0 rfl rfl)
  have k0 := h0
  have lt0 : ∀ x ∈ p0, x.block < W.heap.size := by obtain ⟨m, hm⟩ := k0; exact DataW.trod_lt m _ _ _ hm
  obtain ⟨hlen, A, C, X, w0⟩ : len0 ≤ 9223372036854775807 ∧ ∃ A C X, Chunks W a0 len0 A C X := by
    obtain ⟨fuel, hf⟩ := h0
    exact chunks_of (by simpa [Value.cells] using hf)
  clear hA0 hval0
  refine (script_any a0 len0 cap0 A C X W w0 hlen).mono fun e W' ⟨he, bel⟩ => ?_
  subst he
  exact ⟨_, rfl, _, _, _, [], _, [], hW', trodAll_mk1 (shut_bool Try.underlying4 _), (trodAll_cons_mk (Below.trod laidOut (by kernel_rfl) (of_decide_eq_true (by kernel_rfl)) k0 bel lt0) trodAll_mk0), rfl, bel.frame _, fun h => by cases h⟩

theorem over : Rows.fnTailScriptKeepsLastBytesRow.holds Try.pinned (OpenSpec.ofChange Rows.fnTailScriptKeepsLastBytesSpec) :=
  OpenClaim.holds_of_wide 4 Try.f4 rfl rfl rfl rfl rfl rfl rfl ⟨rfl, rfl, rfl, rfl, rfl⟩ rfl rfl rfl rfl rfl (by kernel_rfl) Try.func4 (by kernel_rfl)
    (of_decide_eq_true (by kernel_rfl)) (by unfold Func.isWrapper; first | (rw [if_pos (by decide +kernel)]; kernel_rfl) | (rw [if_neg (by decide +kernel)]; exact ⟨rfl, rfl⟩))
    (fun os started H enc _ => lifted os started H enc)

/-- ████ THE STATEMENT ████ -/
theorem proved : Rows.FnTailScriptKeepsLastBytesSaid := over
#print axioms proved
end Go.Proofs.Qxb6628159a.fnTailScriptKeepsLastBytes
