/-
  THE PROOF OF 'Rows.FnSharesSplitAddsWithCarrySaid': the frame by the guide's proof-skeleton tool, the walk filled by an AI agent.
-/
import Derived.Test.Qxb6627484aRows
import Derived.Test.Qxb6627484aShares
import Derived.WalkKit
import Derived.ProofKit
import Derived.OpenShut
import Derived.ShutString
namespace Go.Proofs.Qxb6627484a.fnSharesSplitAddsWithCarry
open Go.ChangeShapes Go.WideShapes Go.ChangeAt Go.RowKit
open Go.ChangeMaps (open_string shut_string)
open Go.Proofs.Qxb6627484a.Shares
set_option linter.unusedVariables false      -- a walk need not use every 'w<i>' (that an integer argument fits its kind)

theorem own : ownKnob Try.prog.godebug = none := by kernel_rfl

/-! ### STEP 1: THE WALK: the Go text returns true. 'Grown w w'': the world has at most new blocks (Derived/RowKit3.lean). Part the cases AHEAD of 'go_enter' where a test parts the walk; take each callee by a contract of your own. -/
theorem walk (a0 : Int) (a1 : Int) (w0 : (Lit.int .i64 a0).wf = true) (w1 : (Lit.int .i64 a1).wf = true) (w : World) :
    Calls Try.prog 4 #[.int .i64 a0, .int .i64 a1] w fun e w' => e = .returned (.bool true) ∧ Grown w w' := by
  have b0 := bounds_i64 w0
  have b1 := bounds_i64 w1
  clear w0 w1
  by_cases c0 : a0 < 2
  · go_enter Try.func4, Try.ntmps4
    go_wp2
    go_ret
    exact ⟨rfl, Grown.refl _⟩
  by_cases c1 : a1 < 2
  · go_enter Try.func4, Try.ntmps4
    go_wp2
    go_ret
    exact ⟨rfl, Grown.refl _⟩
  by_cases c2 : 9223372036854775807 - a1 < a0
  · go_enter Try.func4, Try.ntmps4
    go_wp2
    go_ret
    exact ⟨rfl, Grown.refl _⟩
  have i1 : Hid _ := sh_is (m := a0) (by omega)
  have i2 : Hid _ := sh_is (m := a1) (by omega)
  have i3 : Hid _ := sh_is (m := a0 + a1) (by omega)
  have R : Hid _ := sh_sum (a := a0) (b := a1) (by omega) (by omega)
  obtain ⟨s, hs⟩ : ∃ s, sh a0 = s := ⟨_, rfl⟩
  obtain ⟨t, ht⟩ : ∃ t, sh a1 = t := ⟨_, rfl⟩
  obtain ⟨u, hu⟩ : ∃ u, sh (a0 + a1) = u := ⟨_, rfl⟩
  have HS : Hid (sh a0 = s) := hs
  have HT : Hid (sh a1 = t) := ht
  have HU : Hid (sh (a0 + a1) = u) := hu
  have l1 : 2 ≤ s ∧ s ≤ 262144 := by have := i1.out; rw [hs] at this; exact ⟨this.1, this.2.1⟩
  have l2 : 2 ≤ t ∧ t ≤ 262144 := by have := i2.out; rw [ht] at this; exact ⟨this.1, this.2.1⟩
  have E : Hid (u = if 262144 < s + t + carry a0 a1 then 262144 else s + t + carry a0 a1) := by have := R.out; rw [hs, ht, hu] at this; exact this
  have j1 : Hid (Is (a0 + a1) u) := by have := i3.out; rw [hu] at this; exact this
  clear i1 i2 i3 R hs ht hu
  by_cases c3 : 1000 ≤ (a0 % 1000 * 1024) % 1000 + (a1 % 1000 * 1024) % 1000
  · have ec : carry a0 a1 = 1 := by unfold carry; rw [if_pos c3]
    by_cases c4 : 262144 < s + t + 1
    · have ET : Hid (u = 262144) := by have := E.out; rw [ec, if_pos c4] at this; exact this
      clear ec E
      go_enter Try.func4, Try.ntmps4
      go_wp2_with fail
      refine (shares_any _ _ (by omega) (by omega)).mono ?_
      rintro e w' ⟨rfl, rfl⟩
      rw [HS.out]
      go_wp2_with fail
      refine (shares_any _ _ (by omega) (by omega)).mono ?_
      rintro e w' ⟨rfl, rfl⟩
      rw [HT.out]
      go_wp2_with fail
      refine (shares_any _ _ (by omega) (by omega)).mono ?_
      rintro e w' ⟨rfl, rfl⟩
      rw [HU.out]
      go_wp2_with fail
      refine (is_any _ _ _ (by omega) (by omega) j1.out).mono ?_
      rintro e w' ⟨rfl, rfl⟩
      go_wp2_with fail
      go_ret
      exact ⟨ret_bool (by rw [ET.out]; simp), Grown.refl _⟩
    · have ET : Hid (u = s + t + 1) := by have := E.out; rw [ec, if_neg c4] at this; exact this
      clear ec E
      go_enter Try.func4, Try.ntmps4
      go_wp2_with fail
      refine (shares_any _ _ (by omega) (by omega)).mono ?_
      rintro e w' ⟨rfl, rfl⟩
      rw [HS.out]
      go_wp2_with fail
      refine (shares_any _ _ (by omega) (by omega)).mono ?_
      rintro e w' ⟨rfl, rfl⟩
      rw [HT.out]
      go_wp2_with fail
      refine (shares_any _ _ (by omega) (by omega)).mono ?_
      rintro e w' ⟨rfl, rfl⟩
      rw [HU.out]
      go_wp2_with fail
      refine (is_any _ _ _ (by omega) (by omega) j1.out).mono ?_
      rintro e w' ⟨rfl, rfl⟩
      go_wp2_with fail
      go_ret
      exact ⟨ret_bool (by rw [ET.out]; simp), Grown.refl _⟩
  · have ec : carry a0 a1 = 0 := by unfold carry; rw [if_neg c3]
    by_cases c4 : 262144 < s + t
    · have ET : Hid (u = 262144) := by have := E.out; rw [ec, if_pos (by omega)] at this; exact this
      clear ec E
      go_enter Try.func4, Try.ntmps4
      go_wp2_with fail
      refine (shares_any _ _ (by omega) (by omega)).mono ?_
      rintro e w' ⟨rfl, rfl⟩
      rw [HS.out]
      go_wp2_with fail
      refine (shares_any _ _ (by omega) (by omega)).mono ?_
      rintro e w' ⟨rfl, rfl⟩
      rw [HT.out]
      go_wp2_with fail
      refine (shares_any _ _ (by omega) (by omega)).mono ?_
      rintro e w' ⟨rfl, rfl⟩
      rw [HU.out]
      go_wp2_with fail
      refine (is_any _ _ _ (by omega) (by omega) j1.out).mono ?_
      rintro e w' ⟨rfl, rfl⟩
      go_wp2_with fail
      go_ret
      exact ⟨ret_bool (by rw [ET.out]; simp), Grown.refl _⟩
    · have ET : Hid (u = s + t) := by have := E.out; rw [ec, if_neg (by omega), Int.add_zero] at this; exact this
      clear ec E
      go_enter Try.func4, Try.ntmps4
      go_wp2_with fail
      refine (shares_any _ _ (by omega) (by omega)).mono ?_
      rintro e w' ⟨rfl, rfl⟩
      rw [HS.out]
      go_wp2_with fail
      refine (shares_any _ _ (by omega) (by omega)).mono ?_
      rintro e w' ⟨rfl, rfl⟩
      rw [HT.out]
      go_wp2_with fail
      refine (shares_any _ _ (by omega) (by omega)).mono ?_
      rintro e w' ⟨rfl, rfl⟩
      rw [HU.out]
      go_wp2_with fail
      refine (is_any _ _ _ (by omega) (by omega) j1.out).mono ?_
      rintro e w' ⟨rfl, rfl⟩
      go_wp2_with fail
      go_ret
      exact ⟨ret_bool (by rw [ET.out]; simp), Grown.refl _⟩

/-! ### THE ROW's STEP: WRITTEN OUT: LEAVE IT -/
set_option maxRecDepth 100000 in
theorem lifted (os : Os) (started : os.Started) (H : Type) (enc : TypeId × Value → H) :
    ReturnsInHanded {} Try.checked os 4 .any (Rows.fnSharesSplitAddsWithCarrySpec.pre6 enc Try.prog Try.f4 Rows.fnSharesSplitAddsWithCarryRow.domain false) (Rows.fnSharesSplitAddsWithCarrySpec.post enc Try.prog Try.f4 false true false false) := by
  refine returnsInHanded_of_change (C := Try.checked) own started (by kernel_rfl) Try.func4
    (ChangeSpec.witness6 (enc := enc) (C := Try.checked) false ⟨#[], #[.int .i64 0, .int .i64 0], []⟩ 8 (by kernel_rfl) (by kernel_rfl) (by kernel_rfl) (by kernel_rfl)) ?_
  intro W base args ds gs before hval0 hW hcnd _
  have hval : ∀ (j : Nat) t v, Try.f4.params[j]? = some t → args[j]? = some v → Value.okWide Try.prog W .any base t v := hval0
  have hW' := hW
  obtain ⟨p, q, hA0, hV, rfl, hfz, hnd⟩ := hW
  have hA : DataW.TrodAll enc Try.prog W 0 (fun _ => true) true Try.f4.params.toList args.toList ds p := hA0
  rw [Try.params4] at hA hval
  obtain ⟨v0, vs0, d0, ds0, p0, q0, hargs, rfl, rfl, h0, r0⟩ := trodAll_cons hA
  obtain ⟨v1, vs1, d1, ds1, p1, q1, rfl, rfl, rfl, h1, r1⟩ := trodAll_cons r0
  obtain ⟨rfl, rfl, rfl⟩ := trodAll_nil r1
  obtain rfl : args = #[v0, v1] := by cases args; simp_all
  obtain ⟨rfl, rfl⟩ := trodVars_none hV
  obtain ⟨a0, rfl, rfl, rfl, w0⟩ := open_int Try.underlying2 (hval 0 2 v0 rfl rfl) h0
  obtain ⟨a1, rfl, rfl, rfl, w1⟩ := open_int Try.underlying2 (hval 1 2 v1 rfl rfl) h1
  clear hA0 hval0
  simp only [List.append_nil] at hW'
  refine (walk a0 a1 w0 w1 W).mono fun e W' ⟨he, hg⟩ => ?_
  subst he
  exact ⟨_, rfl, post_of_same (pa := []) (pv := []) hW' (fun _ _ _ => (trodAll_cons_mk (shut_bool Try.underlying4 _) trodAll_mk0)) (fun sp _ => (trodAll_cons_mk (shut_int Try.underlying2 w0) (trodAll_cons_mk (shut_int Try.underlying2 w1) trodAll_mk0))) (fun _ _ => rfl) rfl
    (hg.frame _) hg.2.1 (ok_one (by kernel_rfl) rfl (okWide_bool_mk Try.underlying4 _))⟩

theorem over : Rows.fnSharesSplitAddsWithCarryRow.holds Try.pinned (OpenSpec.ofChange Rows.fnSharesSplitAddsWithCarrySpec) :=
  OpenClaim.holds_of_wide 4 Try.f4 rfl rfl rfl rfl rfl rfl rfl ⟨rfl, rfl, rfl, rfl, rfl⟩ rfl rfl rfl rfl rfl (by kernel_rfl) Try.func4 (by kernel_rfl)
    (of_decide_eq_true (by kernel_rfl)) (by unfold Func.isWrapper; first | (rw [if_pos (by decide +kernel)]; kernel_rfl) | (rw [if_neg (by decide +kernel)]; exact ⟨rfl, rfl⟩))
    (fun os started H enc _ => lifted os started H enc)

/-- ████ THE STATEMENT ████ -/
theorem proved : Rows.FnSharesSplitAddsWithCarrySaid :=
  over
#print axioms proved
end Go.Proofs.Qxb6627484a.fnSharesSplitAddsWithCarry
