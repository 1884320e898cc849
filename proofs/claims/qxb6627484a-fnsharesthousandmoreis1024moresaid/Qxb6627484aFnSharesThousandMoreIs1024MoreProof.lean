/-
  THE PROOF OF 'Rows.FnSharesThousandMoreIs1024MoreSaid': the frame by the guide's proof-skeleton tool, the walk filled by an AI agent.
-/
import Derived.Test.Qxb6627484aRows
import Derived.Test.Qxb6627484aShares
import Derived.WalkKit
import Derived.ProofKit
import Derived.OpenShut
import Derived.ShutString
namespace Go.Proofs.Qxb6627484a.fnSharesThousandMoreIs1024More
open Go.ChangeShapes Go.WideShapes Go.ChangeAt Go.RowKit
open Go.ChangeMaps (open_string shut_string)
open Go.Proofs.Qxb6627484a.Shares
set_option linter.unusedVariables false      -- a walk need not use every 'w<i>' (that an integer argument fits its kind)

theorem own : ownKnob Try.prog.godebug = none := by kernel_rfl

/-! ### STEP 1: THE WALK: the Go text returns true. 'Grown w w'': the world has at most new blocks (Derived/RowKit3.lean). Part the cases AHEAD of 'go_enter' where a test parts the walk; take each callee by a contract of your own. -/
theorem walk (a0 : Int) (w0 : (Lit.int .i64 a0).wf = true) (w : World) :
    Calls Try.prog 3 #[.int .i64 a0] w fun e w' => e = .returned (.bool true) ∧ Grown w w' := by
  have b0 := bounds_i64 w0
  clear w0
  by_cases c0 : a0 < 2
  · go_enter Try.func3, Try.ntmps3
    go_wp2
    go_ret
    exact ⟨rfl, Grown.refl _⟩
  by_cases c1 : 9223372036854774807 < a0
  · go_enter Try.func3, Try.ntmps3
    go_wp2
    go_ret
    exact ⟨rfl, Grown.refl _⟩
  have i1 : Hid _ := sh_is (m := a0) (by omega)
  have i2 : Hid _ := sh_is (m := a0 + 1000) (by omega)
  have R : Hid _ := sh_more (m := a0) (by omega)
  obtain ⟨s, hs⟩ : ∃ s, sh a0 = s := ⟨_, rfl⟩
  obtain ⟨t, ht⟩ : ∃ t, sh (a0 + 1000) = t := ⟨_, rfl⟩
  have HS : Hid (sh a0 = s) := hs
  have HT : Hid (sh (a0 + 1000) = t) := ht
  have l1 : 2 ≤ s ∧ s ≤ 262144 := by have := i1.out; rw [hs] at this; exact ⟨this.1, this.2.1⟩
  have E : Hid (t = if 262144 < s + 1024 then 262144 else s + 1024) := by have := R.out; rw [hs, ht] at this; exact this
  have j1 : Hid (Is a0 s) := by have := i1.out; rw [hs] at this; exact this
  have j2 : Hid (Is (a0 + 1000) t) := by have := i2.out; rw [ht] at this; exact this
  clear i1 i2 R hs ht
  by_cases c2 : 262144 < s + 1024
  · have et : t = 262144 := by have := E.out; rw [if_pos c2] at this; exact this
    have ET : Hid (t = 262144) := et
    clear et
    go_enter Try.func3, Try.ntmps3
    go_wp2_with fail
    refine (shares_any _ _ (by omega) (by omega)).mono ?_
    rintro e w' ⟨rfl, rfl⟩
    rw [HS.out]
    go_wp2_with fail
    refine (shares_any _ _ (by omega) (by omega)).mono ?_
    rintro e w' ⟨rfl, rfl⟩
    rw [HT.out]
    go_wp2_with fail
    refine (is_any _ _ _ (by omega) (by omega) j1.out).mono ?_
    rintro e w' ⟨rfl, rfl⟩
    go_wp2_with fail
    refine (is_any _ _ _ (by omega) (by omega) j2.out).mono ?_
    rintro e w' ⟨rfl, rfl⟩
    go_wp2_with fail
    go_ret
    exact ⟨ret_bool (by rw [ET.out]; rfl), Grown.refl _⟩
  · have et : t = s + 1024 := by have := E.out; rw [if_neg c2] at this; exact this
    have ET : Hid (t = s + 1024) := et
    clear et
    go_enter Try.func3, Try.ntmps3
    go_wp2_with fail
    refine (shares_any _ _ (by omega) (by omega)).mono ?_
    rintro e w' ⟨rfl, rfl⟩
    rw [HS.out]
    go_wp2_with fail
    refine (shares_any _ _ (by omega) (by omega)).mono ?_
    rintro e w' ⟨rfl, rfl⟩
    rw [HT.out]
    go_wp2_with fail
    refine (is_any _ _ _ (by omega) (by omega) j1.out).mono ?_
    rintro e w' ⟨rfl, rfl⟩
    go_wp2_with fail
    refine (is_any _ _ _ (by omega) (by omega) j2.out).mono ?_
    rintro e w' ⟨rfl, rfl⟩
    go_wp2_with fail
    go_ret
    exact ⟨ret_bool (by rw [ET.out]; simp), Grown.refl _⟩

/-! ### THE ROW's STEP: WRITTEN OUT: LEAVE IT -/
set_option maxRecDepth 100000 in
theorem lifted (os : Os) (started : os.Started) (H : Type) (enc : TypeId × Value → H) :
    ReturnsInHanded {} Try.checked os 3 .any (Rows.fnSharesThousandMoreIs1024MoreSpec.pre6 enc Try.prog Try.f3 Rows.fnSharesThousandMoreIs1024MoreRow.domain false) (Rows.fnSharesThousandMoreIs1024MoreSpec.post enc Try.prog Try.f3 false true false false) := by
  refine returnsInHanded_of_change (C := Try.checked) own started (by kernel_rfl) Try.func3
    (ChangeSpec.witness6 (enc := enc) (C := Try.checked) false ⟨#[], #[.int .i64 0], []⟩ 8 (by kernel_rfl) (by kernel_rfl) (by kernel_rfl) (by kernel_rfl)) ?_
  intro W base args ds gs before hval0 hW hcnd _
  have hval : ∀ (j : Nat) t v, Try.f3.params[j]? = some t → args[j]? = some v → Value.okWide Try.prog W .any base t v := hval0
  have hW' := hW
  obtain ⟨p, q, hA0, hV, rfl, hfz, hnd⟩ := hW
  have hA : DataW.TrodAll enc Try.prog W 0 (fun _ => true) true Try.f3.params.toList args.toList ds p := hA0
  rw [Try.params3] at hA hval
  obtain ⟨v0, vs0, d0, ds0, p0, q0, hargs, rfl, rfl, h0, r0⟩ := trodAll_cons hA
  obtain ⟨rfl, rfl, rfl⟩ := trodAll_nil r0
  obtain rfl : args = #[v0] := by cases args; simp_all
  obtain ⟨rfl, rfl⟩ := trodVars_none hV
  obtain ⟨a0, rfl, rfl, rfl, w0⟩ := open_int Try.underlying2 (hval 0 2 v0 rfl rfl) h0
  clear hA0 hval0
  simp only [List.append_nil] at hW'
  refine (walk a0 w0 W).mono fun e W' ⟨he, hg⟩ => ?_
  subst he
  exact ⟨_, rfl, post_of_same (pa := []) (pv := []) hW' (fun _ _ _ => (trodAll_cons_mk (shut_bool Try.underlying4 _) trodAll_mk0)) (fun sp _ => (trodAll_cons_mk (shut_int Try.underlying2 w0) trodAll_mk0)) (fun _ _ => rfl) rfl
    (hg.frame _) hg.2.1 (ok_one (by kernel_rfl) rfl (okWide_bool_mk Try.underlying4 _))⟩

theorem over : Rows.fnSharesThousandMoreIs1024MoreRow.holds Try.pinned (OpenSpec.ofChange Rows.fnSharesThousandMoreIs1024MoreSpec) :=
  OpenClaim.holds_of_wide 3 Try.f3 rfl rfl rfl rfl rfl rfl rfl ⟨rfl, rfl, rfl, rfl, rfl⟩ rfl rfl rfl rfl rfl (by kernel_rfl) Try.func3 (by kernel_rfl)
    (of_decide_eq_true (by kernel_rfl)) (by unfold Func.isWrapper; first | (rw [if_pos (by decide +kernel)]; kernel_rfl) | (rw [if_neg (by decide +kernel)]; exact ⟨rfl, rfl⟩))
    (fun os started H enc _ => lifted os started H enc)

/-- ████ THE STATEMENT ████ -/
theorem proved : Rows.FnSharesThousandMoreIs1024MoreSaid :=
  over
#print axioms proved
end Go.Proofs.Qxb6627484a.fnSharesThousandMoreIs1024More
