/-
  THE PROOF OF 'Rows.FnLocalBytesWholePagesAddedSaid': the frame by the guide's proof-skeleton tool, the walk filled by an AI agent.
-/
import Derived.Test.Qxb6626074aRows
import Derived.Test.Qxb6626074aLocal
import Derived.WalkKit
import Derived.ProofKit
import Derived.OpenShut
import Derived.ShutString
namespace Go.Proofs.Qxb6626074a.fnLocalBytesWholePagesAdded
open Go.ChangeShapes Go.WideShapes Go.ChangeAt Go.RowKit
open Go.ChangeMaps (open_string shut_string)
open Go.Proofs.Qxb6626074a.Local
set_option linter.unusedVariables false      -- a walk need not use every 'w<i>' (that an integer argument fits its kind)

theorem own : ownKnob Try.prog.godebug = none := by kernel_rfl

/-! ### STEP 1: THE WALK: the Go text returns true. 'Grown w w'': the world has at most new blocks (Derived/RowKit3.lean). Part the cases AHEAD of 'go_enter' where a test parts the walk; take each callee by a contract of your own. -/
theorem fits_zero (n room : Int) (w : World) (h0 : 0 ≤ n) (h1 : n ≤ 536870912) (h2 : 0 < room) (h3 : room ≤ 1048576) (hz : n % room = 0 ∨ room - n % room < 12) :
    Calls Try.prog 6 #[.int .i64 n, .int .i64 room, .int .i64 0] w fun e w' => e = .returned (.bool true) ∧ w' = w := by
  have m1 : 0 ≤ n % room := Int.emod_nonneg _ (by omega)
  have m2 : n % room < room := Int.emod_lt_of_pos _ (by omega)
  by_cases c3 : n % room = 0
  all_goals
    go_enter Try.func6, Try.ntmps6
    go_wp2
    go_ret
    exact ⟨ret_bool (by simp; try omega), rfl⟩
theorem fits_part (n room r : Int) (w : World) (h0 : 0 ≤ n) (h1 : n ≤ 536870912) (h2 : 0 < room) (h3 : room ≤ 1048576) (hr : 0 < r) (hn : r ≤ n) (hf : r + 12 ≤ room) (hz : (n - r) % room = 0) :
    Calls Try.prog 6 #[.int .i64 n, .int .i64 room, .int .i64 r] w fun e w' => e = .returned (.bool true) ∧ w' = w := by
  go_enter Try.func6, Try.ntmps6
  go_wp2
  go_ret
  exact ⟨rfl, rfl⟩
theorem mul_bd {k r : Int} (k0 : 0 ≤ k) (k1 : k ≤ 256) (r0 : 0 ≤ r) (r1 : r ≤ 1048576) : 0 ≤ k * r ∧ k * r ≤ 268435456 := by
  refine ⟨Int.mul_nonneg k0 r0, ?_⟩
  have h1 : k * r ≤ 256 * r := Int.mul_le_mul_of_nonneg_right k1 r0
  omega

theorem walk (a0 : Int) (a1 : Int) (a2 : Int) (w0 : (Lit.int .i64 a0).wf = true) (w1 : (Lit.int .i64 a1).wf = true) (w2 : (Lit.int .i64 a2).wf = true) (w : World) :
    Calls Try.prog 3 #[.int .i64 a0, .int .i64 a1, .int .i64 a2] w fun e w' => e = .returned (.bool true) ∧ Grown w w' := by
  have b0 := bounds_i64 w0
  have b1 := bounds_i64 w1
  have b2 := bounds_i64 w2
  clear w0 w1 w2
  by_cases c0 : a0 < 0
  · go_enter Try.func3, Try.ntmps3
    go_wp2
    go_ret
    exact ⟨rfl, Grown.refl _⟩
  by_cases c1 : 536870912 < a0
  · go_enter Try.func3, Try.ntmps3
    go_wp2
    go_ret
    exact ⟨rfl, Grown.refl _⟩
  by_cases c2 : a1 ≤ 64
  · go_enter Try.func3, Try.ntmps3
    go_wp2
    go_ret
    exact ⟨rfl, Grown.refl _⟩
  by_cases c3 : 1048576 < a1
  · go_enter Try.func3, Try.ntmps3
    go_wp2
    go_ret
    exact ⟨rfl, Grown.refl _⟩
  by_cases c4 : a2 < 0
  · go_enter Try.func3, Try.ntmps3
    go_wp2
    go_ret
    exact ⟨rfl, Grown.refl _⟩
  by_cases c5 : 256 < a2
  · go_enter Try.func3, Try.ntmps3
    go_wp2
    go_ret
    exact ⟨rfl, Grown.refl _⟩
  obtain ⟨k1, k2⟩ := mul_bd (k := a2) (r := a1 - 64) (by omega) (by omega) (by omega) (by omega)
  obtain ⟨l1, l2, l3⟩ := lb_bd (n := a0) (p := a1) (by omega) (by omega)
  have R1 : Hid (lb (a0 + a2 * (a1 - 64)) a1 = lb a0 a1) := lb_more _ _ _
  have fin : ∀ wx : World, Calls Try.prog 6 #[.int .i64 a0, .int .i64 (a1 - 64), .int .i64 (lb a0 a1)] wx fun e w' => e = .returned (.bool true) ∧ w' = wx := by
    intro wx
    by_cases e : lb a0 a1 = 0
    · rw [e]; exact fits_zero a0 (a1 - 64) wx (by omega) (by omega) (by omega) (by omega) (lb_zero e)
    · exact fits_part a0 (a1 - 64) (lb a0 a1) wx (by omega) (by omega) (by omega) (by omega) (by omega) (by omega) (by omega) (lb_whole e)
  have FIN : Hid _ := fin
  clear fin l3
  go_enter Try.func3, Try.ntmps3
  go_wp2_with fail
  refine (local_any _ _ _ (by omega) (by omega) (by omega) (by omega)).mono ?_
  rintro e w' ⟨rfl, rfl⟩
  go_wp2_with fail
  refine (local_any _ _ _ (by omega) (by omega) (by omega) (by omega)).mono ?_
  rintro e w' ⟨rfl, rfl⟩
  rw [R1.out]
  go_wp2_with fail
  refine (FIN.out _).mono ?_
  rintro e w' ⟨rfl, rfl⟩
  go_wp2_with fail
  go_ret
  exact ⟨rfl, Grown.refl _⟩

/-! ### THE ROW's STEP: WRITTEN OUT: LEAVE IT -/
set_option maxRecDepth 100000 in
theorem lifted (os : Os) (started : os.Started) (H : Type) (enc : TypeId × Value → H) :
    ReturnsInHanded {} Try.checked os 3 .any (Rows.fnLocalBytesWholePagesAddedSpec.pre6 enc Try.prog Try.f3 Rows.fnLocalBytesWholePagesAddedRow.domain false) (Rows.fnLocalBytesWholePagesAddedSpec.post enc Try.prog Try.f3 false true false false) := by
  refine returnsInHanded_of_change (C := Try.checked) own started (by kernel_rfl) Try.func3
    (ChangeSpec.witness6 (enc := enc) (C := Try.checked) false ⟨#[], #[.int .i64 0, .int .i64 0, .int .i64 0], []⟩ 8 (by kernel_rfl) (by kernel_rfl) (by kernel_rfl) (by kernel_rfl)) ?_
  intro W base args ds gs before hval0 hW hcnd _
  have hval : ∀ (j : Nat) t v, Try.f3.params[j]? = some t → args[j]? = some v → Value.okWide Try.prog W .any base t v := hval0
  have hW' := hW
  obtain ⟨p, q, hA0, hV, rfl, hfz, hnd⟩ := hW
  have hA : DataW.TrodAll enc Try.prog W 0 (fun _ => true) true Try.f3.params.toList args.toList ds p := hA0
  rw [Try.params3] at hA hval
  obtain ⟨v0, vs0, d0, ds0, p0, q0, hargs, rfl, rfl, h0, r0⟩ := trodAll_cons hA
  obtain ⟨v1, vs1, d1, ds1, p1, q1, rfl, rfl, rfl, h1, r1⟩ := trodAll_cons r0
  obtain ⟨v2, vs2, d2, ds2, p2, q2, rfl, rfl, rfl, h2, r2⟩ := trodAll_cons r1
  obtain ⟨rfl, rfl, rfl⟩ := trodAll_nil r2
  obtain rfl : args = #[v0, v1, v2] := by cases args; simp_all
  obtain ⟨rfl, rfl⟩ := trodVars_none hV
  obtain ⟨a0, rfl, rfl, rfl, w0⟩ := open_int Try.underlying3 (hval 0 3 v0 rfl rfl) h0
  obtain ⟨a1, rfl, rfl, rfl, w1⟩ := open_int Try.underlying3 (hval 1 3 v1 rfl rfl) h1
  obtain ⟨a2, rfl, rfl, rfl, w2⟩ := open_int Try.underlying3 (hval 2 3 v2 rfl rfl) h2
  clear hA0 hval0
  simp only [List.append_nil] at hW'
  refine (walk a0 a1 a2 w0 w1 w2 W).mono fun e W' ⟨he, hg⟩ => ?_
  subst he
  exact ⟨_, rfl, post_of_same (pa := []) (pv := []) hW' (fun _ _ _ => (trodAll_cons_mk (shut_bool Try.underlying4 _) trodAll_mk0)) (fun sp _ => (trodAll_cons_mk (shut_int Try.underlying3 w0) (trodAll_cons_mk (shut_int Try.underlying3 w1) (trodAll_cons_mk (shut_int Try.underlying3 w2) trodAll_mk0)))) (fun _ _ => rfl) rfl
    (hg.frame _) hg.2.1 (ok_one (by kernel_rfl) rfl (okWide_bool_mk Try.underlying4 _))⟩

theorem over : Rows.fnLocalBytesWholePagesAddedRow.holds Try.pinned (OpenSpec.ofChange Rows.fnLocalBytesWholePagesAddedSpec) :=
  OpenClaim.holds_of_wide 3 Try.f3 rfl rfl rfl rfl rfl rfl rfl ⟨rfl, rfl, rfl, rfl, rfl⟩ rfl rfl rfl rfl rfl (by kernel_rfl) Try.func3 (by kernel_rfl)
    (of_decide_eq_true (by kernel_rfl)) (by unfold Func.isWrapper; first | (rw [if_pos (by decide +kernel)]; kernel_rfl) | (rw [if_neg (by decide +kernel)]; exact ⟨rfl, rfl⟩))
    (fun os started H enc _ => lifted os started H enc)

/-- ████ THE STATEMENT ████ -/
theorem proved : Rows.FnLocalBytesWholePagesAddedSaid :=
  over
#print axioms proved
end Go.Proofs.Qxb6626074a.fnLocalBytesWholePagesAdded
