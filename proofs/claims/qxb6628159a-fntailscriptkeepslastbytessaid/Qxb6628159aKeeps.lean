/-
  THE TAIL SEAT: 'zzKeepsLastB1' walked. By an AI agent.
-/
import Derived.Test.Qxb6628159aWrite
namespace Go.Proofs.Qxb6628159a
open Go.RowKit
set_option linter.unusedVariables false
set_option linter.unusedSimpArgs false

theorem app_left {xs ys : List Int} {i : Nat} (h : i < xs.length) : (xs ++ ys).getD i 0 = xs.getD i 0 := by simp [List.getD, List.getElem?_append_left h]
theorem app_right {xs ys : List Int} {i : Nat} (h : ¬ i < xs.length) : (xs ++ ys).getD i 0 = ys.getD (i - xs.length) 0 := by simp [List.getD, List.getElem?_append_right (Nat.le_of_not_lt h)]

/-- No more than 4096 bytes: all are kept. -/
theorem keeps_short (ag aa ab : Option Addr) (cg ca cb : Nat) (xs ys : List Int) (w : World) (hg : Cells w ag (xs ++ ys)) (hx : Cells w aa xs) (hy : Cells w ab ys) (hl : xs.length + ys.length ≤ 4096) :
    Calls Try.prog 9 #[.slice ag (xs ++ ys).length cg, .slice aa xs.length ca, .slice ab ys.length cb] w fun e w' => e = .returned (.bool true) ∧ w = w' := by
  rw [List.length_append]
  go_enter Try.func9, Try.ntmps9
  go_wp2
  go_loopg [10] (xs.length + ys.length) (fun g j wr => ∃ k : Nat, g = xs.length + ys.length - k ∧ k ≤ xs.length + ys.length ∧ j = .int .i64 k ∧ wr = w)
  case atStart => exact ⟨0, by simp, Nat.zero_le _, rfl, rfl⟩
  case round =>
    obtain ⟨k, hgk, hk, rfl, rfl⟩ := hrel
    have HG : Hid (gk = xs.length + ys.length - k) := hgk
    clear hgk
    by_cases hlt : k < xs.length + ys.length
    · obtain ⟨b, off, rfl, hc⟩ := hg (by intro e; have h := congrArg List.length e; rw [List.length_append, List.length_nil] at h; omega)
      have c0 := hc k (by rw [List.length_append]; exact hlt)
      by_cases hlx : k < xs.length
      · obtain ⟨b2, off2, rfl, hc2⟩ := hx (by intro e; subst e; simp at hlx)
        have c1 := hc2 k hlx
        rw [app_left hlx] at c0
        obtain ⟨v, hv⟩ : ∃ v, xs.getD k 0 = v := ⟨_, rfl⟩
        rw [hv] at c0 c1
        clear hc hc2 hv
        go_wp2
        go_roundg (xs.length + ys.length - (k + 1))
        case measure => rw [HG.out]; omega
        case rel => exact ⟨k + 1, rfl, by omega, by go_num, rfl⟩
      · obtain ⟨b2, off2, rfl, hc2⟩ := hy (by intro e; subst e; simp at hlt; omega)
        obtain ⟨q, rfl⟩ : ∃ q, k = xs.length + q := ⟨k - xs.length, by omega⟩
        have c1 := hc2 q (by omega)
        rw [app_right hlx, Nat.add_sub_cancel_left] at c0
        obtain ⟨v, hv⟩ : ∃ v, ys.getD q 0 = v := ⟨_, rfl⟩
        rw [hv] at c0 c1
        clear hc hc2 hv
        go_wp2
        go_roundg (xs.length + ys.length - (xs.length + q + 1))
        case measure => rw [HG.out]; omega
        case rel => exact ⟨xs.length + q + 1, rfl, by omega, by go_num, rfl⟩
    · go_wp2
      go_ret
      exact ⟨rfl, rfl⟩

theorem last_at {zs : List Int} {d k : Nat} (hd : zs.length = d + 4096) : (last zs).getD k 0 = zs.getD (d + k) 0 := by
  have ed : zs.length - keep = d := by rw [keep_eq]; omega
  simp [last, ed, List.getD]

set_option maxRecDepth 100000 in
/-- More than 4096 bytes: the last are kept. -/
theorem keeps_long (ag aa ab : Option Addr) (cg ca cb d : Nat) (xs ys : List Int) (w : World) (hg : Cells w ag (last (xs ++ ys))) (hx : Cells w aa xs) (hy : Cells w ab ys) (hd : xs.length + ys.length = d + 4096) (hl : xs.length + ys.length ≤ 4194304) (hd0 : 0 < d) :
    Calls Try.prog 9 #[.slice ag 4096 cg, .slice aa xs.length ca, .slice ab ys.length cb] w fun e w' => e = .returned (.bool true) ∧ w = w' := by
  have HD : Hid (xs.length + ys.length = d + 4096) := hd
  have i1 : (4096 : Int) < (xs.length : Int) + (ys.length : Int) := by omega
  have i2 : (xs.length : Int) + (ys.length : Int) ≤ 4194304 := by omega
  clear hd hl
  go_enter Try.func9, Try.ntmps9
  go_wp2
  rw [show ((xs.length : Int) + (ys.length : Int) - 4096) = (d : Int) by have := HD.out; omega]
  go_loopg [10] keep (fun g j wr => ∃ k : Nat, g = keep - k ∧ k ≤ keep ∧ j = .int .i64 k ∧ wr = w)
  case atStart => exact ⟨0, by simp, Nat.zero_le _, rfl, rfl⟩
  case round =>
    obtain ⟨k, hgk, hk, rfl, rfl⟩ := hrel
    have HG : Hid (gk = keep - k) := hgk
    have HK : Hid (k ≤ keep) := hk
    have ik : (k : Int) ≤ 4096 := by rw [keep_eq] at hk; omega
    clear hgk hk
    by_cases hlt : (k : Int) < 4096
    · obtain ⟨b, off, rfl, hc⟩ := hg (by
        intro e
        have h := congrArg List.length e
        rw [last_len, keep_eq, List.length_append, List.length_nil] at h
        have := HD.out
        omega)
      have c0 := hc k (by rw [last_len, keep_eq, List.length_append]; have := HD.out; omega)
      rw [last_at (d := d) (by rw [List.length_append]; exact HD.out)] at c0
      by_cases hlx : d + k < xs.length
      · obtain ⟨b2, off2, rfl, hc2⟩ := hx (by intro e; subst e; simp at hlx)
        have c1 := hc2 (d + k) hlx
        rw [app_left hlx] at c0
        obtain ⟨v, hv⟩ : ∃ v, xs.getD (d + k) 0 = v := ⟨_, rfl⟩
        rw [hv] at c0 c1
        clear hc hc2 hv
        go_wp2
        go_roundg (keep - (k + 1))
        case measure => rw [HG.out, keep_eq]; omega
        case rel => exact ⟨k + 1, rfl, by rw [keep_eq]; omega, by go_num, rfl⟩
      · obtain ⟨b2, off2, rfl, hc2⟩ := hy (by intro e; subst e; have := HD.out; simp at this; omega)
        obtain ⟨q, hq⟩ : ∃ q, d + k = xs.length + q := ⟨d + k - xs.length, by omega⟩
        have hqy : q < ys.length := by have := HD.out; omega
        have c1 := hc2 q hqy
        rw [app_right hlx, hq, Nat.add_sub_cancel_left] at c0
        obtain ⟨v, hv⟩ : ∃ v, ys.getD q 0 = v := ⟨_, rfl⟩
        rw [hv] at c0 c1
        have iq : (d : Int) + (k : Int) - (xs.length : Int) = (q : Int) := by omega
        have ig : (xs.length : Int) ≤ (d : Int) + (k : Int) := by omega
        clear hc hc2 hv hq hlx
        go_wp2
        go_roundg (keep - (k + 1))
        case measure => rw [HG.out, keep_eq]; omega
        case rel => exact ⟨k + 1, rfl, by rw [keep_eq]; omega, by go_num, rfl⟩
    · go_wp2
      go_ret
      exact ⟨rfl, rfl⟩

/-- 'zzKeepsLastB1' of the last 4096 bytes: true. -/
theorem keeps_any (ag aa ab : Option Addr) (cg ca cb : Nat) (xs ys : List Int) (w : World) (hg : Cells w ag (last (xs ++ ys))) (hx : Cells w aa xs) (hy : Cells w ab ys) (hl : (xs ++ ys).length ≤ 4194304) :
    Calls Try.prog 9 #[.slice ag (last (xs ++ ys)).length cg, .slice aa xs.length ca, .slice ab ys.length cb] w fun e w' => e = .returned (.bool true) ∧ w = w' := by
  by_cases h : (xs ++ ys).length ≤ keep
  · rw [last_short h] at hg ⊢
    rw [List.length_append, keep_eq] at h
    exact keeps_short ag aa ab cg ca cb xs ys w hg hx hy h
  · rw [last_long (by omega), keep_eq]
    rw [List.length_append] at h hl
    rw [keep_eq] at h
    exact keeps_long ag aa ab cg ca cb (xs.length + ys.length - 4096) xs ys w hg hx hy (by omega) hl (by omega)
end Go.Proofs.Qxb6628159a
