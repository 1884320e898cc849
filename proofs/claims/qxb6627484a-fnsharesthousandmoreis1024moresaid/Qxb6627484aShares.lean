/-
  THE SHARES SEAT: 'Shares' and 'sharesB1IsSharesOf' by contracts, and the plain laws on what 'Shares' gives. By an AI agent.
-/
import Derived.Test.Qxb6627484aRows
import Derived.WalkKit
import Derived.ProofKit
import Derived.Below
namespace Go.Proofs.Qxb6627484a.Shares
open Go.RowKit
set_option linter.unusedVariables false

/-- What 'Shares' gives of a request of at least 2 millicores. -/
def sh (m : Int) : Int := if 256000 ≤ m then 262144 else m * 1024 / 1000
theorem sh_big {m : Int} (h : 256000 ≤ m) : sh m = 262144 := by unfold sh; rw [if_pos h]
theorem sh_small {m : Int} (h : m < 256000) : sh m = m * 1024 / 1000 := by unfold sh; rw [if_neg (by omega)]
/-- The characterisation that 'sharesB1IsSharesOf' tests. -/
def Is (m s : Int) : Prop := 2 ≤ s ∧ s ≤ 262144 ∧ (s = 2 ∨ (s * 1000 + 1023) / 1024 ≤ m) ∧ (s = 262144 ∨ m < ((s + 1) * 1000 + 1023) / 1024)
theorem sh_is {m : Int} (h : 2 ≤ m) : Is m (sh m) := by
  by_cases hb : 256000 ≤ m
  · rw [sh_big hb]; unfold Is; omega
  · rw [sh_small (by omega)]; unfold Is; omega
theorem sh_more {m : Int} (h : 2 ≤ m) : sh (m + 1000) = if 262144 < sh m + 1024 then 262144 else sh m + 1024 := by
  by_cases hb : 256000 ≤ m
  · rw [sh_big hb, sh_big (show 256000 ≤ m + 1000 by omega)]; rfl
  · by_cases hc : 256000 ≤ m + 1000
    · rw [sh_big hc, sh_small (by omega)]; split <;> omega
    · rw [sh_small (m := m) (by omega), sh_small (m := m + 1000) (by omega)]; split <;> omega
def carry (a b : Int) : Int := if 1000 ≤ (a % 1000 * 1024) % 1000 + (b % 1000 * 1024) % 1000 then 1 else 0
theorem drop_mod (a : Int) : (a % 1000 * 1024) % 1000 = (a * 1024) % 1000 := by omega
theorem sh_sum {a b : Int} (ha : 2 ≤ a) (hb : 2 ≤ b) : sh (a + b) = if 262144 < sh a + sh b + carry a b then 262144 else sh a + sh b + carry a b := by
  have hc : 0 ≤ carry a b ∧ carry a b ≤ 1 := by unfold carry; split <;> omega
  by_cases h1 : 256000 ≤ a
  · rw [sh_big h1, sh_big (show 256000 ≤ a + b by omega), if_pos]
    have := (sh_is hb).1; omega
  · by_cases h2 : 256000 ≤ b
    · rw [sh_big h2, sh_big (show 256000 ≤ a + b by omega), if_pos]
      have := (sh_is ha).1; omega
    · rw [sh_small (m := a) (by omega), sh_small (m := b) (by omega)]
      have key : (a + b) * 1024 / 1000 = a * 1024 / 1000 + b * 1024 / 1000 + carry a b := by
        have ra := drop_mod a
        have rb := drop_mod b
        unfold carry; rw [ra, rb]; split <;> omega
      by_cases h3 : 256000 ≤ a + b
      · rw [sh_big h3]; split <;> omega
      · rw [sh_small (m := a + b) (by omega)]; split <;> omega

theorem ret_int {k : IntKind} {a b : Int} (h : a = b) : Ending.returned (.int k a) = .returned (.int k b) := by rw [h]
theorem ret_bool {a b : Bool} (h : a = b) : Ending.returned (.bool a) = .returned (.bool b) := by rw [h]

theorem shares_any (m : Int) (w : World) (h0 : 2 ≤ m) (h1 : m ≤ 9223372036854775807) :
    Calls Try.prog 5 #[.int .i64 m] w fun e w' => e = .returned (.int .i64 (sh m)) ∧ w = w' := by
  by_cases hb : 256000 ≤ m
  · have H : Hid (sh m = 262144) := sh_big hb
    go_enter Try.func5, Try.ntmps5
    go_wp2
    go_ret
    exact ⟨ret_int H.out.symm, rfl⟩
  · have H : Hid (sh m = m * 1024 / 1000) := sh_small (by omega)
    go_enter Try.func5, Try.ntmps5
    go_wp2
    go_ret
    exact ⟨ret_int H.out.symm, rfl⟩

theorem is_any (m s : Int) (w : World) (h0 : 2 ≤ m) (h1 : m ≤ 9223372036854775807) (h : Is m s) :
    Calls Try.prog 6 #[.int .i64 m, .int .i64 s] w fun e w' => e = .returned (.bool true) ∧ w = w' := by
  obtain ⟨a, b, c, d⟩ := h
  by_cases e1 : s = 2
  · subst e1
    go_enter Try.func6, Try.ntmps6
    go_wp2
    go_ret
    exact ⟨rfl, rfl⟩
  · by_cases e2 : s = 262144
    · subst e2
      go_enter Try.func6, Try.ntmps6
      go_wp2
      go_ret
      exact ⟨rfl, rfl⟩
    · have c' : (s * 1000 + 1023) / 1024 ≤ m := by omega
      have d' : m < ((s + 1) * 1000 + 1023) / 1024 := by omega
      clear c d
      go_enter Try.func6, Try.ntmps6
      go_wp2
      go_ret
      exact ⟨rfl, rfl⟩
end Go.Proofs.Qxb6627484a.Shares
