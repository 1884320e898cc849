/-
  THE CALLEE OF BOTH LAWS: 'localBytes' by a contract, and the plain laws on what it gives. By an AI agent.
-/
import Derived.Test.Qxb6626074aRows
import Derived.WalkKit
import Derived.ProofKit
import Derived.Below
namespace Go.Proofs.Qxb6626074a.Local
open Go.RowKit

/-- What 'localBytes' gives. -/
def lb (n p : Int) : Int := if p - 68 < 8 + n % (p - 64) then 0 else n % (p - 64)

theorem lb_big {n p : Int} (h : p - 68 < 8 + n % (p - 64)) : lb n p = 0 := by unfold lb; rw [if_pos h]
theorem lb_small {n p : Int} (h : 8 + n % (p - 64) ≤ p - 68) : lb n p = n % (p - 64) := by unfold lb; rw [if_neg (by omega)]
theorem mod_bd {n p : Int} (hp : 64 < p) : 0 ≤ n % (p - 64) ∧ n % (p - 64) < p - 64 :=
  ⟨Int.emod_nonneg _ (by omega), Int.emod_lt_of_pos _ (by omega)⟩
theorem mod_le {n p : Int} (hn : 0 ≤ n) (hp : 64 < p) : n % (p - 64) ≤ n := by
  have h := Int.mul_ediv_add_emod n (p - 64)
  have h2 : 0 ≤ (p - 64) * (n / (p - 64)) := Int.mul_nonneg (by omega) (Int.ediv_nonneg hn (by omega))
  omega
theorem lb_bd {n p : Int} (hn : 0 ≤ n) (hp : 64 < p) : 0 ≤ lb n p ∧ lb n p ≤ n ∧ (lb n p = 0 ∨ lb n p + 12 ≤ p - 64) := by
  have h := mod_bd (n := n) hp
  have h2 := mod_le hn hp
  unfold lb
  split <;> omega
theorem lb_again {n p : Int} (hn : 0 ≤ n) (hp : 64 < p) : lb (lb n p) p = lb n p := by
  have h := lb_bd hn hp
  rcases h.2.2 with e | e
  · rw [e]; unfold lb; simp
  · have em : lb n p % (p - 64) = lb n p := Int.emod_eq_of_lt h.1 (by omega)
    rw [lb_small (n := lb n p) (by omega), em]
theorem lb_rest {n p : Int} : lb (n - lb n p) p = 0 := by
  by_cases h : p - 68 < 8 + n % (p - 64)
  · rw [lb_big h, Int.sub_zero, lb_big h]
  · rw [lb_small (n := n) (by omega)]
    have em : (n - n % (p - 64)) % (p - 64) = 0 := by
      have h := Int.mul_ediv_add_emod n (p - 64)
      have e : n - n % (p - 64) = (p - 64) * (n / (p - 64)) := by omega
      rw [e, Int.mul_emod_right]
    unfold lb; rw [em]; split <;> rfl
theorem lb_zero {n p : Int} (h : lb n p = 0) : n % (p - 64) = 0 ∨ (p - 64) - n % (p - 64) < 12 := by
  unfold lb at h; split at h <;> omega
theorem lb_more (n p k : Int) : lb (n + k * (p - 64)) p = lb n p := by
  unfold lb; rw [Int.add_mul_emod_self_right]
theorem lb_whole {n p : Int} (h : lb n p ≠ 0) : (n - lb n p) % (p - 64) = 0 := by
  have e : lb n p = n % (p - 64) := by
    unfold lb at h ⊢; split
    · rename_i a; rw [if_pos a] at h; exact absurd rfl h
    · rfl
  rw [e]
  have h := Int.mul_ediv_add_emod n (p - 64)
  have e : n - n % (p - 64) = (p - 64) * (n / (p - 64)) := by omega
  rw [e, Int.mul_emod_right]

theorem ret_int {k : IntKind} {a b : Int} (h : a = b) : Ending.returned (.int k a) = .returned (.int k b) := by rw [h]

theorem ret_bool {a b : Bool} (h : a = b) : Ending.returned (.bool a) = .returned (.bool b) := by rw [h]
theorem lb_nought (p : Int) : lb 0 p = 0 := by unfold lb; simp

/-- THE CONTRACT of 'ZZlocalBytes' (with 'localBytes', 'overflowRoom', 'maxEntry' beneath it). -/
theorem local_any (n p : Int) (w : World) (h0 : 0 ≤ n) (h1 : n ≤ 9223372036854775807) (h2 : 64 < p) (h3 : p ≤ 9223372036854775807) :
    Calls Try.prog 5 #[.int .i64 n, .int .i64 p] w fun e w' => e = .returned (.int .i64 (lb n p)) ∧ w' = w := by
  obtain ⟨m1, m2⟩ := mod_bd (n := n) h2
  by_cases h : p - 68 < 8 + n % (p - 64)
  · have H : Hid (lb n p = 0) := lb_big h
    go_enter Try.func5, Try.ntmps5
    go_wp2
    go_ret
    exact ⟨ret_int H.out.symm, rfl⟩
  · have H : Hid (lb n p = n % (p - 64)) := lb_small (by omega)
    go_enter Try.func5, Try.ntmps5
    go_wp2
    go_ret
    exact ⟨ret_int H.out.symm, rfl⟩
end Go.Proofs.Qxb6626074a.Local
