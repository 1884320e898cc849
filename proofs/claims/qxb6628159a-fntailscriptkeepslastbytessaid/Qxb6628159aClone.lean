/-
  THE TAIL SEAT: 'zzCloneBytesB1', 'ZZnewTail', 'ZZtailBuf' walked. By an AI agent.
-/
import Derived.Test.Qxb6628159aParts
import Derived.Deep.LoopGhost
import Derived.Lib.SliceRun
namespace Go.Proofs.Qxb6628159a
open Go.RowKit
set_option linter.unusedVariables false
set_option linter.unusedSimpArgs false

/-- What the loop of the clone has so far. -/
def part (xs : List Int) (k : Nat) : Nat → Value := fun i => if i < k then .int .u8 (xs.getD i 0) else .int .u8 0
theorem part_step (xs : List Int) (k : Nat) (v : Value) (hv : v = .int .u8 (xs.getD k 0)) : ∀ i, i < xs.length → (fun j => if j = k then v else part xs k j) i = part xs (k + 1) i := by
  intro i hi
  simp only [part]
  by_cases e : i = k
  · subst e; simp [hv]
  · rw [if_neg e]
    by_cases h : i < k
    · rw [if_pos h, if_pos (by omega)]
    · rw [if_neg h, if_neg (by omega)]

theorem clone_nil (w : World) : Calls Try.prog 6 #[.slice none 0 0] w fun e w' => e = .returned (.slice none 0 0) ∧ w = w' := by
  have hn := fun w => Lib.run_eql_slice_nil (P := Try.prog) w 22 5 none 0 0 0 0 Try.underlying22
  go_enter Try.func6, Try.ntmps6
  go_wp2
  go_ret
  exact ⟨rfl, rfl⟩

set_option maxHeartbeats 1000000 in
theorem clone_some (ad : Addr) (c : Nat) (xs : List Int) (w : World) (hx : Cells w (some ad) xs) (hlen : xs.length ≤ 1048576) :
    Calls Try.prog 6 #[.slice (some ad) xs.length c] w fun e w' => e = .returned (.slice (some ⟨w.heap.size, 0, none⟩) xs.length xs.length) ∧ w'.rowIs w.heap.size 5 xs.length (part xs xs.length) ∧ Below w.heap.size w w' := by
  have hn := fun w => Lib.run_eql_slice_nil (P := Try.prog) w 22 5 (some ad) xs.length c 0 0 Try.underlying22
  have hmk := run_make_row' (P := Try.prog) 22 5 (.int .u8 0) 1 Try.underlying22 info5 rfl .i64 .i64 xs.length (by omega) (by omega)
  go_enter Try.func6, Try.ntmps6
  go_wp2
  go_loopg [4] xs.length (fun g i wr => ∃ k : Nat, g = xs.length - k ∧ k ≤ xs.length ∧ i = .int .i64 k ∧ wr.rowIs w.heap.size 5 xs.length (part xs k) ∧ Below w.heap.size w wr)
  case atStart =>
    refine ⟨0, by simp, Nat.zero_le _, rfl, ?_, (Below.refl _ _).alloc (Nat.le_refl _) _⟩
    exact (World.rowIs_made w (.int .u8 0) xs.length 5).congr (fun i hi => by simp [part])
  case round =>
    obtain ⟨k, hg, hk, rfl, R, hb⟩ := hrel
    have HG : Hid (gk = xs.length - k) := hg
    clear hg hn hmk
    by_cases hlt : k < xs.length
    · obtain ⟨b, off, e, hc⟩ := hx (by intro e; subst e; simp at hlt)
      injection e with e
      subst e
      have cb := World.block_lt_of_cell? w _ (hc k hlt)
      have c0 := (hb.cell (p := ⟨b, off + k, none⟩) (by simpa using cb)).trans (hc k hlt)
      have x0 := R.cell hlt
      have f0 := R.frozen k
      clear hc cb
      go_wp2
      go_roundg (xs.length - (k + 1))
      case measure => rw [HG.out]; omega
      case rel => exact ⟨k + 1, rfl, by omega, by go_num, (R.set k _).congr (part_step xs k _ (by simp [hlt])), hb.setCell (Nat.le_refl _) _⟩
    · have E : Hid (k = xs.length) := by
        show k = xs.length
        omega
      go_wp2
      go_ret
      refine ⟨rfl, ?_, hb⟩
      rw [E.out] at R; exact R

/-- 'zzCloneBytesB1': the bytes again, in memory of the call's own (nil: nil). -/
theorem clone_any (a : Option Addr) (c : Nat) (xs : List Int) (w : World) (hx : Cells w a xs) (hnil : a = none → xs = [] ∧ c = 0) (hlen : xs.length ≤ 1048576) :
    Calls Try.prog 6 #[.slice a xs.length c] w fun e w' => ∃ a' c', e = .returned (.slice a' xs.length c') ∧ w'.ownsRow w.heap.size 5 1 (.slice a' xs.length c') xs.length (bC xs) ∧ Below w.heap.size w w' := by
  cases a with
  | none =>
    obtain ⟨rfl, rfl⟩ := hnil rfl
    refine (clone_nil w).mono ?_
    rintro e w' ⟨rfl, rfl⟩
    exact ⟨none, 0, rfl, World.ownsRow_nil _ _ _ _, Below.refl _ _⟩
  | some ad =>
    refine (clone_some ad c xs w hx hlen).mono ?_
    rintro e w' ⟨rfl, R, hb⟩
    refine ⟨_, _, rfl, own_of_row R (Nat.le_refl _) (by unfold maxLen; omega) (Nat.le_refl _) (bC_len xs) (fun i hi => ?_), hb⟩
    rw [bC_get xs i hi]; simp [part, hi]

theorem new_any (a : Option Addr) (n c : Nat) (w : World) :
    Calls Try.prog 7 #[.slice a n c] w fun e w' => e = .returned (.pointer (some ⟨w.heap.size, 0, none⟩)) ∧ w' = w.alloc (.cells #[.slice a n c] 36) := by
  go_enter Try.func7, Try.ntmps7
  go_wp2
  go_ret
  exact ⟨rfl, rfl⟩

theorem buf_any (tb n c : Nat) (a : Option Addr) (w : World) (h : w.cell? ⟨tb, 0, none⟩ = some (.slice a n c)) :
    Calls Try.prog 10 #[.pointer (some ⟨tb, 0, none⟩)] w fun e w' => e = .returned (.slice a n c) ∧ w = w' := by
  go_enter Try.func10, Try.ntmps10
  go_wp2
  go_ret
  exact ⟨rfl, rfl⟩
end Go.Proofs.Qxb6628159a
