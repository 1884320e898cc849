/-
  THE GLOB SEAT: small walks (the bound on lengths, HasPrefix, takes), and what the walks say of strings. By an AI agent.
-/
import Derived.Test.Qxb6627012aRows
import Derived.Test.Qxb6627012aPlain
import Derived.WalkKit
import Derived.ProofKit
import Derived.Below
import Derived.WalkSpells
import Derived.Lib.Strings
namespace Go.Proofs.Qxb6627012a
open Go.RowKit Plain
set_option linter.unusedVariables false
set_option linter.unusedSimpArgs false

theorem ret_bool {a b : Bool} (h : a = b) : Ending.returned (.bool a) = .returned (.bool b) := by rw [h]

/-- The bytes of a string, as numbers. -/
def bs (s : ByteArray) : List Nat := s.data.toList.map UInt8.toNat
theorem bs_len (s : ByteArray) : (bs s).length = s.size := by simp [bs]
theorem bs_drop (s : ByteArray) (i : Nat) (h : i < s.size) : (bs s).drop i = s[i].toNat :: (bs s).drop (i + 1) := by
  rw [List.drop_eq_getElem_cons (by rw [bs_len]; exact h)]
  simp [bs]; rfl
theorem bs_end (s : ByteArray) (i : Nat) (h : s.size ≤ i) : (bs s).drop i = [] := List.drop_eq_nil_of_le (by rw [bs_len]; exact h)
theorem bs_take (s : ByteArray) (i : Nat) (h : i < s.size) : (bs s).take (i + 1) = (bs s).take i ++ [s[i].toNat] := by
  rw [List.take_succ_eq_append_getElem (by rw [bs_len]; exact h)]
  simp [bs]; rfl
theorem bs_lt (s : ByteArray) (i : Nat) (h : i < s.size) : s[i].toNat < 256 := UInt8.toNat_lt _
theorem bs_extract (s : ByteArray) (a b : Nat) : bs (s.extract a b) = ((bs s).drop a).take (b - a) := by
  simp [bs, Lib.extract_data, List.map_take, List.map_drop]
theorem bs_inj (a b : ByteArray) : a.data.toList = b.data.toList ↔ bs a = bs b := by
  constructor
  · intro h; unfold bs; rw [h]
  · intro h; exact List.map_inj_right (fun x y e => UInt8.toNat_inj.1 e) |>.1 h
theorem bs_eq (a b : ByteArray) : (a.toList == b.toList) = decide (bs a = bs b) := by
  rw [ByteArray.toList_eq, ByteArray.toList_eq, Bool.eq_iff_iff, beq_iff_eq, decide_eq_true_eq]
  exact bs_inj a b

/-- 'strings.HasPrefix'. -/
def hasB (s p : ByteArray) : Bool := begins (bs p) (bs s)
theorem hasB_long {s p : ByteArray} (h : ¬ p.size ≤ s.size) : hasB s p = false := by
  unfold hasB begins
  rw [decide_eq_false_iff_not]
  intro e
  have := congrArg List.length e
  simp [bs_len] at this
  omega
theorem hasB_short {s p : ByteArray} (h : p.size ≤ s.size) : ((s.extract 0 p.size).toList == p.toList) = hasB s p := by
  rw [bs_eq, bs_extract]; simp [hasB, begins, bs_len]

theorem has_any (s p : ByteArray) (w : World) (hs : s.size ≤ 1024) (hp : p.size ≤ 1024) :
    Calls Try.prog 9 #[.string s, .string p] w fun e w' => e = .returned (.bool (hasB s p)) ∧ w = w' := by
  by_cases h : p.size ≤ s.size
  · have H := hasB_short h
    have H' : Hid (((s.extract 0 p.size).toList == p.toList) = hasB s p) := H
    clear H
    go_enter Try.func9, Try.ntmps9
    go_wp2
    go_ret
    exact ⟨ret_bool H'.out, rfl⟩
  · have H : Hid (hasB s p = false) := hasB_long h
    go_enter Try.func9, Try.ntmps9
    go_wp2
    go_ret
    exact ⟨ret_bool H.out.symm, rfl⟩

/-- '(element).takes', of a star. -/
theorem takes_any (k b c : Nat) (w : World) :
    Calls Try.prog 11 #[.agg #[.int .i64 k, .int .u8 b], .int .u8 c] w fun e w' => e = .returned (.bool (takes k c)) ∧ w' = w.alloc (.cells #[.int .i64 k, .int .u8 b] 34) := by
  by_cases h : k = 2
  · subst h
    go_enter Try.func11, Try.ntmps11
    go_wp2
    go_ret
    exact ⟨ret_bool (by simp [takes]), rfl⟩
  · have h' : ¬ (k : Int) = 2 := by omega
    have h2 : ((k : Int) == 2) = false := by simpa using h'
    go_enter Try.func11, Try.ntmps11
    go_wp2
    go_ret
    refine ⟨ret_bool ?_, rfl⟩
    have e1 : (k == 2) = false := by simpa using h
    have e2 : ((c : Int) != 47) = (c != 47) := by
      rw [Bool.eq_iff_iff]; simp; omega
    simp [takes, e1, h2, e2]

/-- The bound on the lengths. -/
theorem fits_any (s t : ByteArray) (w : World) (hs : s.size ≤ 1024) (ht : t.size ≤ 1024) :
    Calls Try.prog 4 #[.string s, .string t] w fun e w' => e = .returned (.bool true) ∧ w = w' := by
  go_enter Try.func4, Try.ntmps4
  go_wp2
  go_ret
  exact ⟨rfl, rfl⟩
end Go.Proofs.Qxb6627012a
