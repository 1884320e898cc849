/-
  THE GLOB SEAT: 'modelTokens' walked. By an AI agent.
-/
import Derived.Test.Qxb6627012aPass
namespace Go.Proofs.Qxb6627012a
open Go.RowKit Plain
set_option linter.unusedVariables false
set_option linter.unusedSimpArgs false

theorem info3 : (Try.prog.info? 3).map (fun i => (i.zero, i.size, i.bytes)) = some (some (.int .i64 0), 1, 8) := by kernel_rfl
theorem info5 : (Try.prog.info? 5).map (fun i => (i.zero, i.size, i.bytes)) = some (some (.int .u8 0), 1, 1) := by kernel_rfl

def kCells (es : List (Nat × Nat)) : List Value := es.map fun e => .int .i64 e.1
def lCells (es : List (Nat × Nat)) : List Value := es.map fun e => .int .u8 e.2

/-- What the loop of 'modelTokens' has so far. -/
structure TokRel (t : ByteArray) (w wr : World) (L k : Nat) (done : List (Nat × Nat)) : Prop where
  le : k ≤ t.size
  len : done.length ≤ k
  eq : done ++ toks ((bs t).drop k) = toks (bs t)
  lt : w.heap.size < L
  kinds : wr.ownsRow w.heap.size 3 1 (.slice (some ⟨w.heap.size, 0, none⟩) done.length t.size) done.length (kCells done)
  lits : wr.ownsRow w.heap.size 5 1 (.slice (some ⟨L, 0, none⟩) done.length t.size) done.length (lCells done)
  below : Below w.heap.size w wr
theorem TokRel.step {t : ByteArray} {w wr w1 w2 : World} {L k k' : Nat} {done : List (Nat × Nat)} {e : Nat × Nat} {o o' : Obj} (h : TokRel t w wr L k done) (hk : k < k') (hle : k' ≤ t.size)
    (he : toks ((bs t).drop k) = e :: toks ((bs t).drop k'))
    (hK : w1.ownsRow w.heap.size 3 1 (.slice (some ⟨w.heap.size, 0, none⟩) (done.length + 1) t.size) (done.length + 1) (kCells done ++ [.int .i64 e.1]))
    (hg : (wr.alloc o).grownBy w1 (some w.heap.size))
    (hL : w2.ownsRow w.heap.size 5 1 (.slice (some ⟨L, 0, none⟩) (done.length + 1) t.size) (done.length + 1) (lCells done ++ [.int .u8 e.2]))
    (hg2 : (w1.alloc o').grownBy w2 (some L)) : TokRel t w w2 L k' (done ++ [e]) := by
  have hs := h.below.size
  have hlt := h.lt
  have b1 : Below w.heap.size w w1 := (h.below.alloc hs o).grown hg (by simp; omega) (fun k e => by simp at e; omega)
  refine ⟨hle, by have := h.len; simp; omega, ?_, hlt, ?_, ?_, ?_⟩
  · rw [List.append_assoc, List.singleton_append, ← he]; exact h.eq
  · have : kCells (done ++ [e]) = kCells done ++ [.int .i64 e.1] := by simp [kCells]
    rw [this, List.length_append]
    exact (hK.alloc _).kept hg2 (.inr (by simp [Value.ownBlock]; omega))
  · have : lCells (done ++ [e]) = lCells done ++ [.int .u8 e.2] := by simp [lCells]
    rw [this, List.length_append]
    exact hL
  · exact (b1.alloc b1.size o').grown hg2 (by have := b1.size; simp; omega) (fun k e => by simp at e; omega)
/-- The row of bytes behind the first append. -/
theorem TokRel.mid {t : ByteArray} {w wr w1 : World} {L k : Nat} {done : List (Nat × Nat)} {o : Obj} (h : TokRel t w wr L k done) (hg : (wr.alloc o).grownBy w1 (some w.heap.size)) :
    w1.ownsRow w.heap.size 5 1 (.slice (some ⟨L, 0, none⟩) done.length t.size) done.length (lCells done) :=
  (h.lits.alloc _).kept hg (.inr (by have := h.lt; simp [Value.ownBlock]; omega))
theorem one_cell (w : World) (a : Value) (t : TypeId) : ∀ j u, [a][j]? = some u → (w.alloc (.cells #[a] t)).cell? ((⟨w.heap.size, 0, none⟩ : Addr).add j) = some u := by
  intro j u h
  match j, h with
  | 0, h => simp at h; subst h; simp [Addr.add]
theorem one_oneCell (k : IntKind) (a : Int) : ∀ u ∈ [Value.int k a], u.oneCell' = true := by
  intro u hu; simp at hu; subst hu; rfl

/-! ### a run of stars -/
theorem run_at : ∀ (l : List Nat) (j : Nat), j < run l → l[j]? = some 42
  | [], j, h => by simp [run] at h
  | c :: r, j, h => by
    by_cases hc : c = 42
    · subst hc
      rw [run_star] at h
      cases j with
      | zero => rfl
      | succ j => simpa using run_at r j (by omega)
    · rw [run_lit c r hc] at h; omega
theorem run_end : ∀ (l : List Nat), l[run l]? ≠ some 42
  | [] => by simp [run]
  | c :: r => by
    by_cases hc : c = 42
    · subst hc; rw [run_star]; simpa using run_end r
    · rw [run_lit c r hc]; simpa using hc
theorem run_le (l : List Nat) : run l ≤ l.length := List.Sublist.length_le (List.takeWhile_sublist _)
theorem bs_get (t : ByteArray) (j : Nat) (h : j < t.size) : (bs t)[j]? = some t[j].toNat := by
  have h1 := bs_drop t j h
  have h2 : ((bs t).drop j)[0]? = (bs t)[j]? := by simp
  rw [← h2, h1]; rfl
theorem run_in (t : ByteArray) (k j : Nat) (hk : k ≤ j) (h : j < k + run ((bs t).drop k)) (hj : j < t.size) : t[j].toNat = 42 := by
  have h1 := run_at ((bs t).drop k) (j - k) (by omega)
  rw [List.getElem?_drop, show k + (j - k) = j by omega, bs_get t j hj] at h1
  simpa using h1
theorem run_out (t : ByteArray) (k : Nat) (hj : k + run ((bs t).drop k) < t.size) : ¬ t[k + run ((bs t).drop k)].toNat = 42 := by
  have h1 := run_end ((bs t).drop k)
  rw [List.getElem?_drop, bs_get t _ hj] at h1
  intro e; exact h1 (by rw [e])
theorem run_size (t : ByteArray) (k : Nat) (hk : k ≤ t.size) : k + run ((bs t).drop k) ≤ t.size := by
  have := run_le ((bs t).drop k)
  rw [List.length_drop, bs_len] at this; omega
theorem toks_run (t : ByteArray) (k : Nat) (hk : k < t.size) (h : t[k].toNat = 42) :
    1 ≤ run ((bs t).drop k) ∧ toks ((bs t).drop k) = ((if run ((bs t).drop k) = 1 then 1 else 2), 0) :: toks ((bs t).drop (k + run ((bs t).drop k))) := by
  have e := bs_drop t k hk
  rw [h] at e
  have er : run ((bs t).drop k) = run ((bs t).drop (k + 1)) + 1 := by rw [e, run_star]
  refine ⟨by omega, ?_⟩
  have e2 : (bs t).drop (k + run ((bs t).drop k)) = ((bs t).drop (k + 1)).drop (run ((bs t).drop (k + 1))) := by
    rw [List.drop_drop, er]; congr 1; omega
  have e3 : toks ((bs t).drop k) = toks (42 :: (bs t).drop (k + 1)) := by rw [e]
  rw [e2, er, e3, toks_star]
  congr 2
  by_cases hz : run ((bs t).drop (k + 1)) = 0 <;> simp [hz]

set_option maxHeartbeats 1000000 in
theorem tokens_any (t : ByteArray) (w : World) (ht : t.size ≤ 1024) :
    Calls Try.prog 12 #[.string t] w fun e w' => ∃ L, e = .returned (.tuple #[.slice (some ⟨w.heap.size, 0, none⟩) (toks (bs t)).length t.size, .slice (some ⟨L, 0, none⟩) (toks (bs t)).length t.size]) ∧ TokRel t w w' L t.size (toks (bs t)) := by
  obtain ⟨i3, hi3, hz0, hz1, hz2⟩ := info_parts info3
  obtain ⟨i5, hi5, hy0, hy1, hy2⟩ := info_parts info5
  go_enter Try.func12, Try.ntmps12
  go_wp2_with (at_make; refine wpList_make_own _ rfl _ _ 36 rfl w.heap.size 3 i3 (.int .i64 0) 1 Try.underlying36 hi3 hz0 hz1 _ _ _ t.size rfl rfl rfl (by rw [hz2]; omega) (by unfold maxLen; omega) (Nat.le_refl _) ?_)
  intro w1 hown hgrow
  have hs1 : w.heap.size < w1.heap.size := (hown.lt _ rfl).2
  go_wp2_with (at_make; refine wpList_make_own _ rfl _ _ 37 rfl w.heap.size 5 i5 (.int .u8 0) 1 Try.underlying37 hi5 hy0 hy1 _ _ _ t.size rfl rfl rfl (by rw [hy2]; omega) (by unfold maxLen; omega) (by omega) ?_)
  intro w2 hown2 hgrow2
  have R0 : TokRel t w w2 w1.heap.size 0 [] := ⟨Nat.zero_le _, Nat.zero_le _, by simp, hs1, hown.kept hgrow2 (.inr (by simp [Value.ownBlock])), hown2, ((Below.refl _ _).grown hgrow (Nat.le_refl _) (fun k e => by cases e)).grown hgrow2 (by omega) (fun k e => by cases e)⟩
  clear hown hgrow hown2 hgrow2
  obtain ⟨L, hL⟩ : ∃ L, w1.heap.size = L := ⟨_, rfl⟩
  rw [hL] at R0 ⊢
  clear hL hs1
  go_wp2
  go_loopg [4, 5, 6] t.size (fun g v u i wr => ∃ (k : Nat) (done : List (Nat × Nat)), g = t.size - k ∧ i = .int .i64 k ∧ v = .slice (some ⟨w.heap.size, 0, none⟩) done.length t.size ∧ u = .slice (some ⟨L, 0, none⟩) done.length t.size ∧ TokRel t w wr L k done)
  case atStart => exact ⟨0, [], by simp, rfl, rfl, rfl, R0⟩
  case round =>
    obtain ⟨k, done, hg, rfl, rfl, rfl, R⟩ := hrel
    have HG : Hid (gk = t.size - k) := hg
    clear hg R0
    have hle := R.le
    have hlen := R.len
    have hsz := R.below.size
    have hLt := R.lt
    by_cases hk : k < t.size
    · by_cases h42 : t[k].toNat = 42
      · obtain ⟨rn, hrn⟩ : ∃ rn, run ((bs t).drop k) = rn := ⟨_, rfl⟩
        obtain ⟨q1, q2⟩ := toks_run t k hk h42
        have hin := run_in t k
        have hout := run_out t k
        have hrs := run_size t k hle
        simp only [hrn] at q1 q2 hin hout hrs
        have HQ : Hid (toks ((bs t).drop k) = ((if rn = 1 then 1 else 2), 0) :: toks ((bs t).drop (k + rn))) := q2
        have HIN : Hid (∀ j, k ≤ j → j < k + rn → ∀ hj : j < t.size, t[j].toNat = 42) := hin
        have HOUT : Hid (∀ hj : k + rn < t.size, ¬ t[k + rn].toNat = 42) := hout
        clear q2 hin hout hrn
        go_wp2
        go_loopg [7] (t.size - k) (fun g j wq => ∃ i : Nat, g = t.size - i ∧ k ≤ i ∧ i ≤ k + rn ∧ j = .int .i64 i ∧ wq = wr)
        case atStart => exact ⟨k, rfl, Nat.le_refl _, by omega, rfl, rfl⟩
        case round =>
          obtain ⟨i, hg2, hi1, hi2, rfl, rfl⟩ := hrel
          have HG2 : Hid (gk = t.size - i) := hg2
          clear hg2
          by_cases hend : i < k + rn
          · have hit : i < t.size := by omega
            have hi42 := HIN.out i hi1 hend hit
            go_wp2
            go_roundg (t.size - (i + 1))
            case measure => rw [HG2.out]; omega
            case rel => exact ⟨i + 1, rfl, by omega, by omega, by go_num, rfl⟩
          · have he : i = k + rn := by omega
            subst he
            have hne : ∀ hj : k + rn < t.size, ¬ t[k + rn].toNat = 42 := HOUT.out
            clear hend hi1 hi2
            by_cases h1 : rn = 1
            · have HQ1 : Hid (toks ((bs t).drop k) = (1, 0) :: toks ((bs t).drop (k + rn))) := by
                have := HQ.out; rw [if_pos h1] at this; exact this
              clear HQ
              subst h1
              by_cases hj : k + 1 < t.size
              all_goals
                first
                | (have hne' := hne hj)
                | skip
                clear hne
                go_wp2_with (at_builtin; refine wpList_append_fits _ rfl (.tmp 50) (.tmp 51) 36 rfl w.heap.size 3 i3 1 Try.underlying36 hi3 hz1 w.heap.size done.length t.size (kCells done) rfl (R.kinds.alloc _) ⟨wr.heap.size, 0, none⟩ 1 1 [.int .i64 (1 : Nat)] rfl rfl (one_cell _ _ _) (one_oneCell _ _) (by omega) ?_)
                intro wa howna hgrowa
                have hmid := R.mid hgrowa
                go_wp2_with (at_builtin; refine wpList_append_fits _ rfl (.tmp 56) (.tmp 57) 37 rfl w.heap.size 5 i5 1 Try.underlying37 hi5 hy1 L done.length t.size (lCells done) rfl (hmid.alloc _) ⟨wa.heap.size, 0, none⟩ 1 1 [.int .u8 (0 : Nat)] rfl rfl (one_cell _ _ _) (one_oneCell _ _) (by omega) ?_)
                intro wb hownb hgrowb
                have R1 : TokRel t w wb L (k + 1) (done ++ [(1, 0)]) := R.step (by omega) (by omega) HQ1.out howna hgrowa hownb hgrowb
                clear howna hgrowa hmid hownb hgrowb R
                go_wp2
                go_roundg (t.size - (k + 1))
                case measure => rw [HG.out]; omega
                case rel => exact ⟨k + 1, done ++ [(1, 0)], rfl, by go_num, by simp, by simp, R1⟩
            · have HQ1 : Hid (toks ((bs t).drop k) = (2, 0) :: toks ((bs t).drop (k + rn))) := by
                have := HQ.out; rw [if_neg h1] at this; exact this
              clear HQ
              by_cases hj : k + rn < t.size
              all_goals
                first
                | (have hne' := hne hj)
                | skip
                clear hne
                go_wp2_with (at_builtin; refine wpList_append_fits _ rfl (.tmp 53) (.tmp 54) 36 rfl w.heap.size 3 i3 1 Try.underlying36 hi3 hz1 w.heap.size done.length t.size (kCells done) rfl (R.kinds.alloc _) ⟨wr.heap.size, 0, none⟩ 1 1 [.int .i64 (2 : Nat)] rfl rfl (one_cell _ _ _) (one_oneCell _ _) (by omega) ?_)
                intro wa howna hgrowa
                have hmid := R.mid hgrowa
                go_wp2_with (at_builtin; refine wpList_append_fits _ rfl (.tmp 56) (.tmp 57) 37 rfl w.heap.size 5 i5 1 Try.underlying37 hi5 hy1 L done.length t.size (lCells done) rfl (hmid.alloc _) ⟨wa.heap.size, 0, none⟩ 1 1 [.int .u8 (0 : Nat)] rfl rfl (one_cell _ _ _) (one_oneCell _ _) (by omega) ?_)
                intro wb hownb hgrowb
                have R1 : TokRel t w wb L (k + rn) (done ++ [(2, 0)]) := R.step (by omega) (by omega) HQ1.out howna hgrowa hownb hgrowb
                clear howna hgrowa hmid hownb hgrowb R
                go_wp2
                go_roundg (t.size - (k + rn))
                case measure => rw [HG.out]; omega
                case rel => exact ⟨k + rn, done ++ [(2, 0)], rfl, by go_num, by simp, by simp, R1⟩
      · have HQ1 : Hid (toks ((bs t).drop k) = (0, t[k].toNat) :: toks ((bs t).drop (k + 1))) := by
          show toks ((bs t).drop k) = (0, t[k].toNat) :: toks ((bs t).drop (k + 1))
          rw [bs_drop t k hk]; exact toks_lit _ _ h42
        have hcb := bs_lt t k hk
        go_wp2_with (at_builtin; refine wpList_append_fits _ rfl (.tmp 22) (.tmp 23) 36 rfl w.heap.size 3 i3 1 Try.underlying36 hi3 hz1 w.heap.size done.length t.size (kCells done) rfl (R.kinds.alloc _) ⟨wr.heap.size, 0, none⟩ 1 1 [.int .i64 (0 : Nat)] rfl rfl (one_cell _ _ _) (one_oneCell _ _) (by omega) ?_)
        intro wa howna hgrowa
        have hmid := R.mid hgrowa
        go_wp2_with (at_builtin; refine wpList_append_fits _ rfl (.tmp 25) (.tmp 29) 37 rfl w.heap.size 5 i5 1 Try.underlying37 hi5 hy1 L done.length t.size (lCells done) rfl (hmid.alloc _) ⟨wa.heap.size, 0, none⟩ 1 1 [.int .u8 t[k].toNat] rfl rfl (one_cell _ _ _) (one_oneCell _ _) (by omega) ?_)
        intro wb hownb hgrowb
        have R1 : TokRel t w wb L (k + 1) (done ++ [(0, t[k].toNat)]) := R.step (by omega) (by omega) HQ1.out howna hgrowa hownb hgrowb
        clear howna hgrowa hmid hownb hgrowb R
        go_wp2
        go_roundg (t.size - (k + 1))
        case measure => rw [HG.out]; omega
        case rel => exact ⟨k + 1, done ++ [(0, t[k].toNat)], rfl, by go_num, by simp, by simp, R1⟩
    · have HD : Hid (done = toks (bs t)) := by
        show done = toks (bs t)
        have h := R.eq
        rw [bs_end t k (by omega), toks_nil] at h
        simpa using h
      have HK : Hid (k = t.size) := by
        show k = t.size
        omega
      go_wp2
      go_ret2
      refine ⟨L, ?_, ?_⟩
      · rw [← HD.out]; rfl
      · rw [HD.out, HK.out] at R; exact R
end Go.Proofs.Qxb6627012a
