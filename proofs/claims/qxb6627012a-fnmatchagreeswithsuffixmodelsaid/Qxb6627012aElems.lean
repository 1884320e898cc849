/-
  THE GLOB SEAT: 'elements' walked. By an AI agent.
-/
import Derived.Test.Qxb6627012aSmall
import Derived.Deep.LoopGhost
import Derived.OwnWalk
namespace Go.Proofs.Qxb6627012a
open Go.RowKit Plain
set_option linter.unusedVariables false
set_option linter.unusedSimpArgs false

theorem els_two (r : List Nat) : els (42 :: 42 :: r) = (2, 0) :: els r := by simp [els]
theorem els_one (r : List Nat) (h : r.head? ≠ some 42) : els (42 :: r) = (1, 0) :: els r := by
  cases r with
  | nil => rfl
  | cons d r => simp at h; simp [els, h]
theorem els_lit (c : Nat) (r : List Nat) (h : c ≠ 42) : els (c :: r) = (0, c) :: els r := by
  cases r with
  | nil => simp [els, h]
  | cons d r => simp [els, h]

/-- The cells of a list of pieces. -/
def elCells (es : List (Nat × Nat)) : List Value := es.flatMap fun e => [.int .i64 e.1, .int .u8 e.2]
theorem elCells_len (es : List (Nat × Nat)) : (elCells es).length = es.length * 2 := by
  induction es with
  | nil => rfl
  | cons e es ih => simp [elCells] at ih ⊢; omega
theorem elCells_snoc (es : List (Nat × Nat)) (e : Nat × Nat) : elCells (es ++ [e]) = elCells es ++ [.int .i64 e.1, .int .u8 e.2] := by simp [elCells]
theorem elCells_at : ∀ (es : List (Nat × Nat)) (j : Nat), j < es.length →
    (elCells es)[2 * j]? = some (.int .i64 (es.getD j (0, 0)).1) ∧ (elCells es)[2 * j + 1]? = some (.int .u8 (es.getD j (0, 0)).2)
  | [], j, h => by simp at h
  | e :: es, 0, _ => by simp [elCells]
  | e :: es, j + 1, h => by
    have ih := elCells_at es j (by simpa using h)
    have e1 : elCells (e :: es) = .int .i64 e.1 :: .int .u8 e.2 :: elCells es := rfl
    rw [e1]
    have e2 : 2 * (j + 1) = 2 * j + 2 := by omega
    rw [e2]
    simpa using ih

theorem info34 : (Try.prog.info? 34).map (fun i => (i.zero, i.size, i.bytes)) = some (some (.agg #[.int .i64 0, .int .u8 0]), 2, 16) := by kernel_rfl

theorem two_oneCell (a b : Nat) : ∀ u ∈ [Value.int .i64 a, Value.int .u8 b], u.oneCell' = true := by
  intro u hu
  simp at hu
  rcases hu with rfl | rfl <;> rfl

theorem cell_two (w : World) (a b : Value) (t : TypeId) : ∀ j u, [a, b][j]? = some u → (w.alloc (.cells #[a, b] t)).cell? ((⟨w.heap.size, 0, none⟩ : Addr).add j) = some u := by
  intro j u h
  match j, h with
  | 0, h => simp at h; subst h; simp [Addr.add]
  | 1, h => simp at h; subst h; simp [Addr.add]

def dd : ByteArray := ⟨#[42, 42]⟩
theorem bs_dd : bs dd = [42, 42] := rfl
theorem starstar {t : ByteArray} {k : Nat} (h : k < t.size) : hasB (t.extract k t.size) dd = decide (∃ h' : k + 1 < t.size, t[k].toNat = 42 ∧ t[k + 1].toNat = 42) := by
  have e : bs (t.extract k t.size) = (bs t).drop k := by
    rw [bs_extract]; exact List.take_of_length_le (by simp [bs_len])
  unfold hasB begins
  rw [e, bs_dd, bs_drop t k h]
  by_cases h' : k + 1 < t.size
  · rw [bs_drop t (k + 1) h']
    simp [h']
  · rw [bs_end t (k + 1) (by omega)]
    simp [h']

/-- What the loop of 'elements' has so far. -/
structure ElRel (t : ByteArray) (w wr : World) (k : Nat) (done : List (Nat × Nat)) : Prop where
  le : k ≤ t.size
  len : done.length ≤ k
  eq : done ++ els ((bs t).drop k) = els (bs t)
  own : wr.ownsRow w.heap.size 34 2 (.slice (some ⟨w.heap.size, 0, none⟩) done.length t.size) done.length (elCells done)
  below : Below w.heap.size w wr
theorem ElRel.step {t : ByteArray} {w wr w1 : World} {k k' : Nat} {done : List (Nat × Nat)} {e : Nat × Nat} {o : Obj} (h : ElRel t w wr k done) (hk : k < k') (hle : k' ≤ t.size)
    (he : els ((bs t).drop k) = e :: els ((bs t).drop k'))
    (hown : w1.ownsRow w.heap.size 34 2 (.slice (some ⟨w.heap.size, 0, none⟩) (done.length + 1) t.size) (done.length + 1) (elCells done ++ [.int .i64 e.1, .int .u8 e.2]))
    (hg : (wr.alloc o).grownBy w1 (some w.heap.size)) : ElRel t w w1 k' (done ++ [e]) := by
  have hs := h.below.size
  refine ⟨hle, by have := h.len; simp; omega, ?_, ?_, ?_⟩
  · rw [List.append_assoc, List.singleton_append, ← he]; exact h.eq
  · rw [elCells_snoc, List.length_append]; exact hown
  · exact (h.below.alloc hs o).grown hg (by simp; omega) (fun k e => by simp at e; omega)

set_option maxHeartbeats 1000000 in
theorem elements_any (t : ByteArray) (w : World) (ht : t.size ≤ 1024) :
    Calls Try.prog 13 #[.string t] w fun e w' => e = .returned (.slice (some ⟨w.heap.size, 0, none⟩) (els (bs t)).length t.size) ∧
      w'.ownsRow w.heap.size 34 2 (.slice (some ⟨w.heap.size, 0, none⟩) (els (bs t)).length t.size) (els (bs t)).length (elCells (els (bs t))) ∧ Below w.heap.size w w' := by
  obtain ⟨i0, hi, hz0, hz1, hz2⟩ := info_parts info34
  go_enter Try.func13, Try.ntmps13
  go_wp2_with (at_make; refine wpList_make_own _ rfl _ _ 27 rfl w.heap.size 34 i0 (.agg #[.int .i64 0, .int .u8 0]) 2 Try.underlying27 hi hz0 hz1 _ _ _ t.size rfl rfl rfl (by rw [hz2]; omega) (by unfold maxLen; omega) (Nat.le_refl _) ?_)
  intro w1 hown hgrow
  have R0 : ElRel t w w1 0 [] := ⟨Nat.zero_le _, Nat.zero_le _, by simp, hown, (Below.refl _ _).grown hgrow (Nat.le_refl _) (fun k e => by cases e)⟩
  clear hown hgrow
  go_wp2
  go_loopg [3, 4] t.size (fun g v i wr => ∃ (k : Nat) (done : List (Nat × Nat)), g = t.size - k ∧ i = .int .i64 k ∧ v = .slice (some ⟨w.heap.size, 0, none⟩) done.length t.size ∧ ElRel t w wr k done)
  case atStart => exact ⟨0, [], by simp, rfl, rfl, R0⟩
  case round =>
    obtain ⟨k, done, hg, rfl, rfl, R⟩ := hrel
    have HG : Hid (gk = t.size - k) := hg
    clear hg R0
    have hle := R.le
    have hlen := R.len
    have hsz := R.below.size
    by_cases hk : k < t.size
    · obtain ⟨c, hc⟩ : ∃ c, t[k].toNat = c := ⟨_, rfl⟩
      have hcl := bs_lt t k hk
      have hdr := bs_drop t k hk
      have hss := starstar hk
      by_cases h2 : ∃ h' : k + 1 < t.size, t[k].toNat = 42 ∧ t[k + 1].toNat = 42
      · rw [decide_eq_true h2] at hss
        obtain ⟨h', a1, a2⟩ := h2
        have HE : Hid (els ((bs t).drop k) = (2, 0) :: els ((bs t).drop (k + 2))) := by
          show els ((bs t).drop k) = _
          rw [bs_drop t k hk, bs_drop t (k + 1) h', a1, a2, els_two]
        have HS : Hid (hasB (t.extract k t.size) dd = true) := hss
        clear hss hdr a1 a2 hc hcl c
        go_wp2_with fail
        refine (has_any (t.extract k t.size) dd _ (by simp; omega) (by decide)).mono ?_
        rintro e w' ⟨rfl, rfl⟩
        rw [HS.out]
        go_wp2_with (at_builtin; refine wpList_append_fits _ rfl (.tmp 26) (.tmp 28) 27 rfl w.heap.size 34 i0 2 Try.underlying27 hi hz1 w.heap.size done.length t.size (elCells done) rfl (R.own.alloc _) ⟨wr.heap.size, 0, none⟩ 1 1 [.int .i64 (2 : Nat), .int .u8 (0 : Nat)] rfl rfl (cell_two _ _ _ _) (two_oneCell _ _) (by omega) ?_)
        intro w1 hown hgrow
        have R1 : ElRel t w w1 (k + 2) (done ++ [(2, 0)]) := R.step (by omega) (by omega) HE.out hown hgrow
        clear hown hgrow R
        go_wp2
        go_roundg (t.size - (k + 2))
        case measure => rw [HG.out]; omega
        case rel => exact ⟨k + 2, done ++ [(2, 0)], rfl, by go_num, by simp, R1⟩
      · rw [decide_eq_false h2] at hss
        have HS : Hid (hasB (t.extract k t.size) dd = false) := hss
        clear hss
        by_cases hc42 : c = 42
        · have HE : Hid (els ((bs t).drop k) = (1, 0) :: els ((bs t).drop (k + 1))) := by
            show els ((bs t).drop k) = _
            rw [hdr, hc, hc42]
            refine els_one _ ?_
            by_cases h' : k + 1 < t.size
            · rw [bs_drop t (k + 1) h']
              intro e
              simp at e
              exact h2 ⟨h', by rw [hc, hc42], e⟩
            · rw [bs_end t (k + 1) (by omega)]; simp
          have e42 : t[k].toNat = 42 := by rw [hc, hc42]
          clear hdr hc hcl h2 hc42 c
          go_wp2_with fail
          refine (has_any (t.extract k t.size) dd _ (by simp; omega) (by decide)).mono ?_
          rintro e w' ⟨rfl, rfl⟩
          rw [HS.out]
          go_wp2_with (at_builtin; refine wpList_append_fits _ rfl (.tmp 37) (.tmp 39) 27 rfl w.heap.size 34 i0 2 Try.underlying27 hi hz1 w.heap.size done.length t.size (elCells done) rfl (R.own.alloc _) ⟨wr.heap.size, 0, none⟩ 1 1 [.int .i64 (1 : Nat), .int .u8 (0 : Nat)] rfl rfl (cell_two _ _ _ _) (two_oneCell _ _) (by omega) ?_)
          intro w1 hown hgrow
          have R1 : ElRel t w w1 (k + 1) (done ++ [(1, 0)]) := R.step (by omega) (by omega) HE.out hown hgrow
          clear hown hgrow R
          go_wp2
          go_roundg (t.size - (k + 1))
          case measure => rw [HG.out]; omega
          case rel => exact ⟨k + 1, done ++ [(1, 0)], rfl, by go_num, by simp, R1⟩
        · have HE : Hid (els ((bs t).drop k) = (0, t[k].toNat) :: els ((bs t).drop (k + 1))) := by
            show els ((bs t).drop k) = _
            rw [hdr, hc]; exact els_lit _ _ hc42
          have e42 : ¬ t[k].toNat = 42 := by rw [hc]; exact hc42
          clear hdr hc h2 hc42 c
          go_wp2_with fail
          refine (has_any (t.extract k t.size) dd _ (by simp; omega) (by decide)).mono ?_
          rintro e w' ⟨rfl, rfl⟩
          rw [HS.out]
          go_wp2_with (at_builtin; refine wpList_append_fits _ rfl (.tmp 14) (.tmp 19) 27 rfl w.heap.size 34 i0 2 Try.underlying27 hi hz1 w.heap.size done.length t.size (elCells done) rfl (R.own.alloc _) ⟨wr.heap.size, 0, none⟩ 1 1 [.int .i64 (0 : Nat), .int .u8 t[k].toNat] rfl rfl (cell_two _ _ _ _) (two_oneCell _ _) (by omega) ?_)
          intro w1 hown hgrow
          have R1 : ElRel t w w1 (k + 1) (done ++ [(0, t[k].toNat)]) := R.step (by omega) (by omega) HE.out hown hgrow
          clear hown hgrow R
          go_wp2
          go_roundg (t.size - (k + 1))
          case measure => rw [HG.out]; omega
          case rel => exact ⟨k + 1, done ++ [(0, t[k].toNat)], rfl, by go_num, by simp, R1⟩
    · have HD : Hid (done = els (bs t)) := by
        have h := R.eq
        rw [bs_end t k (by omega)] at h
        show done = els (bs t)
        simpa [els] using h
      have Ro := R.own
      have Rb := R.below
      have RO : Hid (wr.ownsRow w.heap.size 34 2 (.slice (some ⟨w.heap.size, 0, none⟩) (els (bs t)).length t.size) (els (bs t)).length (elCells (els (bs t)))) := by
        rw [HD.out] at Ro; exact Ro
      clear R Ro
      go_wp2
      go_ret
      exact ⟨by rw [← HD.out]; rfl, RO.out, Rb⟩
end Go.Proofs.Qxb6627012a
