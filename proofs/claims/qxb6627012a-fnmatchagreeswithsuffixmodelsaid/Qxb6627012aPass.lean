/-
  THE GLOB SEAT: rows of bools in memory; 'passStars' walked. By an AI agent.
-/
import Derived.Test.Qxb6627012aElems
import Derived.Deep.LoopGhost
import Derived.Deep.OwnRows
namespace Go.Proofs.Qxb6627012a
open Go.RowKit Plain
set_option linter.unusedVariables false
set_option linter.unusedSimpArgs false

/-- n cells of bools from ⟨b, off⟩ on, none frozen. -/
def RowB (w : World) (b off n : Nat) (f : Nat → Bool) : Prop := ∀ j, j < n → w.cell? ⟨b, off + j, none⟩ = some (.bool (f j)) ∧ w.frozen? ⟨b, off + j, none⟩ = false
theorem RowB.lt {w : World} {b off n : Nat} {f : Nat → Bool} (h : RowB w b off n f) (hn : 0 < n) : b < w.heap.size :=
  World.block_lt_of_cell? w ⟨b, off + 0, none⟩ (h 0 hn).1
theorem RowB.congr {w : World} {b off n : Nat} {f g : Nat → Bool} (h : RowB w b off n f) (e : ∀ j, j < n → f j = g j) : RowB w b off n g := fun j hj => by rw [← e j hj]; exact h j hj
theorem RowB.alloc {w : World} {b off n : Nat} {f : Nat → Bool} (h : RowB w b off n f) (o : Obj) : RowB (w.alloc o) b off n f := by
  intro j hj
  have hb := h.lt (by omega)
  exact ⟨(World.cell?_alloc_past o b (off + j) hb).trans (h j hj).1, (World.frozen?_alloc_past o b (off + j) hb).trans (h j hj).2⟩
theorem addr_ne {b o b' o' : Nat} (h : ¬ (b = b' ∧ o = o')) : (⟨b, o, none⟩ : Addr) ≠ ⟨b', o', none⟩ := by
  intro e
  injection e with e1 e2
  exact h ⟨e1, e2⟩
theorem RowB.set {w : World} {b off n : Nat} {f : Nat → Bool} (h : RowB w b off n f) (i : Nat) (v : Bool) : RowB (w.setCell ⟨b, off + i, none⟩ (.bool v)) b off n (up f i v) := by
  intro j hj
  refine ⟨?_, by rw [World.frozen?_setCell]; exact (h j hj).2⟩
  by_cases e : j = i
  · subst e
    rw [World.cell?_setCell_same _ _ _ (h j hj).1]; simp [up]
  · rw [World.cell?_setCell_other _ _ _ _ (addr_ne (by omega)), (h j hj).1]; simp [up, e]
theorem RowB.setOther {w : World} {b off n b' o' : Nat} {f : Nat → Bool} (h : RowB w b off n f) (hd : ¬ (b' = b ∧ off ≤ o' ∧ o' < off + n)) (v : Value) : RowB (w.setCell ⟨b', o', none⟩ v) b off n f := by
  intro j hj
  refine ⟨?_, by rw [World.frozen?_setCell]; exact (h j hj).2⟩
  rw [World.cell?_setCell_other _ _ _ _ (addr_ne (by omega))]; exact (h j hj).1

/-- Of what lay in w only the n cells from ⟨b, off⟩ on may have turned. -/
structure Moved (w w' : World) (b off n : Nat) : Prop where
  size : w.heap.size ≤ w'.heap.size
  cell : ∀ x o, x < w.heap.size → ¬ (x = b ∧ off ≤ o ∧ o < off + n) → w'.cell? ⟨x, o, none⟩ = w.cell? ⟨x, o, none⟩
  frozen : ∀ x o, x < w.heap.size → w'.frozen? ⟨x, o, none⟩ = w.frozen? ⟨x, o, none⟩
  below : ∀ B, B ≤ b → B ≤ w.heap.size → Below B w w'
theorem Moved.refl (w : World) (b off n : Nat) : Moved w w b off n := ⟨Nat.le_refl _, fun _ _ _ _ => rfl, fun _ _ _ => rfl, fun B _ _ => Below.refl _ _⟩
theorem Moved.alloc {w w' : World} {b off n : Nat} (h : Moved w w' b off n) (o : Obj) : Moved w (w'.alloc o) b off n :=
  ⟨by have := h.size; simp; omega, fun x y hx hn => (World.cell?_alloc_past o x y (by have := h.size; omega)).trans (h.cell x y hx hn),
   fun x y hx => (World.frozen?_alloc_past o x y (by have := h.size; omega)).trans (h.frozen x y hx), fun B h1 h2 => (h.below B h1 h2).alloc (by have := h.size; omega) o⟩
theorem Moved.set {w w' : World} {b off n : Nat} (h : Moved w w' b off n) (i : Nat) (hi : i < n) (v : Value) : Moved w (w'.setCell ⟨b, off + i, none⟩ v) b off n :=
  ⟨by have := h.size; simpa [World.setCell] using this, fun x y hx hn => (World.cell?_setCell_other _ _ _ _ (addr_ne (by omega))).trans (h.cell x y hx hn),
   fun x y hx => (World.frozen?_setCell ..).trans (h.frozen x y hx), fun B h1 h2 => (h.below B h1 h2).setCell (by simpa using h1) v⟩
theorem Moved.trans {w w' w'' : World} {b off n : Nat} (h : Moved w w' b off n) (k : Moved w' w'' b off n) : Moved w w'' b off n :=
  ⟨Nat.le_trans h.size k.size, fun x y hx hn => (k.cell x y (by have := h.size; omega) hn).trans (h.cell x y hx hn),
   fun x y hx => (k.frozen x y (by have := h.size; omega)).trans (h.frozen x y hx), fun B h1 h2 => (h.below B h1 h2).trans (k.below B h1 (by have := h.size; omega))⟩

/-- The pieces as they lie in memory. -/
def ElsAt (w : World) (eb : Nat) (es : List (Nat × Nat)) : Prop := eb < w.heap.size ∧ ∀ j, j < es.length → w.cell? ⟨eb, j * 2, none⟩ = some (.int .i64 (es.getD j (0, 0)).1) ∧ w.cell? ⟨eb, j * 2 + 1, none⟩ = some (.int .u8 (es.getD j (0, 0)).2)
theorem ElsAt.moved {w w' : World} {eb b off n : Nat} {es : List (Nat × Nat)} (h : ElsAt w eb es) (hm : Moved w w' b off n) (hne : eb ≠ b) : ElsAt w' eb es :=
  ⟨by have := hm.size; have := h.1; omega, fun j hj => ⟨(hm.cell _ _ h.1 (by omega)).trans (h.2 j hj).1, (hm.cell _ _ h.1 (by omega)).trans (h.2 j hj).2⟩⟩

theorem pass_yes {es : List (Nat × Nat)} {f : Nat → Bool} {k s : Nat} (hs : (es.getD k (0, 0)).1 = s) (h1 : pass es f k k = true) (h2 : 0 < s) : pass es f (k + 1) = up (pass es f k) (k + 1) true := by
  have : isStar es k = true := by unfold isStar; rw [hs]; simp; omega
  show (if pass es f k k && isStar es k then _ else _) = _
  rw [h1, this]; rfl
theorem pass_no {es : List (Nat × Nat)} {f : Nat → Bool} {k s : Nat} (hs : (es.getD k (0, 0)).1 = s) (h : ¬ (pass es f k k = true ∧ 0 < s)) : pass es f (k + 1) = pass es f k := by
  show (if pass es f k k && isStar es k then _ else _) = _
  rw [if_neg]
  intro e
  simp only [Bool.and_eq_true, isStar, hs, decide_eq_true_eq] at e
  exact h ⟨e.1, by omega⟩

set_option maxHeartbeats 1000000 in
theorem pass_any (es : List (Nat × Nat)) (hes : es.length ≤ 1024) (pb eb ecap b off cp : Nat) (f : Nat → Bool) (w : World) (hp : w.cell? ⟨pb, 1, none⟩ = some (.slice (some ⟨eb, 0, none⟩) es.length ecap)) (hel : ElsAt w eb es) (hne : eb ≠ b)
    (hrow : RowB w b off (es.length + 1) f) :
    Calls Try.prog 10 #[.pointer (some ⟨pb, 0, none⟩), .slice (some ⟨b, off, none⟩) (es.length + 1) cp] w fun e w' => e = .returned (.tuple #[]) ∧ RowB w' b off (es.length + 1) (pass es f es.length) ∧ Moved w w' b off (es.length + 1) := by
  have hbl := hrow.lt (by omega)
  go_enter Try.func10, Try.ntmps10
  go_wp2
  go_loopg [11] es.length (fun g i wr => ∃ k : Nat, g = es.length - k ∧ k ≤ es.length ∧ i = .int .i64 k ∧ RowB wr b off (es.length + 1) (pass es f k) ∧ Moved w wr b off (es.length + 1))
  case atStart => exact ⟨0, by simp, Nat.zero_le _, rfl, hrow, Moved.refl _ _ _ _⟩
  case round =>
    obtain ⟨k, hg, hk, rfl, R, M⟩ := hrel
    have HG : Hid (gk = es.length - k) := hg
    clear hg
    by_cases hlt : k < es.length
    · have hE := (hel.moved M hne).2 k hlt
      have hEb := (hel.moved M hne).1
      obtain ⟨s, hs⟩ : ∃ s, (es.getD k (0, 0)).1 = s := ⟨_, rfl⟩
      obtain ⟨c, hc⟩ : ∃ c, (es.getD k (0, 0)).2 = c := ⟨_, rfl⟩
      rw [hs, hc] at hE
      obtain ⟨e0, e1⟩ := hE
      obtain ⟨r0, _⟩ := R k (by omega)
      obtain ⟨_, f1⟩ := R (k + 1) (by omega)
      have hbr := R.lt (by omega)
      obtain ⟨v, hv⟩ : ∃ v, pass es f k k = v := ⟨_, rfl⟩
      rw [hv] at r0
      have HS : Hid ((es.getD k (0, 0)).1 = s) := hs
      have HV : Hid (pass es f k k = v) := hv
      clear hs hv hc
      go_wp2
      · have hvt : v = true := by assumption
        have hst : 0 < s := by assumption
        go_roundg (es.length - (k + 1))
        case measure => rw [HG.out]; omega
        case rel =>
          refine ⟨k + 1, rfl, by omega, by go_num, ?_, ?_⟩
          · rw [pass_yes HS.out (HV.out.trans hvt) hst]; exact (R.set (k + 1) true).alloc _
          · exact (M.set (k + 1) (by omega) _).alloc _
      · have hst : ¬ 0 < s := by assumption
        go_roundg (es.length - (k + 1))
        case measure => rw [HG.out]; omega
        case rel =>
          refine ⟨k + 1, rfl, by omega, by go_num, ?_, ?_⟩
          · rw [pass_no HS.out (fun h => hst h.2)]; exact R.alloc _
          · exact M.alloc _
      · have hvt : ¬ v = true := by assumption
        go_roundg (es.length - (k + 1))
        case measure => rw [HG.out]; omega
        case rel =>
          refine ⟨k + 1, rfl, by omega, by go_num, ?_, ?_⟩
          · rw [pass_no HS.out (fun h => hvt (HV.out.symm.trans h.1))]; exact R.alloc _
          · exact M.alloc _
    · have e : k = es.length := by omega
      have E : Hid (k = es.length) := e
      clear e
      go_wp2
      go_end0
      refine ⟨rfl, ?_, M⟩
      rw [E.out] at R; exact R
end Go.Proofs.Qxb6627012a
