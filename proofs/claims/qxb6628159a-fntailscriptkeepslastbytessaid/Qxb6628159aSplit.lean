/-
  THE TAIL SEAT: 'FnTailWriteSplitMatchesWhole' walked, within her bounds. By an AI agent.
-/
import Derived.Test.Qxb6628159aKeeps
namespace Go.Proofs.Qxb6628159a
open Go.RowKit
set_option linter.unusedVariables false
set_option linter.unusedSimpArgs false

theorem fits_any (a0 a1 : Option Addr) (n0 c0 n1 c1 : Nat) (k : Int) (w : World) (h0 : n0 ≤ 4096) (h1 : n1 ≤ 524288) :
    Calls Try.prog 5 #[.slice a0 n0 c0, .slice a1 n1 c1, .int .i64 k] w fun e w' => e = .returned (.bool true) ∧ w = w' := by
  go_enter Try.func5, Try.ntmps5
  go_wp2
  go_ret
  exact ⟨rfl, rfl⟩

theorem own_nil {w : World} {base c : Nat} {a : Option Addr} {xs : List Int} (h : w.ownsRow base 5 1 (.slice a xs.length c) xs.length (bC xs)) : a = none → xs = [] ∧ c = 0 := by
  intro e
  subst e
  rcases h.2 with ⟨e, h0⟩ | ⟨g, cap, cur, e, _⟩
  · injection e with _ _ e; exact ⟨List.eq_nil_of_length_eq_zero h0, e⟩
  · cases e
theorem own_cap {w : World} {base c : Nat} {a : Option Addr} {xs : List Int} (h : w.ownsRow base 5 1 (.slice a xs.length c) xs.length (bC xs)) : xs.length ≤ c := by
  obtain ⟨a2, c2, e2, _, _, hc, _⟩ := own_shape h
  injection e2 with _ _ e; omega
theorem own_zero {w : World} {base c : Nat} {a : Option Addr} {xs : List Int} (h : w.ownsRow base 5 1 (.slice a xs.length c) xs.length (bC xs)) : ∀ ad, a = some ad → ∃ g, ad = ⟨g, 0, none⟩ := by
  intro ad e
  obtain ⟨a2, c2, e2, _, hg, _, _⟩ := own_shape h
  injection e2 with e3 _ _
  obtain ⟨g, e4, _⟩ := hg ad (by rw [← e3]; exact e)
  exact ⟨g, e4⟩
theorem Cells.take {w : World} {a : Option Addr} {ys : List Int} (h : Cells w a ys) (k : Nat) : Cells w a (ys.take k) := by
  intro hne
  obtain ⟨b, off, rfl, hc⟩ := h (by intro e; subst e; simp at hne)
  refine ⟨b, off, rfl, fun i hi => ?_⟩
  rw [List.length_take] at hi
  rw [hc i (by omega)]
  have e : (ys.take k)[i]? = ys[i]? := List.getElem?_take_of_lt (by omega)
  simp [List.getD, e]
theorem Cells.drop {w : World} {a : Option Addr} {ys : List Int} {q : Nat} (h : Cells w a ys) (k : Nat) (hq : ys.length ≤ q) (hz : ∀ ad, a = some ad → ∃ g, ad = ⟨g, 0, none⟩) {ao : Option Addr} (hao : ∀ g, a = some ⟨g, 0, none⟩ → ¬ q = k → ao = some ⟨g, k, none⟩) : Cells w ao (ys.drop k) := by
  intro hne
  have hk : k < ys.length := by
    rcases Nat.lt_or_ge k ys.length with h1 | h1
    · exact h1
    · exact absurd (List.drop_eq_nil_of_le h1) hne
  obtain ⟨b, off, e, hc⟩ := h (by intro e; subst e; simp at hk)
  obtain ⟨g, e2⟩ := hz _ e
  injection e2 with e3 e4
  subst e3; subst e4
  refine ⟨b, k, hao b e (by omega), fun i hi => ?_⟩
  simp at hi
  have := hc (k + i) (by omega)
  rw [Nat.zero_add] at this
  rw [this]; simp [List.getD]
theorem TailAt.alloc {w : World} {tb base c : Nat} {a : Option Addr} {xs : List Int} (h : TailAt w tb base a c xs) (o : Obj) : TailAt (w.alloc o) tb base a c xs :=
  ⟨by rw [Below.heap_alloc _ _ _ (lt_of_block h.block)]; exact h.block, h.own.alloc o⟩
theorem TailAt.wrote {w w' : World} {tb base c tb' : Nat} {ob : Option Nat} {a : Option Addr} {xs : List Int} (h : TailAt w tb base a c xs) (hw : Wrote w w' tb' ob) (h1 : tb ≠ tb') (h2 : some tb ≠ ob) (h3 : ∀ k, (Value.slice a xs.length c).ownBlock = some k → k ≠ tb' ∧ some k ≠ ob) : TailAt w' tb base a c xs :=
  ⟨by rw [hw.block tb (lt_of_block h.block) h1 h2]; exact h.block, own_wrote h.own hw h3⟩
theorem TailAt.new {w : World} {base base' c : Nat} {a : Option Addr} {xs : List Int} (h : w.ownsRow base' 5 1 (.slice a xs.length c) xs.length (bC xs)) (hb : base ≤ base') : TailAt (w.alloc (.cells #[.slice a xs.length c] 36)) w.heap.size base a c xs :=
  ⟨heap_alloc_new w _, own_rebase (h.alloc _) hb⟩

set_option maxHeartbeats 1600000 in
set_option maxRecDepth 100000 in
theorem law_core (a0 a1 : Option Addr) (c0 c1 k : Nat) (xs ys : List Int) (w : World) (hx : Cells w a0 xs) (nx : a0 = none → xs = [] ∧ c0 = 0) (hy : Cells w a1 ys) (ny : a1 = none → ys = [] ∧ c1 = 0) (lx : xs.length ≤ 4096) (ly : ys.length ≤ 524288) (hk : k ≤ ys.length) :
    Calls Try.prog 3 #[.slice a0 xs.length c0, .slice a1 ys.length c1, .int .i64 k] w fun e w' => e = .returned (.bool true) ∧ Below w.heap.size w w' := by
  go_enter Try.func3, Try.ntmps3
  go_wp2_with fail
  refine (fits_any _ _ _ _ _ _ _ _ lx ly).mono ?_
  rintro e w' ⟨rfl, rfl⟩
  go_wp2_with fail
  refine (clone_any a0 c0 xs w hx nx (by omega)).mono ?_
  rintro e wA ⟨p1, q1, rfl, o1, bA⟩
  go_wp2_with fail
  refine (clone_any a0 c0 xs wA (hx.below bA (Nat.le_refl _)) nx (by omega)).mono ?_
  rintro e wB ⟨p2, q2, rfl, o2, bB⟩
  have bAB := bA.trans (bB.mono bA.size)
  go_wp2_with fail
  refine (clone_any a1 c1 ys wB (hy.below bAB (Nat.le_refl _)) ny (by omega)).mono ?_
  rintro e wC ⟨p3, q3, rfl, o3, bC3⟩
  have bAC := bAB.trans (bC3.mono bAB.size)
  have sA := bA.size
  have sB := bB.size
  have sC := bC3.size
  have l1 := o1.lt
  have l2 := o2.lt
  have l3 := o3.lt
  have o1C := own_below (own_below o1 bB (fun k h => (l1 k h).2)) bC3 (fun k h => by have := (l1 k h).2; omega)
  have o2C := own_below o2 bC3 (fun k h => (l2 k h).2)
  have T1D := TailAt.new (base := w.heap.size) o1C (Nat.le_refl _)
  have o2D := o2C.alloc (.cells #[.slice p1 xs.length q1] 36)
  have o3D := o3.alloc (.cells #[.slice p1 xs.length q1] 36)
  have bD := bAC.alloc bAC.size (.cells #[.slice p1 xs.length q1] 36)
  have sD : (wC.alloc (.cells #[.slice p1 xs.length q1] 36)).heap.size = wC.heap.size + 1 := by simp
  clear o1 o2 o3 bA bB bC3 bAB bAC o1C o2C
  go_wp2_with fail
  refine (new_any p1 xs.length q1 wC).mono ?_
  rintro e wD ⟨rfl, rfl⟩
  obtain ⟨wD, hwD⟩ : ∃ wD, wC.alloc (.cells #[.slice p1 xs.length q1] 36) = wD := ⟨_, rfl⟩
  rw [hwD] at T1D o2D o3D bD sD ⊢
  clear hwD
  go_wp2_with fail
  refine (write_any wC.heap.size w.heap.size p1 q1 xs p3 q3 ys wD T1D (by omega) (own_cells o3D) (own_nil o3D) (by rw [List.length_append]; omega)).mono ?_
  rintro e wE ⟨rfl, p1', q1', T1E, W1, A1⟩
  have sE := W1.size
  have l1' : ∀ k, (Value.slice p1' (last (xs ++ ys)).length q1').ownBlock = some k → (k < wA.heap.size ∨ wD.heap.size ≤ k) ∧ k < wE.heap.size := by
    intro k h
    refine ⟨?_, (T1E.own.lt k h).2⟩
    rcases A1 with e | ⟨g, e, hg⟩
    · subst e
      cases p1' with
      | none => cases h
      | some ad => exact .inl (l1 k h).2
    · subst e
      simp [Value.ownBlock] at h
      subst h; exact .inr hg
  have o2E := own_wrote o2D W1 (fun k h => ⟨by have := l2 k h; omega, fun e => by have := l2 k h; have := l1 k e.symm; omega⟩)
  have o3E := own_wrote o3D W1 (fun k h => ⟨by have := l3 k h; omega, fun e => by have := l3 k h; have := l1 k e.symm; omega⟩)
  have bE := bD.trans (W1.below (B := w.heap.size) (by omega) (by omega) (fun k e => (l1 k e).1))
  have T1F := T1E.alloc (.cells #[.slice p2 xs.length q2] 36)
  have T2F := TailAt.new (base := w.heap.size) o2E (by omega)
  have o3F := o3E.alloc (.cells #[.slice p2 xs.length q2] 36)
  have bF := bE.alloc bE.size (.cells #[.slice p2 xs.length q2] 36)
  have sF : (wE.alloc (.cells #[.slice p2 xs.length q2] 36)).heap.size = wE.heap.size + 1 := by simp
  clear T1D o2D o3D bD T1E W1 A1 o2E o3E bE
  go_wp2_with fail
  refine (new_any p2 xs.length q2 wE).mono ?_
  rintro e wF ⟨rfl, rfl⟩
  obtain ⟨wF, hwF⟩ : ∃ wF, wE.alloc (.cells #[.slice p2 xs.length q2] 36) = wF := ⟨_, rfl⟩
  rw [hwF] at T1F T2F o3F bF sF ⊢
  clear hwF
  have hq3 : ys.length ≤ q3 := own_cap o3F
  have hkq : k ≤ q3 := by omega
  have hkl : (ys.take k).length = k := by simp; omega
  have HKL : Hid ((ys.take k).length = k) := hkl
  clear hkl
  go_wp2_with fail
  have WR := write_any wE.heap.size w.heap.size p2 q2 xs p3 q3 (ys.take k) wF T2F (by omega) ((own_cells o3F).take k) (fun e => by obtain ⟨e1, e2⟩ := own_nil o3F e; exact ⟨by rw [e1]; simp, e2⟩) (by rw [List.length_append, HKL.out]; omega)
  rw [HKL.out] at WR
  refine Calls.mono WR ?_
  clear WR
  rintro e wG ⟨rfl, p2', q2', T2G, W2, A2⟩
  have sG := W2.size
  have T1G := T1F.wrote W2 (by omega) (fun e => by have := l2 _ e.symm; omega) (fun k h => ⟨by have := l1' k h; omega, fun e => by have := l2 k e.symm; have := l1' k h; omega⟩)
  have o3G := own_wrote o3F W2 (fun k h => ⟨by have := l3 k h; omega, fun e => by have := l3 k h; have := l2 k e.symm; omega⟩)
  have bG := bF.trans (W2.below (B := w.heap.size) (by omega) (by omega) (fun k e => by have := l2 k e; omega))
  have l2' : ∀ j, (Value.slice p2' (last (xs ++ ys.take k)).length q2').ownBlock = some j → (w.heap.size ≤ j) ∧ (j < wB.heap.size ∧ wA.heap.size ≤ j ∨ wF.heap.size ≤ j) := by
    intro j h
    refine ⟨(T2G.own.lt j h).1, ?_⟩
    rcases A2 with e | ⟨g, e, hg⟩
    · subst e
      cases p2' with
      | none => cases h
      | some ad => have := l2 j h; exact .inl ⟨this.2, this.1⟩
    · subst e
      simp [Value.ownBlock] at h
      subst h; exact .inr hg
  have hkd : (ys.drop k).length = ys.length - k := by simp
  have HKD : Hid ((ys.drop k).length = ys.length - k) := hkd
  have LA : Hid (last (last (xs ++ ys.take k) ++ ys.drop k) = last (xs ++ ys)) := by
    show last (last (xs ++ ys.take k) ++ ys.drop k) = last (xs ++ ys)
    rw [last_app, List.append_assoc, List.take_append_drop]
  have WRD : Hid (∀ (ao : Option Addr) (cp : Nat), Cells wG ao (ys.drop k) → (ao = none → ys.drop k = [] ∧ cp = 0) →
      Calls Try.prog 8 #[.pointer (some ⟨wE.heap.size, 0, none⟩), .slice ao (ys.length - k) cp] wG fun e w' => e = .returned (.tuple #[.int .i64 ((ys.length - k : Nat) : Int), .nilIface]) ∧
        ∃ a' c', TailAt w' wE.heap.size w.heap.size a' c' (last (xs ++ ys)) ∧ TailAt w' wC.heap.size w.heap.size p1' q1' (last (xs ++ ys)) ∧ Below w.heap.size w w') := by
    intro ao cp h1 h2
    have WR := write_any wE.heap.size w.heap.size p2' q2' (last (xs ++ ys.take k)) ao cp (ys.drop k) wG T2G (by omega) h1 h2 (by rw [List.length_append, last_len, HKD.out, List.length_append, HKL.out]; omega)
    rw [HKD.out, LA.out] at WR
    refine WR.mono ?_
    rintro e wH ⟨rfl, a', c', T2H, W3, A3⟩
    refine ⟨rfl, a', c', T2H, ?_, ?_⟩
    · exact T1G.wrote W3 (by omega) (fun e => by have := l2' _ e.symm; omega) (fun j h => ⟨by have := l1' j h; omega, fun e => by have := l2' j e.symm; have := l1' j h; omega⟩)
    · exact bG.trans (W3.below (B := w.heap.size) (by omega) (by omega) (fun j e => (l2' j e).1))
  have OC : Hid _ := own_cells o3G
  have ON : Hid _ := own_nil o3G
  have OZ : Hid _ := own_zero o3G
  have HX : Hid _ := hx
  have HY : Hid _ := hy
  have HLN : Hid ((xs ++ ys).length ≤ 4194304) := by
    show (xs ++ ys).length ≤ 4194304
    rw [List.length_append]; omega
  clear T1F T2F o3F bF T2G W2 A2 T1G o3G bG l1 l2 l3 l1' l2' hx hy nx ny
  by_cases hqk : q3 = k
  · subst hqk
    have hdn : ys.drop q3 = [] := List.drop_eq_nil_of_le hq3
    have HDN : Hid (ys.drop q3 = []) := hdn
    clear hdn
    go_wp2_with fail
    have WR := WRD.out p3 0 (by rw [HDN.out]; exact Cells.nil _ _) (fun _ => ⟨HDN.out, rfl⟩)
    rw [show ys.length - q3 = 0 by omega] at WR
    refine Calls.mono WR ?_
    clear WR
    rintro e wH ⟨rfl, p4, q4, T2H, T1H, bH⟩
    have t1 := cell_of_one T1H.block
    have t2 := cell_of_one T2H.block
    have KE : Hid _ := keeps_any p1' a0 a1 q1' c0 c1 xs ys wH (own_cells T1H.own) (Cells.below HX.out bH (Nat.le_refl _)) (Cells.below HY.out bH (Nat.le_refl _)) HLN.out
    have KP : Hid _ := keeps_any p4 a0 a1 q4 c0 c1 xs ys wH (own_cells T2H.own) (Cells.below HX.out bH (Nat.le_refl _)) (Cells.below HY.out bH (Nat.le_refl _)) HLN.out
    clear T1H T2H WRD OC ON OZ HX HY LA
    go_wp2_with fail
    refine (buf_any _ _ _ _ _ t1).mono ?_
    rintro e w' ⟨rfl, rfl⟩
    go_wp2_with fail
    refine Calls.mono KE.out ?_
    rintro e w' ⟨rfl, rfl⟩
    go_wp2_with fail
    refine (buf_any _ _ _ _ _ t2).mono ?_
    rintro e w' ⟨rfl, rfl⟩
    go_wp2_with fail
    refine Calls.mono KP.out ?_
    rintro e w' ⟨rfl, rfl⟩
    go_wp2
    go_ret
    exact ⟨rfl, bH⟩
  · go_wp2_with fail
    have WR := WRD.out (Option.map (fun x => x.add k) p3) (q3 - k) (Cells.drop OC.out k hq3 OZ.out (fun g e _ => by rw [e]; show some ((⟨g, 0, none⟩ : Addr).add k) = _; rw [Addr.add_lit, Nat.zero_add])) (fun e => by
      cases p3 with
      | none => obtain ⟨e1, e2⟩ := ON.out rfl; exact ⟨by rw [e1]; simp, by omega⟩
      | some ad => cases e)
    refine Calls.mono WR ?_
    clear WR
    rintro e wH ⟨rfl, p4, q4, T2H, T1H, bH⟩
    have t1 := cell_of_one T1H.block
    have t2 := cell_of_one T2H.block
    have KE : Hid _ := keeps_any p1' a0 a1 q1' c0 c1 xs ys wH (own_cells T1H.own) (Cells.below HX.out bH (Nat.le_refl _)) (Cells.below HY.out bH (Nat.le_refl _)) HLN.out
    have KP : Hid _ := keeps_any p4 a0 a1 q4 c0 c1 xs ys wH (own_cells T2H.own) (Cells.below HX.out bH (Nat.le_refl _)) (Cells.below HY.out bH (Nat.le_refl _)) HLN.out
    clear T1H T2H WRD OC ON OZ HX HY LA
    go_wp2_with fail
    refine (buf_any _ _ _ _ _ t1).mono ?_
    rintro e w' ⟨rfl, rfl⟩
    go_wp2_with fail
    refine Calls.mono KE.out ?_
    rintro e w' ⟨rfl, rfl⟩
    go_wp2_with fail
    refine (buf_any _ _ _ _ _ t2).mono ?_
    rintro e w' ⟨rfl, rfl⟩
    go_wp2_with fail
    refine Calls.mono KP.out ?_
    rintro e w' ⟨rfl, rfl⟩
    go_wp2
    go_ret
    exact ⟨rfl, bH⟩
end Go.Proofs.Qxb6628159a
