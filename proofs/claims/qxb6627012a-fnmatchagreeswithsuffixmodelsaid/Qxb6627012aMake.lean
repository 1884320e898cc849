/-
  THE GLOB SEAT: 'ZZnewPattern' and 'makePattern' walked. By an AI agent.
-/
import Derived.Test.Qxb6627012aPass
namespace Go.Proofs.Qxb6627012a
open Go.RowKit Plain
set_option linter.unusedVariables false
set_option linter.unusedSimpArgs false

/-- A pattern as it lies in memory. -/
structure PatAt (w : World) (pb eb cap : Nat) (t pre : ByteArray) (lit isP : Bool) : Prop where
  lt : pb < w.heap.size
  c0 : w.cell? ⟨pb, 0, none⟩ = some (.string t)
  c1 : w.cell? ⟨pb, 1, none⟩ = some (.slice (some ⟨eb, 0, none⟩) (els (bs t)).length cap)
  c2 : w.cell? ⟨pb, 2, none⟩ = some (.bool lit)
  c3 : w.cell? ⟨pb, 3, none⟩ = some (.bool isP)
  c4 : w.cell? ⟨pb, 4, none⟩ = some (.string pre)
  el : ElsAt w eb (els (bs t))

theorem elsAt_of {w : World} {base eb cap : Nat} {es : List (Nat × Nat)} (h : w.ownsRow base 34 2 (.slice (some ⟨eb, 0, none⟩) es.length cap) es.length (elCells es)) : ElsAt w eb es := by
  refine ⟨(h.lt eb rfl).2, fun j hj => ?_⟩
  have h0 := h.cellAt (j * 2) (by omega)
  have h1 := h.cellAt (j * 2 + 1) (by omega)
  have hc := elCells_at es j hj
  rw [Nat.mul_comm j 2] at h0 h1 ⊢
  exact ⟨h0.trans hc.1, h1.trans hc.2⟩
theorem ElsAt.alloc {w : World} {eb : Nat} {es : List (Nat × Nat)} (h : ElsAt w eb es) (o : Obj) : ElsAt (w.alloc o) eb es :=
  ⟨by have := h.1; simp; omega, fun j hj => ⟨(World.cell?_alloc_past o eb _ h.1).trans (h.2 j hj).1, (World.cell?_alloc_past o eb _ h.1).trans (h.2 j hj).2⟩⟩

theorem new_any (t pre : ByteArray) (lit isP : Bool) (w : World) (ht : t.size ≤ 1024) :
    Calls Try.prog 8 #[.string t, .bool lit, .bool isP, .string pre] w fun e w' => ∃ pb eb, e = .returned (.pointer (some ⟨pb, 0, none⟩)) ∧ PatAt w' pb eb t.size t pre lit isP ∧ Below w.heap.size w w' := by
  go_enter Try.func8, Try.ntmps8
  go_wp2_with fail
  refine (elements_any t _ ht).mono ?_
  rintro e w1 ⟨rfl, hown, hb⟩
  have hE := elsAt_of hown
  have hbs := hb.size
  clear hown
  go_wp2
  go_ret
  refine ⟨w1.heap.size, w.heap.size, rfl, ?_, hb.alloc hbs _⟩
  exact ⟨by simp, by simp, by simp, by simp, by simp, by simp, hE.alloc _⟩

/-! ### 'makePattern' -/
theorem stars_take (t : ByteArray) (k : Nat) (h : k < t.size) : stars ((bs t).take (k + 1)) = stars ((bs t).take k) + (if t[k].toNat = 42 then 1 else 0) := by
  rw [bs_take t k h]
  unfold stars
  rw [List.filter_append]
  by_cases e : t[k].toNat = 42 <;> simp [e]
theorem stars_le (l : List Nat) : stars l ≤ l.length := List.length_filter_le _ _
theorem stars_app (a b : List Nat) : stars (a ++ b) = stars a + stars b := by simp [stars]
/-- A text that ends in two stars. -/
theorem ends_two (t : ByteArray) (h2 : 2 ≤ t.size) (a : t[t.size - 1].toNat = 42) (b : t[t.size - 2].toNat = 42) : bs t = bs (t.extract 0 (t.size - 2)) ++ [42, 42] := by
  have e1 := bs_drop t (t.size - 2) (by omega)
  have e2 := bs_drop t (t.size - 2 + 1) (by omega)
  have e3 : (bs t).drop (t.size - 2 + 1 + 1) = [] := bs_end t _ (by omega)
  have a' : t[t.size - 2 + 1].toNat = 42 := by
    have : t.size - 2 + 1 = t.size - 1 := by omega
    simp only [this]; exact a
  rw [e2, e3, a', b] at e1
  rw [bs_extract]
  simp only [List.drop_zero, Nat.sub_zero]
  rw [← e1, List.take_append_drop]

set_option maxHeartbeats 1000000 in
theorem make_any (t : ByteArray) (w : World) (ht : t.size ≤ 1024) :
    Calls Try.prog 5 #[.string t] w fun e w' => ∃ (pb eb : Nat) (pre : ByteArray) (isP : Bool), e = .returned (.pointer (some ⟨pb, 0, none⟩)) ∧ PatAt w' pb eb t.size t pre (decide (stars (bs t) = 0)) isP ∧
      (isP = true → bs t = bs pre ++ [42, 42] ∧ stars (bs pre) = 0) ∧ pre.size ≤ 1024 ∧ Below w.heap.size w w' := by
  go_enter Try.func5, Try.ntmps5
  go_wp2
  go_loopg [3, 4] t.size (fun g n i wr => ∃ k : Nat, g = t.size - k ∧ k ≤ t.size ∧ i = .int .i64 k ∧ n = .int .i64 (stars ((bs t).take k)) ∧ wr = w)
  case atStart => exact ⟨0, by simp, Nat.zero_le _, rfl, rfl, rfl⟩
  case round =>
    obtain ⟨k, hg, hk, rfl, rfl, rfl⟩ := hrel
    have HG : Hid (gk = t.size - k) := hg
    clear hg
    by_cases hlt : k < t.size
    · have hst := stars_take t k hlt
      have HS : Hid (stars ((bs t).take (k + 1)) = stars ((bs t).take k) + (if t[k].toNat = 42 then 1 else 0)) := hst
      have hle : stars ((bs t).take k) ≤ 1024 := by have := stars_le ((bs t).take k); simp [bs_len] at this; omega
      clear hst
      obtain ⟨q, hq⟩ : ∃ q, stars ((bs t).take k) = q := ⟨_, rfl⟩
      rw [hq] at HS hle ⊢
      clear hq
      by_cases hc : t[k].toNat = 42
      all_goals
        go_wp2
        go_roundg (t.size - (k + 1))
        case measure => rw [HG.out]; omega
        case rel => exact ⟨k + 1, rfl, by omega, by go_num, by rw [HS.out]; simp [hc], rfl⟩
    · have hst : (bs t).take k = bs t := List.take_of_length_le (by rw [bs_len]; omega)
      rw [hst]
      clear hst
      have hle : stars (bs t) ≤ t.size := by have := stars_le (bs t); rw [bs_len] at this; omega
      obtain ⟨q, hq⟩ : ∃ q, stars (bs t) = q := ⟨_, rfl⟩
      rw [hq] at hle ⊢
      have HQ : Hid (stars (bs t) = q) := hq
      clear hq
      have HL : Hid (((q : Int) == 0) = decide (stars (bs t) = 0)) := by
        show ((q : Int) == 0) = decide (stars (bs t) = 0)
        rw [HQ.out, Bool.eq_iff_iff]; simp
      by_cases h2 : q = 2
      · have hs2 : 2 ≤ t.size := by omega
        have HL2 : Hid (false = decide (stars (bs t) = 0)) := by
          show false = decide (stars (bs t) = 0)
          rw [HQ.out, h2]; rfl
        clear HL
        by_cases hx : t[t.size - 1].toNat = 42 ∧ t[t.size - 2].toNat = 42
        · obtain ⟨hx1, hx2⟩ := hx
          have HE : Hid (bs t = bs (t.extract 0 (t.size - 2)) ++ [42, 42]) := ends_two t hs2 hx1 hx2
          have HF : Hid (stars (bs (t.extract 0 (t.size - 2))) = 0) := by
            show stars (bs (t.extract 0 (t.size - 2))) = 0
            have h := HQ.out
            rw [HE.out, stars_app, h2] at h
            have : stars [42, 42] = 2 := rfl
            omega
          go_wp2_with fail
          refine (new_any _ _ _ _ _ ht).mono ?_
          rintro e w1 ⟨pb, eb, rfl, hP, hb⟩
          have HP : Hid (PatAt w1 pb eb t.size t (t.extract 0 (t.size - 2)) (decide (stars (bs t) = 0)) true) := by rw [HL2.out] at hP; exact hP
          clear hP
          go_wp2
          go_ret
          exact ⟨pb, eb, _, true, rfl, HP.out, fun _ => ⟨HE.out, HF.out⟩, by simp; omega, hb⟩
        · by_cases hx1 : t[t.size - 1].toNat = 42
          · have hx2 : ¬ t[t.size - 2].toNat = 42 := fun h => hx ⟨hx1, h⟩
            clear hx
            go_wp2_with fail
            refine (new_any _ _ _ _ _ ht).mono ?_
            rintro e w1 ⟨pb, eb, rfl, hP, hb⟩
            have HP : Hid (PatAt w1 pb eb t.size t { data := #[] } (decide (stars (bs t) = 0)) false) := by rw [← HL2.out]; exact hP
            clear hP
            go_wp2
            go_ret
            exact ⟨pb, eb, _, false, rfl, HP.out, fun h => by (cases h), by decide, hb⟩
          · clear hx
            go_wp2_with fail
            refine (new_any _ _ _ _ _ ht).mono ?_
            rintro e w1 ⟨pb, eb, rfl, hP, hb⟩
            have HP : Hid (PatAt w1 pb eb t.size t { data := #[] } (decide (stars (bs t) = 0)) false) := by rw [← HL2.out]; exact hP
            clear hP
            go_wp2
            go_ret
            exact ⟨pb, eb, _, false, rfl, HP.out, fun h => by (cases h), by decide, hb⟩
      · go_wp2_with fail
        refine (new_any _ _ _ _ _ ht).mono ?_
        rintro e w1 ⟨pb, eb, rfl, hP, hb⟩
        have HP : Hid (PatAt w1 pb eb t.size t { data := #[] } (decide (stars (bs t) = 0)) false) := by rw [HL.out] at hP; exact hP
        clear hP
        go_wp2
        go_ret
        exact ⟨pb, eb, _, false, rfl, HP.out, fun h => by (cases h), by decide, hb⟩
end Go.Proofs.Qxb6627012a
