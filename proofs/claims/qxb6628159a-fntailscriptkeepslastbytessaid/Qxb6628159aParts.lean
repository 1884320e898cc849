/-
  THE TAIL SEAT: bytes in memory, what the call owns, what a write leaves alone; the append of a Tail as one law. By an AI agent.
-/
import Derived.Test.Qxb6628159aRows
import Derived.WalkKit
import Derived.ProofKit
import Derived.Below
import Derived.OneCell
import Derived.ArgAppend
import Derived.Laws.AppendOwnNone
import Derived.Deep.OwnRows
import Derived.OwnWalk
namespace Go.Proofs.Qxb6628159a
open Go.RowKit
set_option linter.unusedVariables false
set_option linter.unusedSimpArgs false

theorem ret_bool {a b : Bool} (h : a = b) : Ending.returned (.bool a) = .returned (.bool b) := by rw [h]
theorem info5 : (Try.prog.info? 5).map (fun i => (i.zero, i.size, i.bytes)) = some (some (.int .u8 0), 1, 1) := by kernel_rfl

/-- Bytes as cells. -/
def bC (xs : List Int) : List Value := xs.map (Value.int .u8)
theorem bC_len (xs : List Int) : (bC xs).length = xs.length := by simp [bC]
theorem bC_app (xs ys : List Int) : bC (xs ++ ys) = bC xs ++ bC ys := by simp [bC]
theorem bC_get (xs : List Int) (i : Nat) (h : i < xs.length) : (bC xs)[i]? = some (.int .u8 (xs.getD i 0)) := by simp [bC, h]
theorem bC_one (xs : List Int) : ∀ u ∈ bC xs, u.oneCell' = true := ints_oneCell .u8 xs

/-- The bytes that a slice leads to, where it leads to any. -/
def Cells (w : World) (a : Option Addr) (xs : List Int) : Prop := xs ≠ [] → ∃ b off, a = some ⟨b, off, none⟩ ∧ ∀ i, i < xs.length → w.cell? ⟨b, off + i, none⟩ = some (.int .u8 (xs.getD i 0))
theorem Cells.nil (w : World) (a : Option Addr) : Cells w a [] := fun h => absurd rfl h
theorem Cells.below {w w' : World} {B : Nat} {a : Option Addr} {xs : List Int} (h : Cells w a xs) (hb : Below B w w') (hB : w.heap.size ≤ B) : Cells w' a xs := by
  intro hne
  obtain ⟨b, off, rfl, hc⟩ := h hne
  refine ⟨b, off, rfl, fun i hi => ?_⟩
  have := World.block_lt_of_cell? w _ (hc i hi)
  exact (hb.cell (p := ⟨b, off + i, none⟩) (by simp at this ⊢; omega)).trans (hc i hi)
theorem Cells.news {w : World} {ad : Addr} {xs : List Int} (h : Cells w (some ad) xs) : ∀ j u, (bC xs)[j]? = some u → w.cell? (ad.add j) = some u := by
  intro j u hu
  have hj : j < xs.length := by
    have := (List.getElem?_eq_some_iff.1 hu).1
    rwa [bC_len] at this
  obtain ⟨b, off, e, hc⟩ := h (by intro e; subst e; simp at hj)
  injection e with e
  subst e
  rw [Addr.add_lit, hc j hj, ← bC_get xs j hj]; exact hu

/-! ### what the call owns -/
theorem own_shape {w : World} {base n : Nat} {v : Value} {cs : List Value} (h : w.ownsRow base 5 1 v n cs) : ∃ a c, v = .slice a n c ∧ (a = none → n = 0 ∧ c = 0) ∧ (∀ ad, a = some ad → ∃ g, ad = ⟨g, 0, none⟩ ∧ base ≤ g ∧ g < w.heap.size) ∧ n ≤ c ∧ c ≤ maxLen := by
  rcases h.2 with ⟨rfl, rfl⟩ | ⟨g, cap, cur, rfl, hb, hg, hn, hm, _⟩
  · exact ⟨none, 0, rfl, fun _ => ⟨rfl, rfl⟩, (fun ad e => by cases e), Nat.le_refl _, Nat.zero_le _⟩
  · exact ⟨some ⟨g, 0, none⟩, cap, rfl, fun e => by (cases e), fun ad e => ⟨g, by injection e with e; exact e.symm, hb, (Array.getElem?_eq_some_iff.1 hg).1⟩, hn, hm⟩
theorem own_cells {w : World} {base c : Nat} {a : Option Addr} {xs : List Int} (h : w.ownsRow base 5 1 (.slice a xs.length c) xs.length (bC xs)) : Cells w a xs := by
  intro hne
  rcases h.2 with ⟨e, h0⟩ | ⟨g, cap, cur, e, _⟩
  · exact absurd (List.eq_nil_of_length_eq_zero h0) hne
  · injection e with e1 e2 e3
    subst e1; subst e3
    refine ⟨g, 0, rfl, fun i hi => ?_⟩
    rw [Nat.zero_add, h.cellAt i (by omega), bC_get xs i hi]
theorem own_rebase {w : World} {base base' n : Nat} {v : Value} {cs : List Value} (h : w.ownsRow base 5 1 v n cs) (hb : base' ≤ base) : w.ownsRow base' 5 1 v n cs := by
  refine ⟨h.1, ?_⟩
  rcases h.2 with h | ⟨g, cap, cur, e, hg, r⟩
  · exact .inl h
  · exact .inr ⟨g, cap, cur, e, by omega, r⟩
theorem own_row {w : World} {base g n c : Nat} {cs : List Value} (h : w.ownsRow base 5 1 (.slice (some ⟨g, 0, none⟩) n c) n cs) : ∃ f, w.rowIs g 5 c f ∧ n ≤ c ∧ c ≤ maxLen ∧ base ≤ g ∧ ∀ i, i < n → cs[i]? = some (f i) := by
  rcases h.2 with ⟨e, _⟩ | ⟨g', cap, cur, e, hb, hg, hn, hm, hs, ht⟩
  · cases e
  · injection e with e1 e2 e3
    injection e1 with e1
    injection e1 with e1
    subst e1; subst e3
    refine ⟨fun i => cur.getD i undef, ⟨cur, hg, by omega, fun i hi => ?_⟩, hn, hm, hb, fun i hi => ?_⟩
    · rw [Array.getElem?_eq_getElem (by omega)]; simp [Array.getD, show i < cur.size by omega]
    · rw [← ht]
      simp only [Nat.mul_one]
      rw [List.getElem?_take_of_lt hi]
      simp [Array.getD, show i < cur.size by omega]
theorem own_of_row {w : World} {base g n c : Nat} {cs : List Value} {f : Nat → Value} (h : w.rowIs g 5 c f) (hn : n ≤ c) (hm : c ≤ maxLen) (hb : base ≤ g) (hl : cs.length = n) (hf : ∀ i, i < n → cs[i]? = some (f i)) : w.ownsRow base 5 1 (.slice (some ⟨g, 0, none⟩) n c) n cs := by
  obtain ⟨cur, hg, hs, hc⟩ := h
  refine ⟨by omega, .inr ⟨g, c, cur, rfl, hb, hg, hn, hm, by omega, ?_⟩⟩
  apply List.ext_getElem?
  intro i
  by_cases hi : i < n
  · rw [List.getElem?_take_of_lt (by omega), hf i hi]
    have := hc i (by omega)
    simpa using this
  · rw [List.getElem?_eq_none (by simp; omega), List.getElem?_eq_none (by omega)]

/-! ### what a write leaves alone -/
/-- Of what lay in w only block tb and block ob may have turned. -/
structure Wrote (w w' : World) (tb : Nat) (ob : Option Nat) : Prop where
  os : w'.os = w.os
  tape : w'.tape = w.tape
  output : w'.output = w.output
  size : w.heap.size ≤ w'.heap.size
  block : ∀ k, k < w.heap.size → k ≠ tb → some k ≠ ob → w'.heap[k]? = w.heap[k]?
theorem Wrote.below {w w' : World} {tb B : Nat} {ob : Option Nat} (h : Wrote w w' tb ob) (hB : B ≤ w.heap.size) (ht : B ≤ tb) (ho : ∀ k, ob = some k → B ≤ k) : Below B w w' :=
  ⟨h.os, h.tape, h.output, h.size, fun k hk => h.block k (by omega) (by omega) (fun e => by have := ho k e.symm; omega)⟩
theorem own_below {w w' : World} {base B n : Nat} {v : Value} {cs : List Value} (h : w.ownsRow base 5 1 v n cs) (hb : Below B w w') (hB : ∀ k, v.ownBlock = some k → k < B) : w'.ownsRow base 5 1 v n cs := by
  refine ⟨h.1, ?_⟩
  rcases h.2 with h | ⟨g, cap, cur, rfl, hg, hh, r⟩
  · exact .inl h
  · exact .inr ⟨g, cap, cur, rfl, hg, by rw [hb.block g (hB g rfl)]; exact hh, r⟩
theorem own_wrote {w w' : World} {base tb n : Nat} {ob : Option Nat} {v : Value} {cs : List Value} (h : w.ownsRow base 5 1 v n cs) (hw : Wrote w w' tb ob) (hne : ∀ k, v.ownBlock = some k → k ≠ tb ∧ some k ≠ ob) : w'.ownsRow base 5 1 v n cs := by
  refine ⟨h.1, ?_⟩
  rcases h.2 with h | ⟨g, cap, cur, rfl, hg, hh, r⟩
  · exact .inl h
  · exact .inr ⟨g, cap, cur, rfl, hg, by rw [hw.block g (Array.getElem?_eq_some_iff.1 hh).1 (hne g rfl).1 (hne g rfl).2]; exact hh, r⟩

/-- A Tail in memory: its one field, and the bytes that it keeps. -/
structure TailAt (w : World) (tb base : Nat) (a : Option Addr) (c : Nat) (xs : List Int) : Prop where
  block : w.heap[tb]? = some (.cells #[.slice a xs.length c] 36 (0, 0))
  own : w.ownsRow base 5 1 (.slice a xs.length c) xs.length (bC xs)
theorem TailAt.ne {w : World} {tb base c : Nat} {a : Option Addr} {xs : List Int} (h : TailAt w tb base a c xs) : some tb ≠ (Value.slice a xs.length c).ownBlock := by
  intro e
  rcases h.own.2 with ⟨e1, _⟩ | ⟨g, cap, cur, e1, hg, hh, r⟩
  · rw [e1] at e; cases e
  · rw [e1] at e
    simp [Value.ownBlock] at e
    subst e
    have := h.block
    rw [hh] at this
    simp at this

/-! ### the append of a Tail: 'append(buf, p...)', buf the call's own, p whatever -/
theorem wpList_append_tail (w : World) {ops : Array Oper} {rest : List Oper} {o : Oper} {a : Act} {Q : Exit → Act → World → Prop} (hg : o.guard = none) (s x : Operand) (hop : o.op = Op.call { callee := Callee.builtin Builtin.append, args := #[s, x], argTypes := #[22, 22] })
    (base : Nat) (hbase : base ≤ w.heap.size) (ao : Option Addr) (c : Nat) (xs : List Int) (hs : a.eval s = .slice ao xs.length c) (hown : w.ownsRow base 5 1 (.slice ao xs.length c) xs.length (bC xs))
    (ap : Option Addr) (cp : Nat) (ys : List Int) (hx : a.eval x = .slice ap ys.length cp) (hy : Cells w ap ys) (hnil : ap = none → ys = [] ∧ cp = 0) (hlen : (xs ++ ys).length ≤ 4194304)
    (hK : ∀ ao' c' w', w'.ownsRow base 5 1 (.slice ao' (xs ++ ys).length c') (xs ++ ys).length (bC (xs ++ ys)) → w.grownBy w' (Value.slice ao xs.length c).ownBlock → (ao' = ao ∨ ∃ g, ao' = some ⟨g, 0, none⟩ ∧ w.heap.size ≤ g) →
      wpList Try.prog ops Q rest (a.put o.dst (.slice ao' (xs ++ ys).length c')) w') : wpList Try.prog ops Q (o :: rest) a w := by
  obtain ⟨i0, hi, hz0, hz1, hz2⟩ := info_parts info5
  have hL : (xs ++ ys).length = xs.length + ys.length := List.length_append
  cases ap with
  | none =>
    obtain ⟨rfl, rfl⟩ := hnil rfl
    refine wpList_append_own_none hg s x 22 hop base 5 i0 1 Try.underlying22 hi _ _ _ hs hown hx ?_
    have := hK ao c w (by simpa using hown) (World.grownBy.refl _ _) (.inl rfl)
    simpa using this
  | some ad =>
    have grow : c < xs.length + ys.length → wpList Try.prog ops Q (o :: rest) a w := by
      intro hfull
      refine wpList_append_grows w hg s x 22 hop 5 i0 (.int .u8 0) 1 1 Try.underlying22 hi hz0 hz1 hz2 rfl (by decide) ao xs.length c (bC xs) hs ?_ (by simp [bC]) ?_ ad ys.length cp (bC ys) hx (by simp [bC]) hy.news (bC_one _) hfull (by unfold maxLen; omega) (by omega) ?_
      · intro e
        subst e
        rcases hown.2 with ⟨e, h0⟩ | ⟨g, cap, cur, e, _⟩
        · injection e with _ _ e; exact ⟨h0, e⟩
        · cases e
      · intro b e
        subst e
        exact (own_cells hown).news
      · intro v' w' ho hgr
        obtain ⟨a', c', rfl, hn0, hg', _, _⟩ := own_shape ho
        have ho2 := own_rebase ho hbase
        rw [← bC_app, ← hL] at ho2
        rw [← hL]
        refine hK a' c' w' ho2 ⟨hgr.os, hgr.tape, hgr.output, hgr.size, fun k hk _ => hgr.block k hk (by simp)⟩ (.inr ?_)
        cases a' with
        | none => have := (hn0 rfl).1; omega
        | some ad' =>
          obtain ⟨g, rfl, hgg, _⟩ := hg' ad' rfl
          exact ⟨g, rfl, hgg⟩
    by_cases hfit : xs.length + ys.length ≤ c
    · cases ao with
      | none =>
        have h0 : xs.length = 0 ∧ c = 0 := by
          rcases hown.2 with ⟨e, h0⟩ | ⟨g, cap, cur, e, _⟩
          · injection e with _ _ e; exact ⟨h0, e⟩
          · cases e
        have hx0 : xs = [] := List.eq_nil_of_length_eq_zero h0.1
        have hy0 : ys = [] := List.eq_nil_of_length_eq_zero (by omega)
        obtain ⟨hx1, hc0⟩ := h0
        subst hx0; subst hy0; subst hc0
        refine wpList_append_own (P := Try.prog) w hg s x 22 hop base 5 i0 (.int .u8 0) 1 1 Try.underlying22 hi hz0 hz1 hz2 rfl (by decide) (.slice none 0 0) 0 [] hs hown ad 0 cp [] hx rfl (by intro j u hj; simp at hj) (by intro u hu; cases hu) (by unfold maxLen; omega) (by omega) hbase ?_
        intro v' w' ho hgr hv
        have e := hv.2 ⟨rfl, rfl⟩
        subst e
        exact hK none 0 w' ho hgr (.inl rfl)
      | some ad' =>
        obtain ⟨a2, c2, e2, _, hsh, _, _⟩ := own_shape hown
        injection e2 with e3 _ e4
        subst e3; subst e4
        obtain ⟨g, rfl, hbg, _⟩ := hsh ad' rfl
        refine wpList_append_fits (P := Try.prog) w hg s x 22 hop base 5 i0 1 Try.underlying22 hi hz1 g xs.length c (bC xs) hs hown ad ys.length cp (bC ys) hx (by simp [bC]) hy.news (bC_one _) hfit ?_
        intro w' ho hgr
        rw [← bC_app, ← hL] at ho
        rw [← hL]
        exact hK _ c w' ho hgr (.inl rfl)
    · exact grow (by omega)
end Go.Proofs.Qxb6628159a
