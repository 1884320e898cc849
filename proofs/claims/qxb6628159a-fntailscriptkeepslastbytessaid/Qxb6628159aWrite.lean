/-
  THE TAIL SEAT: '(*Tail).Write' walked. By an AI agent.
-/
import Derived.Test.Qxb6628159aClone
import Derived.Deep.RegionLaw
import Derived.Deep.Cut
import Derived.Laws.IdiomCopy
namespace Go.Proofs.Qxb6628159a
open Go.RowKit
set_option linter.unusedVariables false
set_option linter.unusedSimpArgs false

/-- How many bytes a Tail keeps. -/
def keep : Nat := 4096
theorem keep_eq : keep = 4096 := rfl
/-- The last 4096 bytes. -/
def last (zs : List Int) : List Int := zs.drop (zs.length - keep)
theorem last_len (zs : List Int) : (last zs).length = zs.length - (zs.length - keep) := by simp [last]
theorem last_short {zs : List Int} (h : zs.length ≤ keep) : last zs = zs := by unfold last; rw [Nat.sub_eq_zero_of_le h]; rfl
theorem last_long {zs : List Int} (h : keep < zs.length) : (last zs).length = keep := by rw [last_len]; omega
/-- Dropping early and dropping late come to the same. -/
theorem last_app (xs ys : List Int) : last (last xs ++ ys) = last (xs ++ ys) := by
  unfold last
  generalize keep = K
  rw [List.length_append, List.length_append, List.length_drop, List.drop_append, List.drop_append, List.drop_drop, List.length_drop]
  have e1 : xs.length - K + (xs.length - (xs.length - K) + ys.length - K) = xs.length + ys.length - K := by omega
  have e2 : xs.length - (xs.length - K) + ys.length - K - (xs.length - (xs.length - K)) = xs.length + ys.length - K - xs.length := by omega
  rw [e1, e2]

theorem rowIs_setCells {t : TypeId} {g n : Nat} : ∀ (vs : List Value) (o : Nat) (w : World) (f : Nat → Value), w.rowIs g t n f → (w.setCells g o vs).rowIs g t n (fun j => if o ≤ j ∧ j < o + vs.length then vs.getD (j - o) undef else f j)
  | [], o, w, f, h => by
    refine World.rowIs.congr h (fun i hi => ?_)
    rw [if_neg (by simp only [List.length_nil]; omega)]
  | v :: r, o, w, f, h => by
    have ih := rowIs_setCells r (o + 1) (w.setCell ⟨g, o, none⟩ v) _ (h.set o v)
    refine World.rowIs.congr ih (fun i hi => ?_)
    by_cases e : i = o
    · subst e
      rw [if_neg (by omega), if_pos rfl, if_pos (by simp only [List.length_cons]; omega)]
      simp
    · by_cases h1 : o + 1 ≤ i ∧ i < o + 1 + r.length
      · rw [if_pos h1, if_pos (by simp only [List.length_cons]; omega)]
        have e2 : i - o = (i - (o + 1)) + 1 := by omega
        rw [e2]; simp
      · rw [if_neg h1, if_neg e, if_neg (by simp only [List.length_cons]; omega)]
theorem block_setCells {g : Nat} : ∀ (vs : List Value) (o : Nat) (w : World) (k : Nat), k ≠ g → (w.setCells g o vs).heap[k]? = w.heap[k]?
  | [], _, _, _, _ => rfl
  | v :: r, o, w, k, h => by
    rw [World.setCells, block_setCells r (o + 1) _ k h]
    exact Below.heap_setCell _ _ _ _ (by simpa using h)
theorem size_setCells (b : Nat) : ∀ (vs : List Value) (o : Nat) (w : World), (w.setCells b o vs).heap.size = w.heap.size
  | [], _, _ => rfl
  | v :: r, o, w => by rw [World.setCells, size_setCells b r]; simp
theorem same_setCells (b : Nat) : ∀ (vs : List Value) (o : Nat) (w : World), (w.setCells b o vs).os = w.os ∧ (w.setCells b o vs).tape = w.tape ∧ (w.setCells b o vs).output = w.output
  | [], _, _ => ⟨rfl, rfl, rfl⟩
  | v :: r, o, w => by rw [World.setCells]; exact same_setCells b r _ _

theorem same_setCell (w : World) (a : Addr) (v : Value) : (w.setCell a v).os = w.os ∧ (w.setCell a v).tape = w.tape ∧ (w.setCell a v).output = w.output := ⟨rfl, rfl, rfl⟩

/-- Behind the first append and store: the Tail keeps all. -/
theorem tail_stored {w w1 : World} {tb base c c' : Nat} {a a' : Option Addr} {xs zs : List Int} (hT : TailAt w tb base a c xs) (hg : w.grownBy w1 (Value.slice a xs.length c).ownBlock) (ho : w1.ownsRow base 5 1 (.slice a' zs.length c') zs.length (bC zs))
    (ha : a' = a ∨ ∃ g, a' = some ⟨g, 0, none⟩ ∧ w.heap.size ≤ g) :
    w1.heap[tb]? = some (.cells #[.slice a xs.length c] 36 (0, 0)) ∧ TailAt (w1.setCell ⟨tb, 0, none⟩ (.slice a' zs.length c')) tb base a' c' zs ∧ Wrote w (w1.setCell ⟨tb, 0, none⟩ (.slice a' zs.length c')) tb (Value.slice a xs.length c).ownBlock := by
  have hlt := lt_of_block hT.block
  have hb : w1.heap[tb]? = some (.cells #[.slice a xs.length c] 36 (0, 0)) := by rw [hg.block tb hlt hT.ne]; exact hT.block
  refine ⟨hb, ⟨one_setCell hb, ownsRow_setCell_other ho ?_ _⟩, ⟨hg.os, hg.tape, hg.output, by have := hg.size; simpa using this, fun k hk h1 h2 => ?_⟩⟩
  · intro e
    rcases ho.2 with ⟨e1, _⟩ | ⟨g, cap, cur, e1, _, hh, _⟩
    · rw [e1] at e; cases e
    · rw [e1] at e
      simp [Value.ownBlock] at e
      subst e
      rw [hb] at hh
      simp at hh
  · rw [Below.heap_setCell _ _ _ _ (by simpa using h1)]; exact hg.block k hk h2

/-- Behind the move to the front. -/
theorem tail_moved {w : World} {tb base g c m : Nat} {zs : List Int} (hT : TailAt w tb base (some ⟨g, 0, none⟩) c zs) (hl : keep < zs.length) (hm : m = keep) :
    ((w.setCells g 0 (bC (last zs))).heap[tb]? = some (.cells #[.slice (some ⟨g, 0, none⟩) zs.length c] 36 (0, 0))) ∧
    TailAt ((w.setCells g 0 (bC (last zs))).setCell ⟨tb, 0, none⟩ (.slice (some ⟨g, 0, none⟩) m c)) tb base (some ⟨g, 0, none⟩) c (last zs) ∧ Wrote w ((w.setCells g 0 (bC (last zs))).setCell ⟨tb, 0, none⟩ (.slice (some ⟨g, 0, none⟩) m c)) tb (some g) := by
  subst hm
  have hne : tb ≠ g := fun e => hT.ne (by rw [e]; rfl)
  have hb : (w.setCells g 0 (bC (last zs))).heap[tb]? = some (.cells #[.slice (some ⟨g, 0, none⟩) zs.length c] 36 (0, 0)) := by
    rw [block_setCells _ _ _ _ hne]; exact hT.block
  obtain ⟨f, hr, hn, hm, hbg, _⟩ := own_row hT.own
  have e4 := last_long hl
  refine ⟨hb, ⟨?_, ?_⟩, ⟨?_, ?_, ?_, ?_, fun k hk h1 h2 => ?_⟩⟩
  · rw [e4]; exact one_setCell hb
  · rw [e4]
    refine own_of_row ((rowIs_setCells (bC (last zs)) 0 w f hr).setOther (by simpa using fun e => hne e.symm) _) (by omega) hm hbg (by rw [bC_len, e4]) (fun i hi => ?_)
    rw [if_pos (by rw [bC_len, e4]; omega)]
    simp only [Nat.sub_zero]
    rw [bC_get (last zs) i (by omega)]
    simp [List.getD, bC_get (last zs) i (by omega)]
  · rw [(same_setCell _ _ _).1]; exact (same_setCells g (bC (last zs)) 0 w).1
  · rw [(same_setCell _ _ _).2.1]; exact (same_setCells g (bC (last zs)) 0 w).2.1
  · rw [(same_setCell _ _ _).2.2]; exact (same_setCells g (bC (last zs)) 0 w).2.2
  · simp [size_setCells]
  · rw [Below.heap_setCell _ _ _ _ (by simpa using h1)]
    exact block_setCells _ _ _ _ (fun e => h2 (by rw [e]))

/-- What the move to the front asks. -/
structure Front (w : World) (tb base g c d : Nat) (zs : List Int) : Prop where
  k0 : (w.setCells g 0 (bC (last zs))).cell? ⟨tb, 0, none⟩ = some (.slice (some ⟨g, 0, none⟩) zs.length c)
  e0 : (w.setCells g 0 (bC (last zs))).frozen? ⟨tb, 0, none⟩ = false
  t2 : w.cell? ⟨tb, 0, none⟩ = some (.slice (some ⟨g, 0, none⟩) zs.length c)
  news : ∀ j u, (bC (last zs))[j]? = some u → w.cell? ((⟨g, d, none⟩ : Addr).add j) = some u
  s1 : (bC (last zs)).length = (zs.length - d) * 1
  s3 : ∀ j, j < (bC (last zs)).length → (w.cell? ⟨g, 0 + 0 * 1 + j, none⟩).isSome = true ∧ w.frozen? ⟨g, 0 + 0 * 1 + j, none⟩ = false
  p0 : (0 : Int) ≤ (zs.length : Int) - 4096
  p1 : (zs.length : Int) - 4096 ≤ (zs.length : Int)
  p2 : ((zs.length : Int) - 4096).toNat = d
  p3 : ¬ c = d
  p4 : (4096 : Int) ≤ (zs.length : Int)
  p5 : 0 + (zs.length - d) ≤ c
  pm : zs.length - d = keep
theorem front_of {w : World} {tb base g c : Nat} {zs : List Int} (hT : TailAt w tb base (some ⟨g, 0, none⟩) c zs) (hl : keep < zs.length) : ∃ d, Front w tb base g c d zs := by
  obtain ⟨k1, _, _⟩ := tail_moved hT hl rfl
  obtain ⟨_, _, hcl, _, _, _⟩ := own_row hT.own
  have hl' : 4096 < zs.length := hl
  obtain ⟨d, hd⟩ : ∃ d, zs.length = d + 4096 := ⟨zs.length - 4096, by omega⟩
  have e4 : (last zs).length = zs.length - d := by rw [last_len, keep_eq]; omega
  refine ⟨d, cell_of_one k1, free_of_one k1, cell_of_one hT.block, ?_, by rw [bC_len, e4, Nat.mul_one], ?_, by omega, by omega, by omega, by omega, by omega, by omega, by rw [keep_eq]; omega⟩
  · intro j u hu
    have hj : j < (last zs).length := by
      have := (List.getElem?_eq_some_iff.1 hu).1
      rwa [bC_len] at this
    rw [Addr.add_lit, hT.own.cellAt _ (by omega), ← hu, bC_get (last zs) j hj, bC_get zs _ (by omega)]
    have ed : zs.length - keep = d := by rw [keep_eq]; omega
    simp [last, ed]
  · intro j hj
    rw [bC_len] at hj
    have ej : 0 + 0 * 1 + j = j := by omega
    rw [ej, hT.own.cellAt j (by omega), bC_get zs j (by omega)]
    exact ⟨rfl, hT.own.frozenAt j⟩
/-- The two steps together. -/
theorem Wrote.then {w w1 w2 : World} {tb g : Nat} {ob : Option Nat} (h : Wrote w w1 tb ob) (k : Wrote w1 w2 tb (some g)) (hg : some g = ob ∨ w.heap.size ≤ g) : Wrote w w2 tb ob :=
  ⟨k.os.trans h.os, k.tape.trans h.tape, k.output.trans h.output, Nat.le_trans h.size k.size, fun i hi h1 h2 =>
    (k.block i (by have := h.size; omega) h1 (by intro e; injection e with e; subst e; rcases hg with e | e; exact h2 e; omega)).trans (h.block i hi h1 h2)⟩

set_option maxHeartbeats 1600000 in
set_option maxRecDepth 100000 in
theorem write_any (tb base : Nat) (a : Option Addr) (c : Nat) (xs : List Int) (ap : Option Addr) (cp : Nat) (ys : List Int) (w : World) (hT : TailAt w tb base a c xs) (hbase : base ≤ w.heap.size)
    (hy : Cells w ap ys) (hnil : ap = none → ys = [] ∧ cp = 0) (hlen : (xs ++ ys).length ≤ 4194304) :
    Calls Try.prog 8 #[.pointer (some ⟨tb, 0, none⟩), .slice ap ys.length cp] w fun e w' => e = .returned (.tuple #[.int .i64 ys.length, .nilIface]) ∧
      ∃ a' c', TailAt w' tb base a' c' (last (xs ++ ys)) ∧ Wrote w w' tb (Value.slice a xs.length c).ownBlock ∧ (a' = a ∨ ∃ g, a' = some ⟨g, 0, none⟩ ∧ w.heap.size ≤ g) := by
  obtain ⟨i0, hi0, hz0, hz1, hz2⟩ := info_parts info5
  have t0 := cell_of_one hT.block
  have f0 := free_of_one hT.block
  go_enter Try.func8, Try.ntmps8
  go_upto_if 23 with (at_builtin; refine wpList_append_tail _ rfl (.tmp 11) (.tmp 12) rfl base hbase a c xs rfl hT.own ap cp ys rfl hy hnil hlen ?_)
  intro a' c' w1 hown hg ha
  obtain ⟨zs, hzs⟩ : ∃ zs, xs ++ ys = zs := ⟨_, rfl⟩
  have HZ : Hid (xs ++ ys = zs) := hzs
  rw [← List.length_append] at hown ⊢
  rw [hzs] at hown hlen ⊢
  clear hzs
  obtain ⟨hb1, hT1, hW1⟩ := tail_stored hT hg hown ha
  have t1 := cell_of_one hb1
  have f1 := free_of_one hb1
  clear hown hg hb1 t0 f0
  go_upto_if 23 with fail
  obtain ⟨w2, hw2⟩ : ∃ w2, w1.setCell ⟨tb, 0, none⟩ (.slice a' zs.length c') = w2 := ⟨_, rfl⟩
  rw [hw2] at hT1 hW1 ⊢
  clear hw2 t1 f1
  by_cases hl : keep < zs.length
  · have hl' : 4096 < zs.length := hl
    obtain ⟨g, rfl⟩ : ∃ g, a' = some ⟨g, 0, none⟩ := by
      obtain ⟨a2, c2, e2, hn0, hsh, hcl, hcm⟩ := own_shape hT1.own
      injection e2 with e3 _ e4
      subst e3; subst e4
      cases a' with
      | none => have := (hn0 rfl).1; omega
      | some ad =>
        obtain ⟨g, rfl, _⟩ := hsh ad rfl
        exact ⟨g, rfl⟩
    have hp : (0 : Int) < (zs.length : Int) - 4096 := by omega
    clear hl' hlen hy hnil
    go_wp2
    obtain ⟨d, F⟩ := front_of (w := w2.drew) ⟨hT1.block, hT1.own⟩ hl
    have k0 := F.k0
    have e0 := F.e0
    have t2 := cell_of_one hT1.block
    have f2 := free_of_one hT1.block
    have hp0 := F.p0
    have hp1 := F.p1
    have hp2 := F.p2
    have hp3 := F.p3
    have hp4 := F.p4
    go_region_law (refine step_append_room rfl (.tmp 29) (.tmp 35) 22 rfl 5 i0 1 Try.underlying22 hi0 hz1 g 0 0 c' (by simp [Act.eval, Act.put]) ⟨g, d, none⟩ (zs.length - d) (c' - d) (bC (last zs)) (by simp [Act.eval, Act.put]) F.s1 F.news (bC_one _) F.p5 F.s3 ?_)
    all_goals clear k0 e0 t2 f2 hp0 hp1 hp2 hp3 hp4
    all_goals go_wp2
    all_goals go_ret2
    all_goals
      obtain ⟨_, M1, M2⟩ := tail_moved (w := w2.drew) (m := zs.length - d) ⟨hT1.block, hT1.own⟩ hl F.pm
      refine ⟨rfl, some ⟨g, 0, none⟩, c', ?_, ?_, ha⟩
      · rw [HZ.out]; exact M1
      · refine Wrote.then (w1 := w2.drew) ⟨hW1.os, hW1.tape, hW1.output, hW1.size, hW1.block⟩ M2 ?_
        rcases ha with e | ⟨g', e, h⟩
        · exact .inl (by rw [← e]; rfl)
        · injection e with e; injection e with e; subst e; exact .inr h
  · have hl' : zs.length ≤ 4096 := by rw [← keep_eq]; omega
    have HL : Hid (last zs = zs) := last_short (by omega)
    go_wp2
    go_ret2
    refine ⟨rfl, a', c', ?_, hW1, ha⟩
    rw [HZ.out, HL.out]; exact hT1
end Go.Proofs.Qxb6628159a
