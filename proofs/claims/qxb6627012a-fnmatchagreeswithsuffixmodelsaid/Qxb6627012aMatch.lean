/-
  THE GLOB SEAT: '(*Pattern).Match' walked. By an AI agent.
-/
import Derived.Test.Qxb6627012aMake
import Derived.Deep.DeepCutAuto
import Derived.Deep.QuietTactic
import Derived.BigQuiet
import Derived.Deep.RegionWith
import Derived.RegionTactic
import Derived.Lib.SliceRun
namespace Go.Proofs.Qxb6627012a
open Go.RowKit Plain
set_option linter.unusedVariables false
set_option linter.unusedSimpArgs false

theorem els_len : ∀ (m : Nat) (l : List Nat), l.length ≤ m → (els l).length ≤ l.length := by
  intro m
  induction m with
  | zero => intro l h; have : l = [] := by (cases l; rfl; simp at h)
            subst this; simp [els]
  | succ m ih =>
    intro l h
    match l, h with
    | [], _ => simp [els]
    | [c], _ => by_cases hc : c = 42 <;> simp [els, hc]
    | c :: d :: r, h =>
      simp at h
      have h1 := ih r (by omega)
      have h2 := ih (d :: r) (by simp; omega)
      by_cases hc : c = 42
      · by_cases hd : d = 42
        · simp [els, hc, hd]; omega
        · simp [els, hc, hd]; simpa using h2
      · simp [els, hc]; simpa using h2

/-- The array of 128 bools, as it is laid. -/
def blank : Array Value := Array.replicate 128 (.bool false)
theorem alloc30 (w : World) : (Instr.alloc 30 true (.tuple #[])).run Try.prog w = .ok (.pointer (some ⟨w.heap.size, 0, none⟩)) (w.alloc (.cells blank 30)) := by kernel_rfl

theorem wpList_alloc30 (w : World) {ops : Array Oper} {rest : List Oper} {o : Oper} {a : Act} {Q : Exit → Act → World → Prop} (hg : o.guard = none) (hop : o.op = Op.alloc 30)
    (hK : wpList Try.prog ops Q rest (a.put o.dst (.pointer (some ⟨w.heap.size, 0, none⟩))) (w.alloc (.cells blank 30))) : wpList Try.prog ops Q (o :: rest) a w := by
  refine wpList_plain hg fun K hK' => ?_
  unfold Oper.wp
  simp [execOp, hop, alloc30, Result.andThen]
  exact hK' _ _ hK

theorem info4 : (Try.prog.info? 4).map (fun i => (i.zero, i.size, i.bytes)) = some (some (.bool false), 1, 1) := by kernel_rfl

theorem len30 : Try.prog.arrayLen 30 = 128 := by kernel_rfl
theorem elem30 : Try.prog.elem 30 = 4 := by kernel_rfl
theorem under30 : Try.prog.underlying 30 = some (.array (Try.prog.arrayLen 30) (Try.prog.elem 30)) := by kernel_rfl
theorem size4 (w : World) : (sizeOf 4).run Try.prog w = .ok 1 w := by kernel_rfl
theorem slice30_h (m : Nat) (h : 2 * (m + 1) ≤ 128) (w : World) (a : Addr) : (Instr.sliceAt 30 (.pointer (some a)) none (some (.int .i64 ((m : Int) + 1))) none).run Try.prog w = .ok (.slice (some a) (m + 1) 128) w := by
  rw [run_sliceAt_array_h (P := Try.prog) w 30 a under30 .i64 ((m : Int) + 1) (by omega) (by rw [len30]; omega), elem30, size4, len30]
  have e : ((m : Int) + 1).toNat = m + 1 := by omega
  simp [Result.andThen, slicedAt, e, Addr.add]
theorem slice30_lh (m : Nat) (h : 2 * (m + 1) ≤ 128) (w : World) (b : Nat) : (Instr.sliceAt 30 (.pointer (some ⟨b, 0, none⟩)) (some (.int .i64 ((m : Int) + 1))) (some (.int .i64 (2 * ((m : Int) + 1)))) none).run Try.prog w = .ok (.slice (some ⟨b, m + 1, none⟩) (m + 1) (128 - (m + 1))) w := by
  rw [run_sliceAt_array_lh (P := Try.prog) w 30 _ under30 .i64 .i64 ((m : Int) + 1) (2 * ((m : Int) + 1)) (by omega) (by omega) (by rw [len30]; omega), elem30, size4, len30]
  have e : ((m : Int) + 1).toNat = m + 1 := by omega
  have e2 : (2 * ((m : Int) + 1)).toNat = (m + 1) + (m + 1) := by omega
  have e3 : ¬ (128 = m + 1) := by omega
  simp only [Result.andThen, slicedAt, e, e2, if_neg e3, Nat.mul_one, Nat.add_sub_cancel]
  simp [Addr.add]

/-- Two rows of bools that share no cell. -/
def Apart (b o b' o' n : Nat) : Prop := b ≠ b' ∨ o + n ≤ o' ∨ o' + n ≤ o
/-- What 'at' and 'next' are. -/
structure Two (w wc : World) (n : Nat) (a b : Value) (f g : Nat → Bool) : Prop where
  ex : ∃ b1 o1 c1 b2 o2 c2, a = .slice (some ⟨b1, o1, none⟩) n c1 ∧ b = .slice (some ⟨b2, o2, none⟩) n c2 ∧ RowB wc b1 o1 n f ∧ RowB wc b2 o2 n g ∧ Apart b1 o1 b2 o2 n ∧ w.heap.size ≤ b1 ∧ w.heap.size ≤ b2 ∧ n ≤ c1 ∧ n ≤ c2
  below : Below w.heap.size w wc

theorem blank_at (j : Nat) (h : j < 128) : blank[j]? = some (.bool false) := by simp [blank, h]
theorem below_drewN {B : Nat} {a w : World} (h : Below B a w) (n : Nat) : Below B a (w.drewN n) := ⟨h.os, h.tape, h.output, h.size, h.block⟩
theorem two_small (w : World) (n nq nq' c : Nat) (h : 2 * n ≤ 128) (hc : n ≤ c) : Two w (((w.alloc (.cells blank 30)).drewN nq).drewN nq') n (.slice (some ⟨w.heap.size, 0, none⟩) n 128) (.slice (some ⟨w.heap.size, n, none⟩) n c) (fun _ => false) (fun _ => false) := by
  refine ⟨⟨w.heap.size, 0, 128, w.heap.size, n, c, rfl, rfl, fun j hj => ⟨?_, ?_⟩, fun j hj => ⟨?_, ?_⟩, .inr (.inl (by omega)), Nat.le_refl _, Nat.le_refl _, by omega, by omega⟩, ?_⟩
  · simp [blank_at _ (show j < 128 by omega)]
  · simp
  · simp [blank_at _ (show n + j < 128 by omega)]
  · simp
  · exact below_drewN (below_drewN ((Below.refl _ _).alloc (Nat.le_refl _) _) nq) nq'
theorem rowB_of {w : World} {b n : Nat} {t : TypeId} {f : Nat → Bool} (h : w.rowIs b t n (fun j => .bool (f j))) : RowB w b 0 n f := fun j hj => by
  rw [Nat.zero_add]; exact ⟨h.cell hj, h.frozen j⟩
theorem two_big (w : World) (n nq : Nat) : ∀ (s : Bool), Two w ((((w.alloc (.cells blank 30)).drewN nq).alloc (.cells (madeCells #[.bool false] n) 4)).alloc (.cells (madeCells #[.bool false] n) 4)) n
    (.slice (some ⟨if s then w.heap.size + 1 else w.heap.size + 1 + 1, 0, none⟩) n n) (.slice (some ⟨if s then w.heap.size + 1 + 1 else w.heap.size + 1, 0, none⟩) n n) (fun _ => false) (fun _ => false) := by
  intro s
  have hb : Below w.heap.size w ((((w.alloc (.cells blank 30)).drewN nq).alloc (.cells (madeCells #[.bool false] n) 4)).alloc (.cells (madeCells #[.bool false] n) 4)) :=
    ((below_drewN ((Below.refl _ _).alloc (Nat.le_refl _) _) nq).alloc (by simp) _).alloc (by simp; omega) _
  have r1 : ((((w.alloc (.cells blank 30)).drewN nq).alloc (.cells (madeCells #[.bool false] n) 4)).alloc (.cells (madeCells #[.bool false] n) 4)).rowIs (w.heap.size + 1) 4 n (fun j => .bool false) := by
    have h := World.rowIs_made ((w.alloc (.cells blank 30)).drewN nq) (.bool false) n 4
    have e : ((w.alloc (.cells blank 30)).drewN nq).heap.size = w.heap.size + 1 := by simp
    rw [e] at h
    exact h.alloc _
  have r2 : ((((w.alloc (.cells blank 30)).drewN nq).alloc (.cells (madeCells #[.bool false] n) 4)).alloc (.cells (madeCells #[.bool false] n) 4)).rowIs (w.heap.size + 1 + 1) 4 n (fun j => .bool false) := by
    have h := World.rowIs_made (((w.alloc (.cells blank 30)).drewN nq).alloc (.cells (madeCells #[.bool false] n) 4)) (.bool false) n 4
    have e : (((w.alloc (.cells blank 30)).drewN nq).alloc (.cells (madeCells #[.bool false] n) 4)).heap.size = w.heap.size + 1 + 1 := by simp
    rw [e] at h
    exact h
  cases s
  · exact ⟨⟨_, 0, n, _, 0, n, rfl, rfl, rowB_of r2, rowB_of r1, .inl (by simp), by simp; omega, by simp, Nat.le_refl _, Nat.le_refl _⟩, hb⟩
  · exact ⟨⟨_, 0, n, _, 0, n, rfl, rfl, rowB_of r1, rowB_of r2, .inl (by simp), by simp, by simp; omega, Nat.le_refl _, Nat.le_refl _⟩, hb⟩

/-! ### 'clear(next)' -/
theorem zero4 (w : World) : (zeroValue 4).run Try.prog w = .ok (.bool false) w := by kernel_rfl
theorem Moved.setCells {w : World} {b : Nat} {n : Nat} : ∀ (vs : List Value) (i off : Nat) (w' : World), i + vs.length ≤ n → Moved w w' b off n → Moved w (w'.setCells b (off + i) vs) b off n
  | [], _, _, _, _, h => h
  | v :: r, i, off, w', hl, h => by
    simp at hl
    have := Moved.setCells r (i + 1) off (w'.setCell ⟨b, off + i, none⟩ v) (by omega) (h.set i (by omega) v)
    rwa [show off + (i + 1) = off + i + 1 by omega] at this
theorem size_setCells (b : Nat) : ∀ (vs : List Value) (o : Nat) (w : World), (w.setCells b o vs).heap.size = w.heap.size
  | [], _, _ => rfl
  | v :: r, o, w => by rw [World.setCells, size_setCells b r]; simp
theorem wpList_clearB (w : World) {ops : Array Oper} {rest : List Oper} {o : Oper} {a : Act} {Q : Exit → Act → World → Prop} (hg : o.guard = none) (x : Operand) (hop : o.op = Op.call { callee := Callee.builtin Builtin.clear, args := #[x], argTypes := #[31] })
    (b off n c : Nat) (hx : a.eval x = .slice (some ⟨b, off, none⟩) n c) (hn : 0 < n) (f : Nat → Bool) (hrow : RowB w b off n f)
    (hK : ∀ w', RowB w' b off n (fun _ => false) → Moved w w' b off n → w'.heap.size = w.heap.size → wpList Try.prog ops Q rest (a.put o.dst (.tuple #[])) w') : wpList Try.prog ops Q (o :: rest) a w := by
  refine wpList_plain hg fun K hK' => ?_
  have hrun := Lib.run_clear_slice (P := Try.prog) w 31 4 o.type (.bool false) Try.underlying31 zero4 rfl rfl b off n c hn (fun j hj => by rw [(hrow j hj).1]; rfl) (fun j hj => (hrow j hj).2)
  unfold Oper.wp
  simp [execOp, hop, resolve, invoke, builtin, hx, hrun, Result.andThen]
  refine hK' _ _ (hK _ (fun j hj => ⟨?_, ?_⟩) ?_ (size_setCells _ _ _ _))
  · rw [World.cell?_setCells_in b _ off w (fun i hi => by rw [(hrow i (by simpa using hi)).1]; rfl) j (by simpa using hj)]; simp
  · rw [World.frozen?_setCells]; exact (hrow j hj).2
  · exact Moved.setCells _ 0 off w (by simp) (Moved.refl _ _ _ _)

/-! ### The loops' relations -/
structure MRel (es : List (Nat × Nat)) (w wr : World) (name : List Nat) (k : Nat) (a b : Value) : Prop where
  ex : ∃ b1 o1 c1 b2 o2 c2 g h, a = .slice (some ⟨b1, o1, none⟩) (es.length + 1) c1 ∧ b = .slice (some ⟨b2, o2, none⟩) (es.length + 1) c2 ∧ RowB wr b1 o1 (es.length + 1) g ∧ RowB wr b2 o2 (es.length + 1) h ∧ Apart b1 o1 b2 o2 (es.length + 1) ∧
    w.heap.size ≤ b1 ∧ w.heap.size ≤ b2 ∧ Closed es g ∧ (Some_ es g (name.drop k) ↔ mt es name = true)
  below : Below w.heap.size w wr
theorem ElsAt.below {w w' : World} {eb : Nat} {es : List (Nat × Nat)} (h : ElsAt w eb es) (hb : Below w.heap.size w w') : ElsAt w' eb es :=
  ⟨by have := hb.size; have := h.1; omega, fun j hj => ⟨(hb.cell (p := ⟨eb, j * 2, none⟩) h.1).trans (h.2 j hj).1, (hb.cell (p := ⟨eb, j * 2 + 1, none⟩) h.1).trans (h.2 j hj).2⟩⟩
theorem up_zero : up (fun _ => false) 0 true = (fun i => decide (i = 0)) := by
  funext i; simp only [up]; split <;> simp_all
theorem Moved.row {w w' : World} {b1 o1 b2 o2 n : Nat} {f : Nat → Bool} (hm : Moved w w' b1 o1 n) (h : RowB w b2 o2 n f) (ha : Apart b1 o1 b2 o2 n) : RowB w' b2 o2 n f := by
  intro j hj
  have hb := h.lt (by omega)
  refine ⟨(hm.cell _ _ hb ?_).trans (h j hj).1, (hm.frozen _ _ hb).trans (h j hj).2⟩
  unfold Apart at ha; omega
theorem Apart.symm {b o b' o' n : Nat} (h : Apart b o b' o' n) : Apart b' o' b o n := by unfold Apart at *; omega

theorem move_off {es : List (Nat × Nat)} {g : Nat → Bool} {c q : Nat} (h : g q = false) : Plain.move es g c (q + 1) = Plain.move es g c q ∧ reach es g c (q + 1) = reach es g c q := by
  constructor
  · show (if g q then _ else _) = _
    rw [h]; rfl
  · show (reach es g c q || (g q && _)) = _
    rw [h]; simp
theorem move_hit {es : List (Nat × Nat)} {g : Nat → Bool} {b c q : Nat} (h : g q = true) (hs : es.getD q (0, 0) = (0, b)) (hb : b = c) : Plain.move es g c (q + 1) = up (Plain.move es g c q) (q + 1) true ∧ reach es g c (q + 1) = true := by
  have hh : hits es q c = true := by unfold hits; rw [hs]; simp [hb]
  constructor
  · show (if g q then (if hits es q c then _ else _) else _) = _
    rw [h, hh]; rfl
  · show (reach es g c q || (g q && (hits es q c || _))) = _
    rw [h, hh]; simp
theorem move_lit {es : List (Nat × Nat)} {g : Nat → Bool} {b c q : Nat} (hs : es.getD q (0, 0) = (0, b)) (hb : b ≠ c) : Plain.move es g c (q + 1) = Plain.move es g c q ∧ reach es g c (q + 1) = reach es g c q := by
  have hh : hits es q c = false := by unfold hits; rw [hs]; simp [hb]
  have hd : holds es q c = false := by unfold holds; rw [hs]; rfl
  constructor
  · show (if g q then (if hits es q c then _ else if holds es q c then _ else _) else _) = _
    rw [hh, hd]; simp
  · show (reach es g c q || (g q && (hits es q c || holds es q c))) = _
    rw [hh, hd]; simp
theorem move_hold {es : List (Nat × Nat)} {g : Nat → Bool} {s b c q : Nat} (h : g q = true) (hs : es.getD q (0, 0) = (s, b)) (h0 : s ≠ 0) (ht : takes s c = true) : Plain.move es g c (q + 1) = up (Plain.move es g c q) q true ∧ reach es g c (q + 1) = true := by
  have hh : hits es q c = false := by unfold hits; rw [hs]; simp [h0]
  have hd : holds es q c = true := by unfold holds; rw [hs]; simp [h0, ht]
  constructor
  · show (if g q then (if hits es q c then _ else if holds es q c then _ else _) else _) = _
    rw [h, hh, hd]; rfl
  · show (reach es g c q || (g q && (hits es q c || holds es q c))) = _
    rw [h, hh, hd]; simp
theorem move_bar {es : List (Nat × Nat)} {g : Nat → Bool} {s b c q : Nat} (hs : es.getD q (0, 0) = (s, b)) (h0 : s ≠ 0) (ht : takes s c = false) : Plain.move es g c (q + 1) = Plain.move es g c q ∧ reach es g c (q + 1) = reach es g c q := by
  have hh : hits es q c = false := by unfold hits; rw [hs]; simp [h0]
  have hd : holds es q c = false := by unfold holds; rw [hs]; simp [ht]
  constructor
  · show (if g q then (if hits es q c then _ else if holds es q c then _ else _) else _) = _
    rw [hh, hd]; simp
  · show (reach es g c q || (g q && (hits es q c || holds es q c))) = _
    rw [hh, hd]; simp
theorem RowB.drewN {w : World} {b off n : Nat} {f : Nat → Bool} (h : RowB w b off n f) (k : Nat) : RowB (w.drewN k) b off n f := h
theorem val_bool {a b : Bool} (h : a = b) : Value.bool a = .bool b := by rw [h]

set_option maxHeartbeats 1000000 in
set_option maxRecDepth 10000 in
theorem match_gen (t pre name : ByteArray) (ht : t.size ≤ 1024) (hn : name.size ≤ 1024) (pb eb cap : Nat) (w : World) (hP : PatAt w pb eb cap t pre false false) :
    Calls Try.prog 6 #[.pointer (some ⟨pb, 0, none⟩), .string name] w fun e w' => e = .returned (.bool (mt (els (bs t)) (bs name))) ∧ Below w.heap.size w w' := by
  obtain ⟨p0, p1, p2, p3, p4, p5, pel⟩ := hP
  obtain ⟨es, hes⟩ : ∃ es, els (bs t) = es := ⟨_, rfl⟩
  have hm : es.length ≤ 1024 := by rw [← hes]; have := els_len _ (bs t) (Nat.le_refl _); rw [bs_len] at this; omega
  rw [hes] at p2 pel ⊢
  clear hes
  go_enter Try.func6, Try.ntmps6
  go_wp2_with (refine wpList_alloc30 _ rfl rfl ?_)
  go_quiet (fail)
  go_upto_if 45 with fail
  go_cut [7, 8] (fun a b wc => Two w wc (es.length + 1) a b (fun _ => false) (fun _ => false))
  case first =>
    by_cases hS : 2 * (es.length + 1) ≤ 128
    · have hs1 := slice30_h es.length hS
      have hs2 := slice30_lh es.length hS
      go_wp2
      go_quiet (fail)
      go_wp2_with fail
      go_meet
      case rel => exact two_small w (es.length + 1) _ _ (127 - es.length) hS (by omega)
    · have hmk := run_make_row' (P := Try.prog) 31 4 (.bool false) 1 Try.underlying31 info4 rfl .i64 .i64 (es.length + 1) (by omega) (by omega)
      have ec : ((es.length + 1 : Nat) : Int) = (es.length : Int) + 1 := by omega
      rw [ec] at hmk
      clear ec
      go_wp2
      go_region
      all_goals go_wp2_with fail
      all_goals go_meet
      · exact two_big w (es.length + 1) _ true
      · exact two_big w (es.length + 1) _ false
  case rest =>
    obtain ⟨⟨b1, o1, c1, b2, o2, c2, rfl, rfl, R1, R2, ha, hb1, hb2, hc1, hc2⟩, hbel⟩ := hcut
    have p2c : wc.cell? ⟨pb, 1, none⟩ = some (.slice (some ⟨eb, 0, none⟩) es.length cap) := (hbel.cell (p := ⟨pb, 1, none⟩) p0).trans p2
    have pelc := pel.below hbel
    have heb := pel.1
    have r0 : wc.cell? ⟨b1, o1, none⟩ = some (.bool false) := (R1 0 (by omega)).1
    have f0 : wc.frozen? ⟨b1, o1, none⟩ = false := (R1 0 (by omega)).2
    have R1' : RowB (wc.setCell ⟨b1, o1, none⟩ (.bool true)) b1 o1 (es.length + 1) (fun i => decide (i = 0)) := by rw [← up_zero]; exact R1.set 0 true
    have R2' : RowB (wc.setCell ⟨b1, o1, none⟩ (.bool true)) b2 o2 (es.length + 1) (fun _ => false) := R2.setOther (by unfold Apart at ha; omega) _
    have hb' : Below w.heap.size w (wc.setCell ⟨b1, o1, none⟩ (.bool true)) := hbel.setCell hb1 _
    have p2' : (wc.setCell ⟨b1, o1, none⟩ (.bool true)).cell? ⟨pb, 1, none⟩ = some (.slice (some ⟨eb, 0, none⟩) es.length cap) := (hb'.cell (p := ⟨pb, 1, none⟩) p0).trans p2
    have pel' : ElsAt (wc.setCell ⟨b1, o1, none⟩ (.bool true)) eb es := pel.below hb'
    have PA : Hid _ := pass_any es hm pb eb cap b1 o1 c1 _ _ p2' pel' (by omega) R1'
    clear R1 R2 R1'
    go_wp2_with fail
    refine Calls.mono PA.out ?_
    rintro e w1 ⟨rfl, R1, M1⟩
    have R2 := M1.row R2' ha
    have hb'' := hb'.trans (M1.below w.heap.size hb1 hb'.size)
    have RM : MRel es w w1 (bs name) 0 (.slice (some ⟨b1, o1, none⟩) (es.length + 1) c1) (.slice (some ⟨b2, o2, none⟩) (es.length + 1) c2) :=
      ⟨⟨b1, o1, c1, b2, o2, c2, _, _, rfl, rfl, R1, R2, ha, hb1, hb2, pass_closed _ _, start_iff _ _⟩, hb''⟩
    clear R1 R2 R2' M1 hb'' hb' p2' pel' PA r0 f0 p2c pelc
    go_wp2
    go_loopg [7, 8, 9] name.size (fun gk a b i wr => ∃ k : Nat, gk = name.size - k ∧ k ≤ name.size ∧ i = .int .i64 k ∧ MRel es w wr (bs name) k a b)
    case atStart => exact ⟨0, by simp, Nat.zero_le _, rfl, RM⟩
    case round =>
      clear RM ha hb1 hb2 hc1 hc2 hbel
      obtain ⟨k, hg, hk, rfl, RM⟩ := hrel
      obtain ⟨⟨b1, o1, c1, b2, o2, c2, g, h, rfl, rfl, R1, R2, ha, hb1, hb2, hcl, hiff⟩, hbel⟩ := RM
      have HG : Hid (gk = name.size - k) := hg
      have HI : Hid (Some_ es g ((bs name).drop k) ↔ mt es (bs name) = true) := hiff
      clear hg hiff
      by_cases hlt : k < name.size
      · go_wp2_with (refine wpList_clearB _ rfl (.tmp 67) rfl b2 o2 (es.length + 1) c2 rfl (by omega) h R2 ?_)
        intro w1 R2z M hsz
        have hb1' := hbel.trans (M.below w.heap.size hb2 hbel.size)
        have R1' := M.row R1 ha.symm
        have p2w : w1.cell? ⟨pb, 1, none⟩ = some (.slice (some ⟨eb, 0, none⟩) es.length cap) := (hb1'.cell (p := ⟨pb, 1, none⟩) p0).trans p2
        clear R1 R2 M hsz hbel
        go_wp2
        go_loopg [10, 73] es.length (fun gj r j wj => ∃ q : Nat, gj = es.length - q ∧ q ≤ es.length ∧ j = .int .i64 q ∧ r = .bool (reach es g name[k].toNat q) ∧ RowB wj b1 o1 (es.length + 1) g ∧ RowB wj b2 o2 (es.length + 1) (Plain.move es g name[k].toNat q) ∧ Below w.heap.size w wj)
        case atStart => exact ⟨0, by simp, Nat.zero_le _, rfl, rfl, R1', R2z, hb1'⟩
        case round =>
          obtain ⟨q, hg2, hq, rfl, rfl, S1, S2, hbj⟩ := hrel
          have HG2 : Hid (gk = es.length - q) := hg2
          clear hg2 R1' R2z hb1' p2w
          by_cases hqlt : q < es.length
          · have hE := (pel.below hbj).2 q hqlt
            have hEb := (pel.below hbj).1
            obtain ⟨s, c, hsc⟩ : ∃ s c, es.getD q (0, 0) = (s, c) := ⟨_, _, rfl⟩
            rw [hsc] at hE
            obtain ⟨e0, e1⟩ := hE
            have HSC : Hid (es.getD q (0, 0) = (s, c)) := hsc
            clear hsc
            obtain ⟨r0, _⟩ := S1 q (by omega)
            obtain ⟨x0, f0⟩ := S2 q (by omega)
            obtain ⟨x1, f1⟩ := S2 (q + 1) (by omega)
            have l1 := S1.lt (by omega)
            have l2 := S2.lt (by omega)
            obtain ⟨v, hv⟩ : ∃ v, g q = v := ⟨_, rfl⟩
            rw [hv] at r0
            have HV : Hid (g q = v) := hv
            clear hv
            have cb := bs_lt name k hlt
            cases v
            · have HM : Hid _ := move_off (es := es) (c := name[k].toNat) HV.out
              go_wp2
              go_roundg (es.length - (q + 1))
              case measure => rw [HG2.out]; omega
              case rel => exact ⟨q + 1, rfl, by omega, by go_num, val_bool HM.out.2.symm, S1.alloc _, by rw [HM.out.1]; exact S2.alloc _, hbj.alloc hbj.size _⟩
            · by_cases hs0 : s = 0
              · subst hs0
                by_cases hcc : c = name[k].toNat
                · have HM : Hid _ := move_hit HV.out HSC.out hcc
                  go_wp2
                  go_quiet (fail)
                  go_wp2
                  go_roundg (es.length - (q + 1))
                  case measure => rw [HG2.out]; omega
                  case rel =>
                    refine ⟨q + 1, rfl, by omega, by go_num, val_bool HM.out.2.symm, ?_, ?_, ?_⟩
                    · exact ((S1.alloc _).drewN _).setOther (by unfold Apart at ha; omega) _
                    · rw [HM.out.1]; exact ((S2.alloc _).drewN _).set (q + 1) true
                    · exact (below_drewN (hbj.alloc hbj.size _) _).setCell hb2 _
                · have HM : Hid _ := move_lit (g := g) HSC.out hcc
                  have hd : (((c : Int) == (name[k].toNat : Int)) = false) := by simpa using fun e => hcc (by omega)
                  go_wp2
                  go_quiet (fail)
                  go_wp2
                  go_quiet (fail)
                  go_wp2
                  go_roundg (es.length - (q + 1))
                  case measure => rw [HG2.out]; omega
                  case rel =>
                    refine ⟨q + 1, rfl, by omega, by go_num, val_bool HM.out.2.symm, ?_, ?_, ?_⟩
                    · exact (S1.alloc _).drewN _
                    · rw [HM.out.1]; exact (S2.alloc _).drewN _
                    · exact below_drewN (hbj.alloc hbj.size _) _
              · have hd : (((s : Int) == 0) = false) := by simpa using hs0
                have hd2 : (0 : Int) < (s : Int) := by omega
                have hd3 : 0 < s := by omega
                obtain ⟨tk, htk⟩ : ∃ tk, takes s name[k].toNat = tk := ⟨_, rfl⟩
                have HT : Hid (takes s name[k].toNat = tk) := htk
                clear htk
                go_wp2
                go_quiet (fail)
                go_wp2
                go_region_with (go_at_call 11; refine (takes_any _ _ _ _).mono ?_; rintro e w' ⟨rfl, rfl⟩; rw [HT.out])
                all_goals go_wp2
                all_goals first
                  | (have htk : tk = true := by first | assumption | fail
                     subst htk
                     have HM : Hid _ := move_hold HV.out HSC.out hs0 HT.out
                     go_roundg (es.length - (q + 1))
                     case measure => rw [HG2.out]; omega
                     case rel =>
                       refine ⟨q + 1, rfl, by omega, by go_num, val_bool HM.out.2.symm, ?_, ?_, ?_⟩
                       · exact (((S1.alloc _).drewN _).setOther (by unfold Apart at ha; omega) _).alloc _
                       · rw [HM.out.1]; exact (((S2.alloc _).drewN _).set q true).alloc _
                       · exact ((below_drewN (hbj.alloc hbj.size _) _).setCell hb2 _).alloc (by have := hbj.size; simp; omega) _)
                  | (have htk : tk = false := by first | assumption | fail
                     subst htk
                     have HM : Hid _ := move_bar (g := g) HSC.out hs0 HT.out
                     go_roundg (es.length - (q + 1))
                     case measure => rw [HG2.out]; omega
                     case rel =>
                       refine ⟨q + 1, rfl, by omega, by go_num, val_bool HM.out.2.symm, ?_, ?_, ?_⟩
                       · exact ((S1.alloc _).drewN _).alloc _
                       · rw [HM.out.1]; exact ((S2.alloc _).drewN _).alloc _
                       · exact (below_drewN (hbj.alloc hbj.size _) _).alloc (by have := hbj.size; simp; omega) _)
          · have eq : q = es.length := by omega
            have EQ : Hid (q = es.length) := eq
            clear eq
            obtain ⟨rc, hrc⟩ : ∃ rc, reach es g name[k].toNat q = rc := ⟨_, rfl⟩
            have HR : Hid (reach es g name[k].toNat es.length = rc) := by rw [EQ.out] at hrc; exact hrc
            rw [hrc]
            clear hrc
            cases rc
            · have HF : Hid (mt es (bs name) = false) := by
                show mt es (bs name) = false
                have h1 := HI.out
                rw [bs_drop name k hlt] at h1
                have h2 := step_none hcl name[k].toNat ((bs name).drop (k + 1)) HR.out
                exact Bool.eq_false_iff.2 fun h => h2 (h1.2 h)
              go_wp2
              go_ret
              exact ⟨ret_bool HF.out.symm, hbj⟩
            · have S2' : RowB wr b2 o2 (es.length + 1) (Plain.move es g name[k].toNat es.length) := by rw [EQ.out] at S2; exact S2
              have p2j : wr.cell? ⟨pb, 1, none⟩ = some (.slice (some ⟨eb, 0, none⟩) es.length cap) := (hbj.cell (p := ⟨pb, 1, none⟩) p0).trans p2
              have PA : Hid _ := pass_any es hm pb eb cap b2 o2 c2 _ _ p2j (pel.below hbj) (by omega) S2'
              have HI2 : Hid (Some_ es (pass es (Plain.move es g name[k].toNat es.length) es.length) ((bs name).drop (k + 1)) ↔ mt es (bs name) = true) := by
                have h1 := HI.out
                rw [bs_drop name k hlt] at h1
                exact (step_iff hcl name[k].toNat ((bs name).drop (k + 1))).trans h1
              clear S2 S2'
              go_wp2_with fail
              refine Calls.mono PA.out ?_
              rintro e w2 ⟨rfl, T2, M2⟩
              have T1 := M2.row S1 ha.symm
              have hb2' := hbj.trans (M2.below w.heap.size hb2 hbj.size)
              clear PA M2 S1
              go_wp2
              go_roundg (name.size - (k + 1))
              case measure => rw [HG.out]; omega
              case rel => exact ⟨k + 1, rfl, by omega, by go_num, ⟨⟨b2, o2, c2, b1, o1, c1, _, _, rfl, rfl, T2, T1, ha.symm, hb2, hb1, pass_closed _ _, HI2.out⟩, hb2'⟩⟩
      · have HE : Hid (g es.length = mt es (bs name)) := by
          show g es.length = mt es (bs name)
          have := HI.out
          rw [bs_end name k (by omega), end_iff hcl] at this
          exact Bool.eq_iff_iff.2 this
        have r0 := (R1 es.length (by omega)).1
        go_wp2
        go_ret
        exact ⟨ret_bool HE.out, hbel⟩
/-- 'Match' of the documented pattern of t. -/
theorem match_any (t pre name : ByteArray) (ht : t.size ≤ 1024) (hn : name.size ≤ 1024) (hps : pre.size ≤ 1024) (pb eb cap : Nat) (isP : Bool) (w : World) (hP : PatAt w pb eb cap t pre (decide (stars (bs t) = 0)) isP)
    (hpre : isP = true → bs t = bs pre ++ [42, 42] ∧ stars (bs pre) = 0) :
    Calls Try.prog 6 #[.pointer (some ⟨pb, 0, none⟩), .string name] w fun e w' => e = .returned (.bool (mt (toks (bs t)) (bs name))) ∧ Below w.heap.size w w' := by
  by_cases h0 : stars (bs t) = 0
  · rw [decide_eq_true h0] at hP
    obtain ⟨p0, p1, p2, p3, p4, p5, pel⟩ := hP
    have HE : Hid ((name.toList == t.toList) = mt (toks (bs t)) (bs name)) := by
      show (name.toList == t.toList) = mt (toks (bs t)) (bs name)
      rw [mt_literal (bs t) (bs name) h0, bs_eq]
    clear h0 hpre
    go_enter Try.func6, Try.ntmps6
    go_wp2
    go_ret
    exact ⟨ret_bool HE.out, Below.refl _ _⟩
  · rw [decide_eq_false h0] at hP
    cases isP
    · have h := match_gen t pre name ht hn pb eb cap w hP
      rw [els_toks _ (bs t) (Nat.le_refl _) (bs name)] at h
      exact h
    · obtain ⟨e1, e2⟩ := hpre rfl
      have HE : Hid (hasB name pre = mt (toks (bs t)) (bs name)) := by
        show begins (bs pre) (bs name) = mt (toks (bs t)) (bs name)
        rw [e1, mt_begins (bs pre) (bs name) e2]
      obtain ⟨p0, p1, p2, p3, p4, p5, pel⟩ := hP
      clear h0 hpre e1 e2
      go_enter Try.func6, Try.ntmps6
      go_wp2_with fail
      refine (has_any name pre _ hn hps).mono ?_
      rintro e w' ⟨rfl, rfl⟩
      rw [HE.out]
      go_wp2
      go_ret
      exact ⟨rfl, Below.refl _ _⟩
end Go.Proofs.Qxb6627012a
