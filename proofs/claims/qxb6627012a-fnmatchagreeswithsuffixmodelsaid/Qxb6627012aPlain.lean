/-
  THE PLAIN LAW OF THE GLOB SEAT: no Go in sight. A pattern as a list of pieces (kind, byte): kind 0 a literal byte, 1 a lone star, 2 a double star.
-/
namespace Go.Proofs.Qxb6627012a.Plain

/-- A star's run: nothing, or one byte that it takes and a run more. -/
def starM (ok : Nat → Bool) (f : List Nat → Bool) : List Nat → Bool
  | [] => f []
  | c :: n => f (c :: n) || (ok c && starM ok f n)
def litM (b : Nat) (f : List Nat → Bool) : List Nat → Bool
  | [] => false
  | c :: n => b == c && f n
def takes (k c : Nat) : Bool := k == 2 || c != 47
/-- Does the whole name match the whole list of pieces? -/
def mt : List (Nat × Nat) → List Nat → Bool
  | [], n => n.isEmpty
  | (k, b) :: ts, n => if k = 0 then litM b (mt ts) n else starM (takes k) (mt ts) n

theorem mt_nil (n : List Nat) : mt [] n = n.isEmpty := rfl
theorem mt_lit_nil (b : Nat) (ts : List (Nat × Nat)) : mt ((0, b) :: ts) [] = false := rfl
theorem mt_lit_cons (b c : Nat) (ts : List (Nat × Nat)) (n : List Nat) : mt ((0, b) :: ts) (c :: n) = (b == c && mt ts n) := rfl
theorem mt_star_nil {k b : Nat} (hk : k ≠ 0) (ts : List (Nat × Nat)) : mt ((k, b) :: ts) [] = mt ts [] := by
  simp [mt, hk, starM]
theorem mt_star_cons {k b c : Nat} (hk : k ≠ 0) (ts : List (Nat × Nat)) (n : List Nat) :
    mt ((k, b) :: ts) (c :: n) = (mt ts (c :: n) || (takes k c && mt ((k, b) :: ts) n)) := by
  simp [mt, hk, starM]

/-! ### The package's own split, and the model's tokens -/
def els : List Nat → List (Nat × Nat)
  | [] => []
  | [c] => if c = 42 then [(1, 0)] else [(0, c)]
  | c :: d :: r => if c = 42 then (if d = 42 then (2, 0) :: els r else (1, 0) :: els (d :: r)) else (0, c) :: els (d :: r)

def run (l : List Nat) : Nat := (l.takeWhile (fun c => c == 42)).length

/-- The tokens, with fuel. -/
def toksF : Nat → List Nat → List (Nat × Nat)
  | 0, _ => []
  | _ + 1, [] => []
  | f + 1, c :: r => if c = 42 then ((if run r = 0 then 1 else 2), 0) :: toksF f (r.drop (run r)) else (0, c) :: toksF f r
def toks (l : List Nat) : List (Nat × Nat) := toksF l.length l

theorem toksF_fuel : ∀ (f g : Nat) (l : List Nat), l.length ≤ f → l.length ≤ g → toksF f l = toksF g l := by
  intro f
  induction f with
  | zero =>
    intro g l h _
    have : l = [] := by cases l; rfl; simp at h
    subst this
    cases g <;> rfl
  | succ f ih =>
    intro g l h h'
    cases l with
    | nil => cases g <;> rfl
    | cons c r =>
      cases g with
      | zero => simp at h'
      | succ g =>
        simp at h h'
        simp only [toksF]
        rw [ih g r h h', ih g (r.drop (run r)) (by simp; omega) (by simp; omega)]

theorem toks_nil : toks [] = [] := rfl
theorem toks_lit (c : Nat) (r : List Nat) (h : c ≠ 42) : toks (c :: r) = (0, c) :: toks r := by
  show toksF (r.length + 1) (c :: r) = _
  simp [toksF, h, toks]
theorem toks_star (r : List Nat) : toks (42 :: r) = ((if run r = 0 then 1 else 2), 0) :: toks (r.drop (run r)) := by
  show toksF (r.length + 1) (42 :: r) = _
  simp only [toksF, if_true, toks]
  rw [toksF_fuel r.length (r.drop (run r)).length (r.drop (run r)) (by simp) (by simp)]

/-! ### Stars that stand together are one -/
theorem starM_mono {ok : Nat → Bool} {f g : List Nat → Bool} (h : ∀ n, f n = true → g n = true) : ∀ n, starM ok f n = true → starM ok g n = true := by
  intro n
  induction n with
  | nil => exact h []
  | cons c n ih =>
    simp only [starM, Bool.or_eq_true, Bool.and_eq_true]
    rintro (a | ⟨a, b⟩)
    · exact .inl (h _ a)
    · exact .inr ⟨a, ih b⟩
theorem starM_self {ok : Nat → Bool} {f : List Nat → Bool} {n : List Nat} (h : f n = true) : starM ok f n = true := by
  cases n with
  | nil => exact h
  | cons c n => simp [starM, h]
/-- A double star ahead of any other star swallows it. -/
theorem starM_swallow (k : Nat) (f : List Nat → Bool) : ∀ n, starM (takes 2) (starM (takes k) f) n = starM (takes 2) f n := by
  intro n
  rw [Bool.eq_iff_iff]
  constructor
  · induction n with
    | nil => exact id
    | cons c n ih =>
      simp only [starM, Bool.or_eq_true, Bool.and_eq_true, takes]
      rintro ((a | ⟨_, b⟩) | ⟨_, b⟩)
      · exact .inl a
      · refine .inr ⟨by simp, ?_⟩
        have hx : ∀ n, starM (fun c => k == 2 || c != 47) f n = true → starM (takes 2) f n = true := by
          intro n
          induction n with
          | nil => exact id
          | cons d n ih2 =>
            simp only [starM, Bool.or_eq_true, Bool.and_eq_true]
            rintro (a | ⟨_, b⟩)
            · exact .inl a
            · exact .inr ⟨by simp [takes], ih2 b⟩
        exact hx n b
      · exact .inr ⟨by simp, ih b⟩
  · exact starM_mono (fun n h => starM_self h) n
theorem mt_swallow {k : Nat} (hk : k ≠ 0) (b b' : Nat) (ts : List (Nat × Nat)) (n : List Nat) : mt ((2, b) :: (k, b') :: ts) n = mt ((2, b) :: ts) n := by
  have e : mt ((k, b') :: ts) = starM (takes k) (mt ts) := by funext n; simp [mt, hk]
  show starM (takes 2) (mt ((k, b') :: ts)) n = starM (takes 2) (mt ts) n
  rw [e]; exact starM_swallow k _ n

theorem mt_congr {k b : Nat} {ts ts' : List (Nat × Nat)} (h : ∀ n, mt ts n = mt ts' n) (n : List Nat) : mt ((k, b) :: ts) n = mt ((k, b) :: ts') n := by
  have e : mt ts = mt ts' := funext h
  simp only [mt, e]

theorem run_nil : run [] = 0 := rfl
theorem run_star (r : List Nat) : run (42 :: r) = run r + 1 := by simp [run]
theorem run_lit (c : Nat) (r : List Nat) (h : c ≠ 42) : run (c :: r) = 0 := by simp [run, h]

/-- The package's split behind a double star: the rest of the run is swallowed. -/
theorem els_behind : ∀ (m : Nat) (r : List Nat), r.length ≤ m → ∀ n, mt ((2, 0) :: els r) n = mt ((2, 0) :: els (r.drop (run r))) n := by
  intro m
  induction m with
  | zero =>
    intro r h n
    have : r = [] := by cases r; rfl; simp at h
    subst this; rfl
  | succ m ih =>
    intro r h n
    match r, h with
    | [], _ => rfl
    | [c], _ =>
      by_cases hc : c = 42
      · subst hc
        show mt ((2, 0) :: (1, 0) :: []) n = mt ((2, 0) :: []) n
        exact mt_swallow (by decide) _ _ _ _
      · rw [run_lit c [] hc]; rfl
    | c :: d :: r, h =>
      by_cases hc : c = 42
      · subst hc
        rw [run_star]
        by_cases hd : d = 42
        · subst hd
          rw [run_star]
          have e : els (42 :: 42 :: r) = (2, 0) :: els r := by simp [els]
          rw [e, mt_swallow (by decide)]
          simp only [List.drop_succ_cons]
          exact ih r (by simp at h; omega) n
        · rw [run_lit d r hd]
          have e : els (42 :: d :: r) = (1, 0) :: els (d :: r) := by simp [els, hd]
          rw [e, mt_swallow (by decide)]
          rfl
      · rw [run_lit c _ hc]; rfl

/-- The two splits match the same names. -/
theorem els_toks : ∀ (m : Nat) (l : List Nat), l.length ≤ m → ∀ n, mt (els l) n = mt (toks l) n := by
  intro m
  induction m with
  | zero =>
    intro l h n
    have : l = [] := by cases l; rfl; simp at h
    subst this; rfl
  | succ m ih =>
    intro l h n
    match l, h with
    | [], _ => rfl
    | [c], _ =>
      by_cases hc : c = 42
      · subst hc; rfl
      · rw [toks_lit c [] hc]; simp [els, hc, toks_nil]
    | c :: d :: r, h =>
      simp at h
      by_cases hc : c = 42
      · subst hc
        rw [toks_star]
        by_cases hd : d = 42
        · subst hd
          rw [run_star]
          have e : els (42 :: 42 :: r) = (2, 0) :: els r := by simp [els]
          rw [e, els_behind _ r (Nat.le_refl _)]
          simp only [List.drop_succ_cons, Nat.add_one_ne_zero, if_false]
          exact mt_congr (ih _ (by simp; omega)) n
        · rw [run_lit d r hd]
          have e : els (42 :: d :: r) = (1, 0) :: els (d :: r) := by simp [els, hd]
          rw [e]
          exact mt_congr (ih _ (by simp; omega)) n
      · rw [toks_lit c _ hc]
        have e : els (c :: d :: r) = (0, c) :: els (d :: r) := by simp [els, hc]
        rw [e]
        exact mt_congr (ih _ (by simp; omega)) n

/-! ### A pattern without a star; a pattern whose only star is a double star at its end -/
def stars (l : List Nat) : Nat := (l.filter (fun c => c == 42)).length
theorem mt_literal : ∀ (l n : List Nat), stars l = 0 → mt (toks l) n = decide (n = l) := by
  intro l
  induction l with
  | nil => intro n _; cases n <;> simp [toks_nil, mt]
  | cons c l ih =>
    intro n h
    have hc : c ≠ 42 := by
      intro e; subst e; simp [stars] at h
    have hl : stars l = 0 := by simpa [stars, List.filter_cons, hc] using h
    rw [toks_lit c l hc]
    cases n with
    | nil => simp [mt, litM]
    | cons d n =>
      rw [mt_lit_cons, ih n hl, Bool.eq_iff_iff]
      simp
      exact fun _ => eq_comm

theorem starM_all (n : List Nat) : starM (takes 2) (mt []) n = true := by
  induction n with
  | nil => rfl
  | cons c n ih => simp [starM, takes, ih]
def begins (p n : List Nat) : Bool := decide (n.take p.length = p)
theorem mt_begins : ∀ (p n : List Nat), stars p = 0 → mt (toks (p ++ [42, 42])) n = begins p n := by
  intro p
  induction p with
  | nil =>
    intro n _
    show mt (toks [42, 42]) n = _
    rw [toks_star]
    show starM (takes 2) (mt []) n = _
    rw [starM_all]; simp [begins]
  | cons c p ih =>
    intro n h
    have hc : c ≠ 42 := by intro e; subst e; simp [stars] at h
    have hl : stars p = 0 := by simpa [stars, List.filter_cons, hc] using h
    rw [List.cons_append, toks_lit c _ hc]
    cases n with
    | nil => simp [mt, litM, begins]
    | cons d n =>
      rw [mt_lit_cons, ih n hl, Bool.eq_iff_iff]
      simp [begins]
      exact fun _ => eq_comm

/-! ### The forward walk over places -/
def isStar (es : List (Nat × Nat)) (j : Nat) : Bool := decide ((es.getD j (0, 0)).1 ≠ 0)
def up (g : Nat → Bool) (i : Nat) (v : Bool) : Nat → Bool := fun j => if j = i then v else g j
/-- 'passStars' after j rounds. -/
def pass (es : List (Nat × Nat)) (f : Nat → Bool) : Nat → Nat → Bool
  | 0 => f
  | j + 1 => if pass es f j j && isStar es j then up (pass es f j) (j + 1) true else pass es f j

theorem pass_step (es : List (Nat × Nat)) (f : Nat → Bool) (j i : Nat) : pass es f (j + 1) i = (pass es f j i || (decide (i = j + 1) && pass es f j j && isStar es j)) := by
  simp only [pass]
  split
  · rename_i h
    simp only [Bool.and_eq_true] at h
    simp only [up]
    split
    · rename_i e; subst e; simp [h]
    · rename_i e; simp [e]
  · rename_i h
    simp only [Bool.and_eq_true, not_and, Bool.not_eq_true] at h
    by_cases a : pass es f j j = true
    · simp [a, h a]
    · simp [Bool.eq_false_iff.2 a]
/-- What 'passStars' keeps and makes: the old places stay; places below the round are closed; a new place leads back by stars to an old one. -/
theorem pass_spec (es : List (Nat × Nat)) (f : Nat → Bool) : ∀ j, (∀ i, f i = true → pass es f j i = true) ∧ (∀ i, i < j → pass es f j i = true → isStar es i = true → pass es f j (i + 1) = true) ∧
    (∀ i, pass es f j i = true → ∃ i0, i0 ≤ i ∧ f i0 = true ∧ ∀ x, i0 ≤ x → x < i → isStar es x = true ∧ x < j) := by
  intro j
  induction j with
  | zero => exact ⟨fun i h => h, fun i h => by omega, fun i h => ⟨i, Nat.le_refl _, h, fun x a b => by omega⟩⟩
  | succ j ih =>
    obtain ⟨h1, h2, h3⟩ := ih
    refine ⟨fun i h => by rw [pass_step]; simp [h1 i h], ?_, ?_⟩
    · intro i hi hp hs
      rw [pass_step] at hp ⊢
      by_cases e : i = j
      · subst e
        have hp' : pass es f i i = true := by simpa using hp
        simp [hp', hs]
      · have : ¬ i = j + 1 := by omega
        have hp' : pass es f j i = true := by simpa [this] using hp
        simp [h2 i (by omega) hp' hs]
    · intro i hp
      rw [pass_step] at hp
      by_cases a : pass es f j i = true
      · obtain ⟨i0, x, y, z⟩ := h3 i a
        exact ⟨i0, x, y, fun u v v' => ⟨(z u v v').1, by have := (z u v v').2; omega⟩⟩
      · simp only [Bool.or_eq_true, a, false_or, Bool.and_eq_true, decide_eq_true_eq, Bool.false_eq_true] at hp
        obtain ⟨⟨e, b⟩, c⟩ := hp
        subst e
        obtain ⟨i0, x, y, z⟩ := h3 j b
        refine ⟨i0, by omega, y, fun u v v' => ?_⟩
        by_cases e : u = j
        · subst e; exact ⟨c, by omega⟩
        · exact ⟨(z u v (by omega)).1, by omega⟩

/-- One byte read: what the inner loop has laid after j rounds. -/
def hits (es : List (Nat × Nat)) (j c : Nat) : Bool := let e := es.getD j (0, 0); decide (e.1 = 0) && e.2 == c
def holds (es : List (Nat × Nat)) (j c : Nat) : Bool := let e := es.getD j (0, 0); decide (e.1 ≠ 0) && takes e.1 c
def move (es : List (Nat × Nat)) (at_ : Nat → Bool) (c : Nat) : Nat → Nat → Bool
  | 0 => fun _ => false
  | j + 1 => if at_ j then (if hits es j c then up (move es at_ c j) (j + 1) true else if holds es j c then up (move es at_ c j) j true else move es at_ c j) else move es at_ c j
def reach (es : List (Nat × Nat)) (at_ : Nat → Bool) (c : Nat) : Nat → Bool
  | 0 => false
  | j + 1 => reach es at_ c j || (at_ j && (hits es j c || holds es j c))

theorem hits_holds (es : List (Nat × Nat)) (j c : Nat) : hits es j c = true → holds es j c = false := by
  simp only [hits, holds]
  intro h
  simp only [Bool.and_eq_true, decide_eq_true_eq] at h
  rw [h.1]; rfl
theorem move_iff (es : List (Nat × Nat)) (at_ : Nat → Bool) (c : Nat) : ∀ j i, move es at_ c j i = true ↔ (∃ x, x < j ∧ at_ x = true ∧ ((hits es x c = true ∧ i = x + 1) ∨ (holds es x c = true ∧ i = x))) := by
  intro j
  induction j with
  | zero => intro i; simp [move]
  | succ j ih =>
    intro i
    have key : move es at_ c (j + 1) i = true ↔ (move es at_ c j i = true ∨ (at_ j = true ∧ ((hits es j c = true ∧ i = j + 1) ∨ (holds es j c = true ∧ i = j)))) := by
      simp only [move]
      by_cases a : at_ j = true
      · rw [if_pos a]
        by_cases b : hits es j c = true
        · have hb := hits_holds es j c b
          rw [if_pos b]
          simp only [up]
          by_cases e : i = j + 1
          · simp [e, a, b]
          · simp [e, a, hb]
        · rw [if_neg b]
          by_cases d : holds es j c = true
          · rw [if_pos d]
            simp only [up]
            by_cases e : i = j
            · simp [e, a, d]
            · simp [e, a, b]
          · rw [if_neg d]; simp [a, b, d]
      · rw [if_neg a]; simp [a]
    rw [key, ih]
    constructor
    · rintro (⟨x, a, b⟩ | ⟨a, b⟩)
      · exact ⟨x, by omega, b⟩
      · exact ⟨j, by omega, a, b⟩
    · rintro ⟨x, a, b, d⟩
      by_cases e : x = j
      · subst e; exact .inr ⟨b, d⟩
      · exact .inl ⟨x, by omega, b, d⟩
theorem reach_iff (es : List (Nat × Nat)) (at_ : Nat → Bool) (c : Nat) : ∀ j, reach es at_ c j = true ↔ ∃ x, x < j ∧ at_ x = true ∧ (hits es x c = true ∨ holds es x c = true) := by
  intro j
  induction j with
  | zero => simp [reach]
  | succ j ih =>
    simp only [reach, Bool.or_eq_true, Bool.and_eq_true, ih]
    constructor
    · rintro (⟨x, a, b⟩ | ⟨a, b⟩)
      · exact ⟨x, by omega, b⟩
      · exact ⟨j, by omega, a, b⟩
    · rintro ⟨x, a, b, d⟩
      by_cases e : x = j
      · subst e; exact .inr ⟨b, d⟩
      · exact .inl ⟨x, by omega, b, d⟩

/-- Closed under stars. -/
def Closed (es : List (Nat × Nat)) (g : Nat → Bool) : Prop := ∀ i, i < es.length → g i = true → isStar es i = true → g (i + 1) = true
/-- Some place leads to the end of the rest of the name. -/
def Some_ (es : List (Nat × Nat)) (g : Nat → Bool) (n : List Nat) : Prop := ∃ j, j ≤ es.length ∧ g j = true ∧ mt (es.drop j) n = true

theorem drop_at (es : List (Nat × Nat)) (j : Nat) (h : j < es.length) : es.drop j = es.getD j (0, 0) :: es.drop (j + 1) := by
  rw [List.drop_eq_getElem_cons h]
  simp [List.getD, h]

theorem back {es : List (Nat × Nat)} {n : List Nat} : ∀ (d i0 i : Nat), i = i0 + d → i ≤ es.length → (∀ x, i0 ≤ x → x < i → isStar es x = true) → mt (es.drop i) n = true → mt (es.drop i0) n = true := by
  intro d
  induction d with
  | zero => intro i0 i e _ _ h; simpa [e] using h
  | succ d ih =>
    intro i0 i e hl hs h
    have h1 := ih (i0 + 1) i (by omega) hl (fun x a b => hs x (by omega) b) h
    have hst := hs i0 (Nat.le_refl _) (by omega)
    rw [drop_at es i0 (by omega)]
    simp only [isStar, decide_eq_true_eq] at hst
    cases n with
    | nil => rw [show es.getD i0 (0, 0) = ((es.getD i0 (0, 0)).1, (es.getD i0 (0, 0)).2) from rfl, mt_star_nil hst]; exact h1
    | cons c n => rw [show es.getD i0 (0, 0) = ((es.getD i0 (0, 0)).1, (es.getD i0 (0, 0)).2) from rfl, mt_star_cons hst]; simp [h1]

/-- The start. -/
theorem start_iff (es : List (Nat × Nat)) (n : List Nat) : Some_ es (pass es (fun i => decide (i = 0)) es.length) n ↔ mt es n = true := by
  obtain ⟨h1, _, h3⟩ := pass_spec es (fun i => decide (i = 0)) es.length
  constructor
  · rintro ⟨j, hj, hp, hm⟩
    obtain ⟨i0, _, hf, hs⟩ := h3 j hp
    have e : i0 = 0 := by simpa using hf
    subst e
    have := back (n := n) j 0 j (by omega) hj (fun x a b => (hs x a b).1) hm
    simpa using this
  · intro h
    exact ⟨0, Nat.zero_le _, h1 0 (by simp), by simpa using h⟩
theorem pass_closed (es : List (Nat × Nat)) (f : Nat → Bool) : Closed es (pass es f es.length) := fun i hi hp hs => (pass_spec es f es.length).2.1 i hi hp hs

theorem step_there {es : List (Nat × Nat)} {g : Nat → Bool} (hc : Closed es g) (c : Nat) (n : List Nat) : ∀ (d j : Nat), j + d = es.length → g j = true → mt (es.drop j) (c :: n) = true →
    Some_ es (move es g c es.length) n := by
  intro d
  induction d with
  | zero =>
    intro j e _ hm
    rw [show es.drop j = [] from List.drop_eq_nil_of_le (by omega)] at hm
    simp [mt] at hm
  | succ d ih =>
    intro j e hg hm
    rw [drop_at es j (by omega)] at hm
    obtain ⟨k, b, hkb⟩ : ∃ k b, es.getD j (0, 0) = (k, b) := ⟨_, _, rfl⟩
    rw [hkb] at hm
    by_cases hk : k = 0
    · subst hk
      rw [mt_lit_cons] at hm
      simp only [Bool.and_eq_true] at hm
      refine ⟨j + 1, by omega, (move_iff _ _ _ _ _).2 ⟨j, by omega, hg, .inl ⟨?_, rfl⟩⟩, hm.2⟩
      simp only [hits, hkb]; simpa using hm.1
    · rw [mt_star_cons hk] at hm
      simp only [Bool.or_eq_true, Bool.and_eq_true] at hm
      rcases hm with hm | ⟨ht, hm⟩
      · refine ih (j + 1) (by omega) (hc j (by omega) hg ?_) hm
        simp only [isStar, hkb]; simpa using hk
      · refine ⟨j, by omega, (move_iff _ _ _ _ _).2 ⟨j, by omega, hg, .inr ⟨?_, rfl⟩⟩, ?_⟩
        · simp only [holds, hkb]; simp [hk, ht]
        · rw [drop_at es j (by omega), hkb]; exact hm

/-- One byte read and the stars passed. -/
theorem step_iff {es : List (Nat × Nat)} {g : Nat → Bool} (hc : Closed es g) (c : Nat) (n : List Nat) :
    Some_ es (pass es (move es g c es.length) es.length) n ↔ Some_ es g (c :: n) := by
  obtain ⟨h1, _, h3⟩ := pass_spec es (move es g c es.length) es.length
  constructor
  · rintro ⟨j, hj, hp, hm⟩
    obtain ⟨i0, hi, hf, hs⟩ := h3 j hp
    have hm0 := back (n := n) (j - i0) i0 j (by omega) hj (fun x a b => (hs x a b).1) hm
    obtain ⟨x, hx, hgx, hcase⟩ := (move_iff _ _ _ _ _).1 hf
    refine ⟨x, by omega, hgx, ?_⟩
    rw [drop_at es x hx]
    obtain ⟨k, b, hkb⟩ : ∃ k b, es.getD x (0, 0) = (k, b) := ⟨_, _, rfl⟩
    rcases hcase with ⟨hh, e⟩ | ⟨hh, e⟩
    · subst e
      simp only [hits, hkb, Bool.and_eq_true, decide_eq_true_eq] at hh
      rw [hkb, hh.1, mt_lit_cons]
      simp [hh.2, hm0]
    · subst e
      simp only [holds, hkb, Bool.and_eq_true, decide_eq_true_eq] at hh
      rw [hkb, mt_star_cons hh.1]
      rw [drop_at es i0 hx, hkb] at hm0
      simp [hh.2, hm0]
  · rintro ⟨j, hj, hg, hm⟩
    obtain ⟨i, hi, hmv, hm'⟩ := step_there hc c n (es.length - j) j (by omega) hg hm
    exact ⟨i, hi, h1 i hmv, hm'⟩
theorem step_none {es : List (Nat × Nat)} {g : Nat → Bool} (hc : Closed es g) (c : Nat) (n : List Nat) (h : reach es g c es.length = false) : ¬ Some_ es g (c :: n) := by
  rw [← step_iff hc]
  rintro ⟨j, hj, hp, _⟩
  obtain ⟨i0, _, hf, _⟩ := (pass_spec es (move es g c es.length) es.length).2.2 j hp
  obtain ⟨x, hx, hgx, hcase⟩ := (move_iff _ _ _ _ _).1 hf
  have : reach es g c es.length = true := (reach_iff _ _ _ _).2 ⟨x, hx, hgx, by rcases hcase with ⟨a, _⟩ | ⟨a, _⟩ <;> simp [a]⟩
  rw [h] at this; cases this
/-- The end. -/
theorem end_iff {es : List (Nat × Nat)} {g : Nat → Bool} (hc : Closed es g) : Some_ es g [] ↔ g es.length = true := by
  constructor
  · rintro ⟨j, hj, hg, hm⟩
    have : ∀ (d j : Nat), j + d = es.length → g j = true → mt (es.drop j) [] = true → g es.length = true := by
      intro d
      induction d with
      | zero => intro j e hg _; rw [← e]; exact hg
      | succ d ih =>
        intro j e hg hm
        rw [drop_at es j (by omega)] at hm
        obtain ⟨k, b, hkb⟩ : ∃ k b, es.getD j (0, 0) = (k, b) := ⟨_, _, rfl⟩
        rw [hkb] at hm
        by_cases hk : k = 0
        · subst hk; rw [mt_lit_nil] at hm; cases hm
        · rw [mt_star_nil hk] at hm
          exact ih (j + 1) (by omega) (hc j (by omega) hg (by simp only [isStar, hkb]; simpa using hk)) hm
    exact this (es.length - j) j (by omega) hg hm
  · intro h
    exact ⟨es.length, Nat.le_refl _, h, by simp [mt]⟩
end Go.Proofs.Qxb6627012a.Plain
