/-
  THE GLOB SEAT: 'modelMatch' walked. By an AI agent.
-/
import Derived.Test.Qxb6627012aToks
namespace Go.Proofs.Qxb6627012a
open Go.RowKit Plain
set_option linter.unusedVariables false
set_option linter.unusedSimpArgs false

theorem toksF_kind : ∀ (f : Nat) (l : List Nat), ∀ e ∈ toksF f l, e.1 ≤ 2
  | 0, _, e, h => by simp [toksF] at h
  | f + 1, [], e, h => by simp [toksF] at h
  | f + 1, c :: r, e, h => by
    simp only [toksF] at h
    split at h
    · simp only [List.mem_cons] at h
      rcases h with h | h
      · subst h; simp; split <;> omega
      · exact toksF_kind f _ e h
    · simp only [List.mem_cons] at h
      rcases h with h | h
      · subst h; simp
      · exact toksF_kind f _ e h
theorem toks_kind (l : List Nat) (j : Nat) : ((toks l).getD j (0, 0)).1 ≤ 2 := by
  by_cases h : j < (toks l).length
  · have : (toks l).getD j (0, 0) = (toks l)[j] := by simp [List.getD, h]
    rw [this]; exact toksF_kind _ _ _ (List.getElem_mem h)
  · have : (toks l).getD j (0, 0) = (0, 0) := by simp [List.getD, List.getElem?_eq_none (Nat.le_of_not_lt h)]
    rw [this]; simp

/-- The tokens as they lie in memory. -/
structure TokAt (w : World) (K L : Nat) (ts : List (Nat × Nat)) : Prop where
  lk : K < w.heap.size
  ll : L < w.heap.size
  kind : ∀ j, j < ts.length → w.cell? ⟨K, j, none⟩ = some (.int .i64 (ts.getD j (0, 0)).1)
  lit : ∀ j, j < ts.length → w.cell? ⟨L, j, none⟩ = some (.int .u8 (ts.getD j (0, 0)).2)
theorem TokRel.at {t : ByteArray} {w wr : World} {L k : Nat} {ts : List (Nat × Nat)} (h : TokRel t w wr L k ts) : TokAt wr w.heap.size L ts := by
  refine ⟨(h.kinds.lt _ rfl).2, (h.lits.lt _ rfl).2, fun j hj => ?_, fun j hj => ?_⟩
  · rw [h.kinds.cellAt j (by omega)]; simp [kCells, hj]
  · rw [h.lits.cellAt j (by omega)]; simp [lCells, hj]
theorem TokAt.below {w w' : World} {K L : Nat} {ts : List (Nat × Nat)} (h : TokAt w K L ts) (hb : Below w.heap.size w w') : TokAt w' K L ts :=
  ⟨by have := hb.size; have := h.lk; omega, by have := hb.size; have := h.ll; omega, fun j hj => (hb.cell (p := ⟨K, j, none⟩) h.lk).trans (h.kind j hj), fun j hj => (hb.cell (p := ⟨L, j, none⟩) h.ll).trans (h.lit j hj)⟩

theorem info4' : (Try.prog.info? 4).map (fun i => (i.zero, i.size, i.bytes)) = some (some (.bool false), 1, 1) := by kernel_rfl
theorem rowB_made {w : World} {base b n cap : Nat} (h : w.ownsRow base 4 1 (.slice (some ⟨b, 0, none⟩) n cap) n (madeCells #[.bool false] n).toList) : RowB w b 0 n (fun _ => false) := by
  intro j hj
  rw [Nat.zero_add]
  refine ⟨?_, h.frozenAt j⟩
  rw [h.cellAt j (by omega), toList_madeCells_one]
  simp [hj]
theorem RowB.set0 {w : World} {b n : Nat} {f : Nat → Bool} (h : RowB w b 0 n f) (i : Nat) (v : Bool) : RowB (w.setCell ⟨b, i, none⟩ (.bool v)) b 0 n (up f i v) := by
  have := h.set i v; rwa [Nat.zero_add] at this
theorem RowB.other {w : World} {b n b' o' : Nat} {f : Nat → Bool} (h : RowB w b 0 n f) (hd : b' ≠ b) (v : Value) : RowB (w.setCell ⟨b', o', none⟩ v) b 0 n f := h.setOther (by omega) v
theorem RowB.at0 {w : World} {b n : Nat} {f : Nat → Bool} (h : RowB w b 0 n f) (j : Nat) (hj : j < n) : w.cell? ⟨b, j, none⟩ = some (.bool (f j)) ∧ w.frozen? ⟨b, j, none⟩ = false := by
  have := h j hj; rwa [Nat.zero_add] at this
theorem RowB.grown {w w' : World} {b off n : Nat} {row : Option Nat} {f : Nat → Bool} (h : RowB w b off n f) (hg : w.grownBy w' row) (hne : some b ≠ row) : RowB w' b off n f := by
  intro j hj
  have hb := h.lt (by omega)
  exact ⟨(World.cell?_of_block (a := ⟨b, off + j, none⟩) (hg.block b hb hne)).trans (h j hj).1, (World.frozen?_of_block (a := ⟨b, off + j, none⟩) (hg.block b hb hne)).trans (h j hj).2⟩

/-! ### the table's recurrence -/
theorem rec_nil {ts : List (Nat × Nat)} {k s b : Nat} (hk : k < ts.length) (h : ts.getD k (0, 0) = (s, b)) : mt (ts.drop k) [] = (decide (s ≠ 0) && mt (ts.drop (k + 1)) []) := by
  rw [drop_at ts k hk, h]
  by_cases hs : s = 0
  · subst hs; rw [mt_lit_nil]; simp
  · rw [mt_star_nil hs]; simp [hs]
theorem rec_lit {ts : List (Nat × Nat)} {k b c : Nat} {n : List Nat} (hk : k < ts.length) (h : ts.getD k (0, 0) = (0, b)) : mt (ts.drop k) (c :: n) = (b == c && mt (ts.drop (k + 1)) n) := by
  rw [drop_at ts k hk, h, mt_lit_cons]
theorem rec_star {ts : List (Nat × Nat)} {k s b c : Nat} {n : List Nat} (hs : s ≠ 0) (hk : k < ts.length) (h : ts.getD k (0, 0) = (s, b)) : mt (ts.drop k) (c :: n) = (mt (ts.drop (k + 1)) (c :: n) || (takes s c && mt (ts.drop k) n)) := by
  rw [drop_at ts k hk, h, mt_star_cons hs]

/-- A row that holds the table's line from k on. -/
def Line (ts : List (Nat × Nat)) (n : List Nat) (k : Nat) (f : Nat → Bool) : Prop := ∀ i, k ≤ i → i ≤ ts.length → f i = mt (ts.drop i) n
theorem Line.step {ts : List (Nat × Nat)} {n : List Nat} {k : Nat} {f : Nat → Bool} {v : Bool} (h : Line ts n (k + 1) f) (hv : v = mt (ts.drop k) n) : Line ts n k (up f k v) := by
  intro i h1 h2
  by_cases e : i = k
  · subst e; simp [up, hv]
  · simp only [up, if_neg e]; exact h i (by omega) h2

set_option maxHeartbeats 1000000 in
set_option maxRecDepth 10000 in
theorem model_any (t name : ByteArray) (w : World) (ht : t.size ≤ 1024) (hn : name.size ≤ 1024) :
    Calls Try.prog 7 #[.string t, .string name] w fun e w' => e = .returned (.bool (mt (toks (bs t)) (bs name))) ∧ Below w.heap.size w w' := by
  obtain ⟨i4, hi4, hz0, hz1, hz2⟩ := info_parts info4'
  go_enter Try.func7, Try.ntmps7
  go_wp2_with fail
  refine (tokens_any t _ ht).mono ?_
  rintro e w1 ⟨L, rfl, hT⟩
  have hA := hT.at
  have hbel := hT.below
  have hlen := hT.len
  have hkind := toks_kind (bs t)
  clear hT
  obtain ⟨ts, hts⟩ : ∃ ts, toks (bs t) = ts := ⟨_, rfl⟩
  rw [hts] at hA hlen hkind ⊢
  have HTS : Hid (toks (bs t) = ts) := hts
  clear hts
  have HKD : Hid (∀ j, (ts.getD j (0, 0)).1 ≤ 2) := hkind
  clear hkind
  have hlk := hA.lk
  have hll := hA.ll
  have hms := hbel.size
  go_wp2_with (at_make; refine wpList_make_full _ rfl _ _ 31 rfl w1.heap.size 4 i4 (.bool false) 1 Try.underlying31 hi4 hz0 hz1 _ _ _ _ (ts.length + 1) rfl rfl (by omega) (by omega) (by rw [hz2]; omega) (by unfold maxLen; omega) (Nat.le_refl _) ?_)
  intro w2 hown hgrow
  have r1 := rowB_made hown
  have b2 : Below w1.heap.size w1 w2 := (Below.refl _ _).grown hgrow (Nat.le_refl _) (fun k e => by cases e)
  have s2 := r1.lt (by omega)
  clear hown hgrow
  go_wp2_with (at_make; refine wpList_make_full _ rfl _ _ 31 rfl w1.heap.size 4 i4 (.bool false) 1 Try.underlying31 hi4 hz0 hz1 _ _ _ _ (ts.length + 1) rfl rfl (by omega) (by omega) (by rw [hz2]; omega) (by unfold maxLen; omega) (by omega) ?_)
  intro w3 hown hgrow
  have r2 := rowB_made hown
  have r1' := r1.grown hgrow (by simp)
  have b3 : Below w1.heap.size w1 w3 := b2.grown hgrow (by omega) (fun k e => by cases e)
  clear hown hgrow r1 b2
  obtain ⟨B1, hB1⟩ : ∃ B1, w1.heap.size = B1 := ⟨_, rfl⟩
  obtain ⟨B2, hB2⟩ : ∃ B2, w2.heap.size = B2 := ⟨_, rfl⟩
  rw [hB1] at r1'
  rw [hB2] at r2
  simp only [hB1, hB2]
  have hBB : B1 < B2 := by omega
  have hB1' : w1.heap.size ≤ B1 := by omega
  clear hB1 hB2 s2
  obtain ⟨c0, f0⟩ := r1'.at0 ts.length (by omega)
  have r1s : RowB (w3.setCell ⟨B1, ts.length, none⟩ (.bool true)) B1 0 (ts.length + 1) (up (fun _ => false) ts.length true) := r1'.set0 _ _
  have r2s : RowB (w3.setCell ⟨B1, ts.length, none⟩ (.bool true)) B2 0 (ts.length + 1) (fun _ => false) := r2.other (by omega) _
  have b3s : Below w1.heap.size w1 (w3.setCell ⟨B1, ts.length, none⟩ (.bool true)) := b3.setCell hB1' _
  have ln : Line ts [] ts.length (up (fun _ => false) ts.length true) := by
    intro i h1 h2
    have : i = ts.length := by omega
    subst this; simp [up, Plain.mt]
  clear r1' r2 b3
  go_wp2
  go_loopg [10] ts.length (fun g j wr => ∃ (k : Nat) (f : Nat → Bool), g = k ∧ k ≤ ts.length ∧ j = .int .i64 ((k : Int) - 1) ∧ RowB wr B1 0 (ts.length + 1) f ∧ Line ts [] k f ∧ RowB wr B2 0 (ts.length + 1) (fun _ => false) ∧ Below w1.heap.size w1 wr)
  case atStart => exact ⟨ts.length, _, rfl, Nat.le_refl _, rfl, r1s, ln, r2s, b3s⟩
  case round =>
    clear r1s r2s b3s ln c0 f0
    obtain ⟨k, f, hgk, hk, rfl, R1, hL, R2, hb⟩ := hrel
    have HG : Hid (gk = k) := hgk
    clear hgk
    by_cases hk0 : 0 < k
    · obtain ⟨q, rfl⟩ : ∃ q, k = q + 1 := ⟨k - 1, by omega⟩
      have hAr := hA.below hb
      obtain ⟨s, c, hsc⟩ : ∃ s c, ts.getD q (0, 0) = (s, c) := ⟨_, _, rfl⟩
      have kc := hAr.kind q (by omega)
      rw [hsc] at kc
      obtain ⟨x0, g0⟩ := R1.at0 q (by omega)
      obtain ⟨x1, _⟩ := R1.at0 (q + 1) (by omega)
      have HN : Hid _ := rec_nil (k := q) (by omega) hsc
      have H1 : Hid (f (q + 1) = mt (ts.drop (q + 1)) []) := hL (q + 1) (Nat.le_refl _) (by omega)
      have HL : Hid (Line ts [] (q + 1) f) := hL
      clear hsc hL hAr
      by_cases hs : s = 0
      · subst hs
        go_wp2
        go_roundg q
        case measure => rw [HG.out]; omega
        case rel => exact ⟨q, _, rfl, by omega, by go_num, R1.set0 q false, HL.out.step (by rw [HN.out]; rfl), R2.other (by omega) _, hb.setCell hB1' _⟩
      · have hs' : ((s : Int) != 0) = true := by simpa using hs
        go_wp2
        go_roundg q
        case measure => rw [HG.out]; omega
        case rel => exact ⟨q, _, rfl, by omega, by go_num, R1.set0 q (f (q + 1)), HL.out.step (by rw [HN.out, H1.out]; simp [hs]), R2.other (by omega) _, hb.setCell hB1' _⟩
    · have HL : Hid (Line ts ((bs name).drop name.size) 0 f) := by
        have e : k = 0 := by omega
        subst e
        rw [bs_end name name.size (Nat.le_refl _)]
        exact hL
      clear hL
      go_wp2
      go_loopg [8, 9, 11] name.size (fun g a b i wr => ∃ (p b1 b2 : Nat) (f h : Nat → Bool), g = p ∧ p ≤ name.size ∧ i = .int .i64 ((p : Int) - 1) ∧ a = .slice (some ⟨b1, 0, none⟩) (ts.length + 1) (ts.length + 1) ∧ b = .slice (some ⟨b2, 0, none⟩) (ts.length + 1) (ts.length + 1) ∧
        b1 ≠ b2 ∧ w1.heap.size ≤ b1 ∧ w1.heap.size ≤ b2 ∧ RowB wr b1 0 (ts.length + 1) f ∧ RowB wr b2 0 (ts.length + 1) h ∧ Line ts ((bs name).drop p) 0 f ∧ Below w1.heap.size w1 wr)
      case atStart => exact ⟨name.size, B1, B2, f, _, rfl, Nat.le_refl _, rfl, rfl, rfl, by omega, by omega, by omega, R1, R2, HL.out, hb⟩
      case round =>
        clear R1 R2 HL hb hk hk0 HG
        obtain ⟨p, b1, b2, f, h, hgk, hp, rfl, rfl, rfl, hne, hb1, hb2, R1, R2, hL, hb⟩ := hrel
        have HG : Hid (gk = p) := hgk
        have HL : Hid (Line ts ((bs name).drop p) 0 f) := hL
        clear hgk hL
        by_cases hp0 : 0 < p
        · obtain ⟨o, rfl⟩ : ∃ o, p = o + 1 := ⟨p - 1, by omega⟩
          have hlt : o < name.size := by omega
          rw [show (((o + 1 : Nat) : Int) - 1) = (o : Int) by omega]
          have HD : Hid _ := bs_drop name o hlt
          have hcb := bs_lt name o hlt
          obtain ⟨x0, g0⟩ := R2.at0 ts.length (by omega)
          have R2s := R2.set0 ts.length false
          have R1s : RowB (wr.setCell ⟨b2, ts.length, none⟩ (.bool false)) b1 0 (ts.length + 1) f := R1.other (by omega) _
          have bs' : Below w1.heap.size w1 (wr.setCell ⟨b2, ts.length, none⟩ (.bool false)) := hb.setCell hb2 _
          have ln : Hid (Line ts ((bs name).drop o) ts.length (up h ts.length false)) := by
            intro i h1 h2
            have : i = ts.length := by omega
            subst this; rw [HD.out]; simp [up, Plain.mt]
          clear R1 R2 hb
          go_wp2
          go_loopg [13] ts.length (fun g j wq => ∃ (k : Nat) (h : Nat → Bool), g = k ∧ k ≤ ts.length ∧ j = .int .i64 ((k : Int) - 1) ∧ RowB wq b1 0 (ts.length + 1) f ∧ RowB wq b2 0 (ts.length + 1) h ∧ Line ts ((bs name).drop o) k h ∧ Below w1.heap.size w1 wq)
          case atStart => exact ⟨ts.length, _, rfl, Nat.le_refl _, rfl, R1s, R2s, ln.out, bs'⟩
          case round =>
            clear R1s R2s bs' ln x0 g0
            obtain ⟨k, h', hgk, hk, rfl, R1, R2, hL, hb⟩ := hrel
            have HG2 : Hid (gk = k) := hgk
            clear hgk
            by_cases hk0 : 0 < k
            · obtain ⟨q, rfl⟩ : ∃ q, k = q + 1 := ⟨k - 1, by omega⟩
              have hAr := hA.below hb
              obtain ⟨s, c, hsc⟩ : ∃ s c, ts.getD q (0, 0) = (s, c) := ⟨_, _, rfl⟩
              have kc := hAr.kind q (by omega)
              have lc := hAr.lit q (by omega)
              rw [hsc] at kc lc
              have hs2 : s ≤ 2 := by have := HKD.out q; rw [hsc] at this; exact this
              obtain ⟨x0, _⟩ := R1.at0 q (by omega)
              obtain ⟨x1, _⟩ := R1.at0 (q + 1) (by omega)
              obtain ⟨y0, g0⟩ := R2.at0 q (by omega)
              obtain ⟨y1, _⟩ := R2.at0 (q + 1) (by omega)
              have HSC : Hid (ts.getD q (0, 0) = (s, c)) := hsc
              have F0 : Hid (f q = mt (ts.drop q) ((bs name).drop (o + 1))) := HL.out q (by omega) (by omega)
              have F1 : Hid (f (q + 1) = mt (ts.drop (q + 1)) ((bs name).drop (o + 1))) := HL.out (q + 1) (by omega) (by omega)
              have H1 : Hid (h' (q + 1) = mt (ts.drop (q + 1)) ((bs name).drop o)) := hL (q + 1) (Nat.le_refl _) (by omega)
              have HLN : Hid (Line ts ((bs name).drop o) (q + 1) h') := hL
              clear hsc hL hAr
              rcases (show s = 0 ∨ s = 1 ∨ s = 2 by omega) with rfl | rfl | rfl
              · have HR : Hid (mt (ts.drop q) ((bs name).drop o) = (c == name[o].toNat && f (q + 1))) := by
                  show mt (ts.drop q) ((bs name).drop o) = (c == name[o].toNat && f (q + 1))
                  rw [HD.out, rec_lit (by omega) HSC.out, F1.out]
                by_cases hcc : c = name[o].toNat
                · go_wp2
                  go_roundg q
                  case measure => rw [HG2.out]; omega
                  case rel => exact ⟨q, _, rfl, by omega, by go_num, R1.other (by omega) _, R2.set0 q (f (q + 1)), HLN.out.step (by rw [HR.out]; simp [hcc]), hb.setCell hb2 _⟩
                · have hd : ((c : Int) == (name[o].toNat : Int)) = false := by simpa using fun e => hcc (by omega)
                  go_wp2
                  go_roundg q
                  case measure => rw [HG2.out]; omega
                  case rel => exact ⟨q, _, rfl, by omega, by go_num, R1.other (by omega) _, R2.set0 q false, HLN.out.step (by rw [HR.out]; simp [hcc]), hb.setCell hb2 _⟩
              · have HR : Hid (mt (ts.drop q) ((bs name).drop o) = (h' (q + 1) || (takes 1 name[o].toNat && f q))) := by
                  show mt (ts.drop q) ((bs name).drop o) = (h' (q + 1) || (takes 1 name[o].toNat && f q))
                  rw [F0.out, H1.out, HD.out, rec_star (by decide) (by omega) HSC.out]
                obtain ⟨v, hv⟩ : ∃ v, h' (q + 1) = v := ⟨_, rfl⟩
                rw [hv] at y1 HR
                clear hv H1
                cases v
                · by_cases h47 : name[o].toNat = 47
                  · have h47' : ((name[o].toNat : Int) != 47) = false := by rw [h47]; rfl
                    have H47 : Hid (name[o].toNat = 47) := h47
                    clear h47
                    go_wp2
                    go_roundg q
                    case measure => rw [HG2.out]; omega
                    case rel => exact ⟨q, _, rfl, by omega, by go_num, R1.other (by omega) _, R2.set0 q false, HLN.out.step (by rw [HR.out]; simp [takes, H47.out]), hb.setCell hb2 _⟩
                  · have h47' : ((name[o].toNat : Int) != 47) = true := by simpa using fun e => h47 (by omega)
                    have H47 : Hid (¬ name[o].toNat = 47) := h47
                    clear h47
                    go_wp2
                    go_roundg q
                    case measure => rw [HG2.out]; omega
                    case rel => exact ⟨q, _, rfl, by omega, by go_num, R1.other (by omega) _, R2.set0 q (f q), HLN.out.step (by rw [HR.out]; simp [takes, H47.out]), hb.setCell hb2 _⟩
                · go_wp2
                  go_roundg q
                  case measure => rw [HG2.out]; omega
                  case rel => exact ⟨q, _, rfl, by omega, by go_num, R1.other (by omega) _, R2.set0 q true, HLN.out.step (by rw [HR.out]; simp), hb.setCell hb2 _⟩
              · have HR : Hid (mt (ts.drop q) ((bs name).drop o) = (h' (q + 1) || f q)) := by
                  show mt (ts.drop q) ((bs name).drop o) = (h' (q + 1) || f q)
                  rw [F0.out, H1.out, HD.out, rec_star (by decide) (by omega) HSC.out]
                  simp [takes]
                obtain ⟨v, hv⟩ : ∃ v, h' (q + 1) = v := ⟨_, rfl⟩
                rw [hv] at y1 HR
                clear hv H1
                cases v
                · go_wp2
                  go_roundg q
                  case measure => rw [HG2.out]; omega
                  case rel => exact ⟨q, _, rfl, by omega, by go_num, R1.other (by omega) _, R2.set0 q (f q), HLN.out.step (by rw [HR.out]; simp), hb.setCell hb2 _⟩
                · go_wp2
                  go_roundg q
                  case measure => rw [HG2.out]; omega
                  case rel => exact ⟨q, _, rfl, by omega, by go_num, R1.other (by omega) _, R2.set0 q true, HLN.out.step (by rw [HR.out]; simp), hb.setCell hb2 _⟩
            · have HLN : Hid (Line ts ((bs name).drop o) 0 h') := by
                have e : k = 0 := by omega
                subst e
                exact hL
              clear hL
              go_wp2
              go_roundg o
              case measure => rw [HG.out]; omega
              case rel => exact ⟨o, b2, b1, h', f, rfl, by omega, by go_num, rfl, rfl, fun e => hne e.symm, hb2, hb1, R2, R1, HLN.out, hb⟩
        · have HE : Hid (f 0 = mt ts (bs name)) := by
            have e : p = 0 := by omega
            subst e
            have h := HL.out 0 (Nat.le_refl _) (Nat.zero_le _)
            show f 0 = mt ts (bs name)
            simpa using h
          obtain ⟨x0, _⟩ := R1.at0 0 (by omega)
          go_wp2
          go_ret
          exact ⟨ret_bool (by rw [HTS.out]; exact HE.out), hbel.trans (hb.mono hms)⟩
end Go.Proofs.Qxb6627012a
