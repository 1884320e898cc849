/-
  THE TAIL SEAT: 'FnTailScriptKeepsLastBytes' walked. By an AI agent.
-/
import Derived.Test.Qxb6628159aChunks
namespace Go.Proofs.Qxb6628159a
open Go.RowKit
set_option linter.unusedVariables false
set_option linter.unusedSimpArgs false

/-- All bytes of the first k chunks; what the law's own count of them comes to. -/
def acc (X : Nat → List Int) : Nat → List Int
  | 0 => []
  | k + 1 => acc X k ++ X k
def tot (X : Nat → List Int) : Nat → Nat
  | 0 => 0
  | k + 1 => tot X k + ((X k).length + 24)
theorem acc_tot (X : Nat → List Int) : ∀ k, (acc X k).length ≤ tot X k
  | 0 => Nat.le_refl _
  | k + 1 => by have := acc_tot X k; simp only [acc, tot, List.length_append]; omega
theorem acc_mono (X : Nat → List Int) : ∀ k n, k ≤ n → (acc X k).length ≤ (acc X n).length
  | k, 0, h => by have : k = 0 := by omega
                  subst this; exact Nat.le_refl _
  | k, n + 1, h => by
    by_cases e : k = n + 1
    · subst e; exact Nat.le_refl _
    · have := acc_mono X k n (by omega)
      simp only [acc, List.length_append]; omega

theorem TailAt.grown {w w' : World} {tb base c g : Nat} {a : Option Addr} {xs : List Int} (h : TailAt w tb base a c xs) (hg : w.grownBy w' (some g)) (h1 : tb ≠ g) (h2 : ∀ k, (Value.slice a xs.length c).ownBlock = some k → k ≠ g) : TailAt w' tb base a c xs := by
  refine ⟨by rw [hg.block tb (lt_of_block h.block) (by simpa using h1)]; exact h.block, h.own.kept hg ?_⟩
  cases e : (Value.slice a xs.length c).ownBlock with
  | none => exact .inl rfl
  | some k => exact .inr (by have := h2 k e; simpa using this)
theorem TailAt.below {w w' : World} {tb base c : Nat} {a : Option Addr} {xs : List Int} (h : TailAt w tb base a c xs) (hb : Below w.heap.size w w') : TailAt w' tb base a c xs :=
  ⟨by rw [hb.block tb (lt_of_block h.block)]; exact h.block, own_below h.own hb (fun k e => (h.own.lt k e).2)⟩
theorem one_cell (w : World) (a : Value) (t : TypeId) : ∀ j u, [a][j]? = some u → (w.alloc (.cells #[a] t)).cell? ((⟨w.heap.size, 0, none⟩ : Addr).add j) = some u := by
  intro j u h
  match j, h with
  | 0, h => simp at h; subst h; simp [Addr.add]
theorem one_oneCell (k : IntKind) (a : Int) : ∀ u ∈ [Value.int k a], u.oneCell' = true := by
  intro u hu; simp at hu; subst hu; rfl

/-- What holds between two writes: the Tail at T keeps the last of zs; the row at g holds ws. -/
structure Mid (w wr : World) (T g cap : Nat) (a : Option Addr) (c : Nat) (zs ws : List Int) : Prop where
  tail : TailAt wr T w.heap.size a c (last zs)
  row : wr.ownsRow w.heap.size 5 1 (.slice (some ⟨g, 0, none⟩) ws.length cap) ws.length (bC ws)
  lt : w.heap.size ≤ T ∧ T < g
  far : ∀ k, (Value.slice a (last zs).length c).ownBlock = some k → g < k
  below : Below w.heap.size w wr

theorem ob_slice (p : Option Addr) (n c : Nat) : (Value.slice p n c).ownBlock = p.map (·.block) := by cases p <;> rfl
theorem far_of {g n c : Nat} {p : Option Addr} (h : ∀ k, (Value.slice p n c).ownBlock = some k → g < k) : ∀ k, p.map (·.block) = some k → g < k := fun k e => h k (by rw [ob_slice]; exact e)
/-- Behind the clone and the write. -/
theorem Mid.written {w wr wA wB : World} {T g cap q q' : Nat} {p p' : Option Addr} {zs xk : List Int} (M : Mid w wr T g cap p q zs zs) (bA : Below wr.heap.size wr wA) (TB : TailAt wB T w.heap.size p' q' (last (last zs ++ xk)))
    (WB : Wrote wA wB T (Value.slice p (last zs).length q).ownBlock) (AB : p' = p ∨ ∃ g, p' = some ⟨g, 0, none⟩ ∧ wA.heap.size ≤ g) : Mid w wB T g cap p' q' (zs ++ xk) zs := by
  have l0 := M.row.lt g rfl
  have sr := M.below.size
  have sA := bA.size
  have lt := M.lt
  have rA := own_below M.row bA (fun k e => (M.row.lt k e).2)
  rw [last_app] at TB
  refine ⟨TB, own_wrote rA WB (fun k e => ?_), lt, fun k e => ?_, ?_⟩
  · simp [Value.ownBlock] at e
    subst e
    exact ⟨by omega, fun e => by have := M.far _ e.symm; omega⟩
  · rw [ob_slice] at e
    rcases AB with e1 | ⟨g', e1, hg'⟩
    · rw [e1] at e
      exact far_of M.far k e
    · rw [e1] at e
      injection e with e
      have e' : g' = k := e
      omega
  · exact (M.below.trans (bA.mono sr)).trans (WB.below (B := w.heap.size) (by omega) lt.1 (fun k e => by have := M.far k e; omega))
/-- Behind one append to the row. -/
theorem Mid.push {w wj w1 : World} {T g cap q : Nat} {p : Option Addr} {zs ws : List Int} {v : Int} {o : Obj} (M : Mid w wj T g cap p q zs ws) (hown : w1.ownsRow w.heap.size 5 1 (.slice (some ⟨g, 0, none⟩) (ws ++ [v]).length cap) (ws ++ [v]).length (bC (ws ++ [v])))
    (hg : (wj.alloc o).grownBy w1 (some g)) : Mid w w1 T g cap p q zs (ws ++ [v]) := by
  have lt := M.lt
  refine ⟨(M.tail.alloc o).grown hg (by omega) (fun k e => by have := M.far k e; omega), hown, lt, M.far, ?_⟩
  exact (M.below.alloc M.below.size o).grown hg (by have := M.below.size; simp; omega) (fun k e => by injection e with e; omega)
theorem Chunks.get {w : World} {b off len : Nat} {A : Nat → Option Addr} {C : Nat → Nat} {X : Nat → List Int} (h : Chunks w (some ⟨b, off, none⟩) len A C X) {r : Nat} (hr : r < len) {wx : World} (hb : Below w.heap.size w wx) :
    wx.cell? ⟨b, off + r, none⟩ = some (.slice (A r) (X r).length (C r)) ∧ Cells wx (A r) (X r) := by
  obtain ⟨b', off', e, hc⟩ := h.below hb (by omega)
  injection e with e
  injection e with e1 e2
  subst e1; subst e2
  exact ⟨(hc r hr).1, (hc r hr).2.1⟩

set_option maxHeartbeats 1600000 in
set_option maxRecDepth 100000 in
theorem script_any (a : Option Addr) (len cap : Nat) (A : Nat → Option Addr) (C : Nat → Nat) (X : Nat → List Int) (w : World) (h : Chunks w a len A C X) (hlen : len ≤ 9223372036854775807) :
    Calls Try.prog 4 #[.slice a len cap] w fun e w' => e = .returned (.bool true) ∧ Below w.heap.size w w' := by
  obtain ⟨i5, hi5, hz0, hz1, hz2⟩ := info_parts info5
  go_enter Try.func4, Try.ntmps4
  go_wp2_with fail
  refine (bytes_any a len cap A C X w h hlen).mono ?_
  rintro e w' ⟨r, rfl, rfl, hr⟩
  cases r
  · clear hr
    go_wp2
    go_ret
    exact ⟨rfl, Below.refl _ _⟩
  have HR : Hid (∀ i, i < len → (X i).length ≤ 1048576) := hr rfl
  clear hr
  by_cases hbig : (65536 : Int) < len
  · go_wp2
    go_ret
    exact ⟨rfl, Below.refl _ _⟩
  go_wp2
  go_loopg [3, 4] len (fun g n i wr => ∃ k : Nat, g = len - k ∧ k ≤ len ∧ i = .int .i64 k ∧ n = .int .i64 (tot X k) ∧ (tot X k : Int) ≤ 1048576 ∧ w = wr)
  case atStart => exact ⟨0, by simp, Nat.zero_le _, rfl, rfl, by simp [tot], rfl⟩
  case round =>
    obtain ⟨k, hg, hk, rfl, rfl, hm, rfl⟩ := hrel
    have HG : Hid (gk = len - k) := hg
    clear hg
    by_cases hlt : k < len
    · obtain ⟨b, off, rfl, hc⟩ := h (by omega)
      obtain ⟨h1, _, _, _⟩ := hc k hlt
      have h4 := HR.out k hlt
      obtain ⟨xk, hxk⟩ : ∃ xk, X k = xk := ⟨_, rfl⟩
      obtain ⟨ak, hak⟩ : ∃ ak, A k = ak := ⟨_, rfl⟩
      obtain ⟨ck, hck⟩ : ∃ ck, C k = ck := ⟨_, rfl⟩
      obtain ⟨m, hmm⟩ : ∃ m, tot X k = m := ⟨_, rfl⟩
      have HT : Hid (tot X (k + 1) = m + (xk.length + 24)) := by
        show tot X k + ((X k).length + 24) = m + (xk.length + 24)
        rw [hxk, hmm]
      rw [hxk] at h1 h4
      rw [hak, hck] at h1
      rw [hmm] at hm ⊢
      clear hc hxk hak hck hmm
      by_cases hsum : (1048576 : Int) < m + (xk.length + 24)
      · go_wp2
        go_ret
        exact ⟨rfl, Below.refl _ _⟩
      · go_wp2
        go_roundg (len - (k + 1))
        case measure => rw [HG.out]; omega
        case rel => exact ⟨k + 1, rfl, by omega, by go_num, by rw [HT.out]; go_num, by rw [HT.out]; omega, rfl⟩
    · have ek : len = k := by omega
      subst ek
      clear hlt HG hk
      obtain ⟨m, hmm⟩ : ∃ m, tot X len = m := ⟨_, rfl⟩
      have HM : Hid (tot X len = m) := hmm
      rw [hmm] at hm ⊢
      clear hmm
      go_wp2_with fail
      refine (new_any none 0 0 _).mono ?_
      rintro e w1 ⟨rfl, rfl⟩
      have T0 := TailAt.new (base := w.heap.size) (xs := []) (a := none) (c := 0) (w := w) (base' := w.heap.size) (World.ownsRow_nil _ _ _ _) (Nat.le_refl _)
      have b0 := (Below.refl w.heap.size w).alloc (Nat.le_refl _) (.cells #[.slice none 0 0] 36)
      have s0 : (w.alloc (.cells #[.slice none 0 0] 36)).heap.size = w.heap.size + 1 := by simp
      obtain ⟨w1, hw1⟩ : ∃ w1, w.alloc (.cells #[.slice none 0 0] 36) = w1 := ⟨_, rfl⟩
      have T0' : TailAt w1 w.heap.size w.heap.size none 0 [] := by rw [← hw1]; exact T0
      rw [hw1] at b0 s0 ⊢
      clear hw1 T0
      go_wp2_with (at_make; refine wpList_make_own _ rfl _ _ 22 rfl w.heap.size 5 i5 (.int .u8 0) 1 Try.underlying22 hi5 hz0 hz1 _ _ _ m rfl rfl rfl (by rw [hz2]; omega) (by unfold maxLen; omega) (by omega) ?_)
      intro w2 hown hgrow
      have M0 : Mid w w2 w.heap.size (w.heap.size + 1) m none 0 (acc X 0) (acc X 0) :=
        ⟨T0'.below ((Below.refl _ _).grown hgrow (Nat.le_refl _) (fun k e => (by cases e))), hown, ⟨Nat.le_refl _, by omega⟩, (fun k e => (by cases e)), b0.grown hgrow (by omega) (fun k e => (by cases e))⟩
      clear hown hgrow T0' b0 s0
      go_wp2
      go_loopg [6, 7] len (fun gn v i wr => ∃ (k : Nat) (p : Option Addr) (q : Nat), gn = len - k ∧ k ≤ len ∧ i = .int .i64 k ∧ v = .slice (some ⟨w.heap.size + 1, 0, none⟩) (acc X k).length m ∧ Mid w wr w.heap.size (w.heap.size + 1) m p q (acc X k) (acc X k))
      case atStart => exact ⟨0, none, 0, by simp, Nat.zero_le _, rfl, rfl, M0⟩
      case round =>
        clear M0
        obtain ⟨k, p, q, hg, hk, rfl, rfl, M⟩ := hrel
        have HG : Hid (gk = len - k) := hg
        clear hg
        by_cases hlt : k < len
        · obtain ⟨b, off, rfl, hc⟩ := h.below M.below (by omega)
          obtain ⟨h1, h2, h3, _⟩ := hc k hlt
          have h4 := HR.out k hlt
          have hat := acc_tot X len
          have ham := acc_mono X (k + 1) len (by omega)
          have hac : acc X (k + 1) = acc X k ++ X k := rfl
          rw [hac, List.length_append] at ham
          rw [HM.out] at hat
          obtain ⟨xk, hxk⟩ : ∃ xk, X k = xk := ⟨_, rfl⟩
          obtain ⟨ak, hak⟩ : ∃ ak, A k = ak := ⟨_, rfl⟩
          obtain ⟨ck, hck⟩ : ∃ ck, C k = ck := ⟨_, rfl⟩
          obtain ⟨zs, hzs⟩ : ∃ zs, acc X k = zs := ⟨_, rfl⟩
          have HZ1 : Hid (acc X (k + 1) = zs ++ xk) := by rw [← hxk, ← hzs]; exact hac
          rw [hxk] at h1 h2 h3 h4 ham
          rw [hak] at h1 h2 h3
          rw [hck] at h1 h3
          rw [hzs] at M ham ⊢
          have hfit : zs.length + xk.length ≤ m := by omega
          have HCH : Hid (∀ wx, Below w.heap.size w wx → wx.cell? ⟨b, off + k, none⟩ = some (.slice ak xk.length ck) ∧ Cells wx ak xk) := by
            intro wx hb
            have := h.get hlt hb
            rw [hxk, hak, hck] at this
            exact this
          clear hc hxk hak hck hzs hac hat ham
          go_wp2_with fail
          refine (clone_any ak ck xk wr h2 h3 h4).mono ?_
          rintro e wA ⟨p3, q3, rfl, o3, bA⟩
          go_wp2_with fail
          refine (write_any w.heap.size w.heap.size p q (last zs) p3 q3 xk wA (M.tail.below bA) (by have := M.below.size; have := bA.size; omega) (own_cells o3) (own_nil o3) (by rw [List.length_append, last_len]; omega)).mono ?_
          rintro e wB ⟨rfl, p', q', TB, WB, AB⟩
          have MB := M.written bA TB WB AB
          clear M bA TB WB AB o3 h1 h2
          have h1B := (HCH.out wB MB.below).1
          go_wp2
          go_loopg [6, 11] xk.length (fun gj v j wj => ∃ i : Nat, gj = xk.length - i ∧ i ≤ xk.length ∧ j = .int .i64 i ∧ v = .slice (some ⟨w.heap.size + 1, 0, none⟩) (zs.length + i) m ∧ Mid w wj w.heap.size (w.heap.size + 1) m p' q' (zs ++ xk) (zs ++ xk.take i))
          case atStart => exact ⟨0, by simp, Nat.zero_le _, rfl, rfl, by simpa using MB⟩
          case round =>
            clear MB h1B
            obtain ⟨i, hgi, hi, rfl, rfl, MI⟩ := hrel
            have HGI : Hid (gk = xk.length - i) := hgi
            clear hgi
            obtain ⟨h1i, h2i⟩ := HCH.out wr MI.below
            by_cases hil : i < xk.length
            · obtain ⟨b3, off3, rfl, hc3⟩ := h2i (by intro e; subst e; simp at hil)
              have c3 := hc3 i hil
              obtain ⟨v, hv⟩ : ∃ v, xk.getD i 0 = v := ⟨_, rfl⟩
              rw [hv] at c3
              have el : (zs ++ xk.take i).length = zs.length + i := by simp; omega
              have ROW := MI.row
              rw [el] at ROW
              have EV : Hid (zs ++ xk.take (i + 1) = (zs ++ xk.take i) ++ [v]) := by
                show zs ++ xk.take (i + 1) = (zs ++ xk.take i) ++ [v]
                rw [List.take_succ_eq_append_getElem hil, List.append_assoc]
                rw [← hv]; simp [List.getD, hil]
              clear hc3 hv
              go_wp2_with (at_builtin; refine wpList_append_fits _ rfl (.tmp 74) (.tmp 82) 22 rfl w.heap.size 5 i5 1 Try.underlying22 hi5 hz1 (w.heap.size + 1) (zs.length + i) m (bC (zs ++ xk.take i)) rfl (ROW.alloc _) ⟨wr.heap.size, 0, none⟩ 1 1 [.int .u8 v] rfl rfl (one_cell _ _ _) (one_oneCell _ _) (by omega) ?_)
              intro wn hown hgrow
              have MN : Mid w wn w.heap.size (w.heap.size + 1) m p' q' (zs ++ xk) ((zs ++ xk.take i) ++ [v]) := by
                refine MI.push ?_ hgrow
                rw [bC_app, List.length_append, el]; exact hown
              have MN' : Mid w wn w.heap.size (w.heap.size + 1) m p' q' (zs ++ xk) (zs ++ xk.take (i + 1)) := by rw [EV.out]; exact MN
              clear hown hgrow MN ROW MI
              go_wp2
              go_roundg (xk.length - (i + 1))
              case measure => rw [HGI.out]; omega
              case rel => exact ⟨i + 1, rfl, by omega, by go_num, rfl, MN'⟩
            · have ei : xk.take i = xk := List.take_of_length_le (by omega)
              rw [ei] at MI
              have ei2 : i = xk.length := by omega
              subst ei2
              clear ei hil hi
              have t1 := cell_of_one MI.tail.block
              have KE : Hid _ := keeps_any p' (some ⟨w.heap.size + 1, 0, none⟩) none q' m 0 (zs ++ xk) [] wr (by rw [List.append_nil]; exact own_cells MI.tail.own) (own_cells MI.row) (Cells.nil _ _) (by rw [List.append_nil, List.length_append]; omega)
              have KE' : Hid (Calls Try.prog 9 #[.slice p' (last (zs ++ xk)).length q', .slice (some ⟨w.heap.size + 1, 0, none⟩) (zs.length + xk.length) m, .slice none 0 0] wr fun e w' => e = .returned (.bool true) ∧ wr = w') := by
                have h := KE.out
                rw [List.append_nil, List.length_append] at h
                exact h
              clear KE
              go_wp2_with fail
              refine (buf_any _ _ _ _ _ t1).mono ?_
              rintro e w' ⟨rfl, rfl⟩
              go_wp2_with fail
              refine Calls.mono KE'.out ?_
              rintro e w' ⟨rfl, rfl⟩
              go_wp2
              go_roundg (len - (k + 1))
              case measure => rw [HG.out]; omega
              case rel =>
                refine ⟨k + 1, p', q', rfl, by omega, by go_num, ?_, ?_⟩
                · rw [HZ1.out, List.length_append]
                · rw [HZ1.out]; exact MI
        · go_wp2
          go_ret
          exact ⟨rfl, M.below⟩
end Go.Proofs.Qxb6628159a
