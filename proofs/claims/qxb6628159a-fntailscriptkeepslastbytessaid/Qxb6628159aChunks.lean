/-
  THE TAIL SEAT: a slice of byte slices that came in; 'zzBytes_FnTailScriptKeepsLastBytes' walked. By an AI agent.
-/
import Derived.Test.Qxb6628159aSplit
namespace Go.Proofs.Qxb6628159a
open Go.RowKit
set_option linter.unusedVariables false
set_option linter.unusedSimpArgs false

/-- The chunks as they lie in memory: chunk r at address A r, its bytes X r, its capacity C r. -/
def Chunks (w : World) (a : Option Addr) (len : Nat) (A : Nat → Option Addr) (C : Nat → Nat) (X : Nat → List Int) : Prop :=
  0 < len → ∃ b off, a = some ⟨b, off, none⟩ ∧ ∀ r, r < len → w.cell? ⟨b, off + r, none⟩ = some (.slice (A r) (X r).length (C r)) ∧ Cells w (A r) (X r) ∧ (A r = none → X r = [] ∧ C r = 0) ∧ (X r).length ≤ 9223372036854775807
theorem Chunks.below {w w' : World} {a : Option Addr} {len : Nat} {A : Nat → Option Addr} {C : Nat → Nat} {X : Nat → List Int} (h : Chunks w a len A C X) (hb : Below w.heap.size w w') : Chunks w' a len A C X := by
  intro h0
  obtain ⟨b, off, rfl, hc⟩ := h h0
  refine ⟨b, off, rfl, fun r hr => ?_⟩
  obtain ⟨h1, h2, h3⟩ := hc r hr
  have := World.block_lt_of_cell? w _ h1
  exact ⟨(hb.cell (p := ⟨b, off + r, none⟩) (by simpa using this)).trans h1, h2.below hb (Nat.le_refl _), h3⟩

/-- What the bound on the bytes tells. -/
def Told (X : Nat → List Int) (len : Nat) (w w' : World) (e : Ending) : Prop := ∃ r : Bool, e = .returned (.bool r) ∧ w = w' ∧ (r = true → ∀ i, i < len → (X i).length ≤ 1048576)

set_option maxHeartbeats 1000000 in
theorem bytes_any (a : Option Addr) (len cap : Nat) (A : Nat → Option Addr) (C : Nat → Nat) (X : Nat → List Int) (w : World) (h : Chunks w a len A C X) (hlen : len ≤ 9223372036854775807) :
    Calls Try.prog 11 #[.slice a len cap] w fun e w' => Told X len w w' e := by
  by_cases hb : (1048576 : Int) < len
  · go_enter Try.func11, Try.ntmps11
    go_wp2
    go_ret
    exact ⟨false, rfl, rfl, fun h => by cases h⟩
  · go_enter Try.func11, Try.ntmps11
    go_wp2
    go_loopg [3, 4] len (fun g n i wr => ∃ (k m : Nat), g = len - k ∧ k ≤ len ∧ (m : Int) ≤ 1048576 ∧ i = .int .i64 k ∧ n = .int .i64 m ∧ wr = w ∧ ∀ i, i < k → (X i).length ≤ 1048576)
    case atStart => exact ⟨0, len, by simp, Nat.zero_le _, by omega, rfl, by simp, rfl, fun i hi => by omega⟩
    case round =>
      obtain ⟨k, m, hg, hk, hm, rfl, rfl, rfl, hall⟩ := hrel
      have HG : Hid (gk = len - k) := hg
      have HALL : Hid (∀ i, i < k → (X i).length ≤ 1048576) := hall
      clear hg hall
      by_cases hlt : k < len
      · obtain ⟨b, off, rfl, hc⟩ := h (by omega)
        obtain ⟨h1, _, _, h4⟩ := hc k hlt
        obtain ⟨xk, hxk⟩ : ∃ xk, X k = xk := ⟨_, rfl⟩
        obtain ⟨ak, hak⟩ : ∃ ak, A k = ak := ⟨_, rfl⟩
        obtain ⟨ck, hck⟩ : ∃ ck, C k = ck := ⟨_, rfl⟩
        rw [hxk] at h1 h4
        rw [hak, hck] at h1
        have HX : Hid (X k = xk) := hxk
        clear hc hxk hak hck
        by_cases hbig : (1048576 : Int) < xk.length
        · go_wp2
          go_ret
          exact ⟨false, rfl, rfl, fun h => by cases h⟩
        · by_cases hsum : (1048576 : Int) < m + xk.length
          · go_wp2
            go_ret
            exact ⟨false, rfl, rfl, fun h => by cases h⟩
          · go_wp2
            go_roundg (len - (k + 1))
            case measure => rw [HG.out]; omega
            case rel =>
              refine ⟨k + 1, m + xk.length, rfl, by omega, by omega, by go_num, by go_num, rfl, fun i hi => ?_⟩
              by_cases e : i = k
              · subst e; rw [HX.out]; omega
              · exact HALL.out i (by omega)
      · go_wp2
        go_ret
        exact ⟨true, rfl, rfl, fun _ i hi => HALL.out i (by omega)⟩
end Go.Proofs.Qxb6628159a
