/- (*keyReader).skipLiteral and config.ZZskipLiteral: where they stop. -/
import Derived.Test.Qxb6616787aStr
namespace Go.Proofs.Qxb6616787a
open Go.ChangeShapes Go.WideShapes Go.ChangeAt Go.RowKit

/-- q: the first place from 'at0' on that holds a delimiter, or the end. -/
def Stop (zs : List Int) (len at0 q : Nat) : Prop :=
  at0 ≤ q ∧ q ≤ len ∧ (∀ j, at0 ≤ j → j < q → delimB (zs.getD j 0) = false) ∧ (q < len → delimB (zs.getD q 0) = true)

/-- The first 'len' cells of a slice at 'a0', below block B. -/
def Cells (B : Nat) (w : World) (a0 : Option Addr) (len : Nat) (zs : List Int) : Prop :=
  len = 0 ∨ ∃ b off, a0 = some ⟨b, off, none⟩ ∧ b < B ∧ ∀ j, j < len → w.cell? ⟨b, off + j, none⟩ = some (.int .u8 (zs.getD j 0))

theorem wrap_i32_byte (n : Int) (h0 : 0 ≤ n) (h1 : n < 256) : IntKind.i32.wrap n = n := by
  simp [IntKind.wrap_i32]; omega

set_option maxRecDepth 100000 in
set_option maxHeartbeats 400000 in
theorem skipLit (n : Nat) (b off len cap : Nat) (zs : List Int) (at0 : Nat) (W : World) (hn : n < W.heap.size)
    (h0 : W.cell? ⟨n, 0, none⟩ = some (.slice (some ⟨b, off, none⟩) len cap)) (h1 : W.cell? ⟨n, 1, none⟩ = some (.int .i64 at0)) (hf : W.frozen? ⟨n, 1, none⟩ = false)
    (hat : at0 ≤ len) (hlen : len ≤ 1048577) (hb : b < n) (hc : ∀ j, j < len → W.cell? ⟨b, off + j, none⟩ = some (.int .u8 (zs.getD j 0))) (hr : ∀ j : Nat, 0 ≤ zs.getD j 0 ∧ zs.getD j 0 < 256) :
    Calls Try.prog 23 #[.pointer (some ⟨n, 0, none⟩)] W fun e w' => e = .returned (.tuple #[]) ∧ ∃ q : Nat, Stop zs len at0 q ∧ w'.cell? ⟨n, 1, none⟩ = some (.int .i64 q) ∧ Below n W w' ∧ n < w'.heap.size := by
  go_enter Try.func23, Try.ntmps23
  go_wp2
  go_loopw [] (fun wr => ∃ k : Nat, at0 ≤ k ∧ k ≤ len ∧ (∀ j, at0 ≤ j → j < k → delimB (zs.getD j 0) = false) ∧ wr.cell? ⟨n, 0, none⟩ = some (.slice (some ⟨b, off, none⟩) len cap) ∧ wr.cell? ⟨n, 1, none⟩ = some (.int .i64 k) ∧ wr.frozen? ⟨n, 1, none⟩ = false ∧ Below n W wr)
    (fun wr => len - (intOf ((wr.cell? ⟨n, 1, none⟩).getD (.int .i64 0))).toNat)
  case atStart => exact ⟨at0, Nat.le_refl _, hat, fun j h1 h2 => by omega, h0, h1, hf, Below.refl _ _⟩
  case round =>
    obtain ⟨k, hk0, hk, hpre, hc0, hc1, hfz, hbel⟩ := hrel
    by_cases hlt : k < len
    · have hcell : wr.cell? ⟨b, off + k, none⟩ = some (.int .u8 (zs.getD k 0)) := (hbel.cell (p := ⟨b, off + k, none⟩) hb).trans (hc k hlt)
      have hrk := hr k
      obtain ⟨x, hx⟩ : ∃ x, x = zs.getD k 0 := ⟨_, rfl⟩
      rw [← hx] at hcell hrk
      have HX : Hid (x = zs.getD k 0) := hx
      clear hx hc hr h0 h1 hf
      have hlt' : (k : Int) < (len : Int) := by omega
      have hwx := wrap_i32_byte x hrk.1 hrk.2
      go_wp2_with fail
      go_quiet ((go_at_call 24; exact Calls.quiet_of (containsRune _ _ hrk.1 hrk.2)))
      go_wp2
      · have hd : delimB x = false := by first | assumption | simp_all
        clear hcell
        go_roundw
        case rel =>
          refine ⟨k + 1, by omega, by omega, ?_, ?_, ?_, ?_, ?_⟩
          · intro j hj1 hj2
            by_cases hjk : j = k
            · subst hjk; rw [← HX.out]; exact hd
            · exact hpre j hj1 (by omega)
          · exact (World.cell?_setCell_other _ _ _ _ (by simp)).trans (by simpa using hc0)
          · exact (World.cell?_setCell_same _ _ _ (u := .int .i64 k) (by simpa using hc1)).trans (by congr 1)
          · simpa using hfz
          · exact (below_drewN hbel nq).setCell (Nat.le_refl _) _
        case measure =>
          rw [World.cell?_setCell_same (wr.drewN nq) _ _ (u := .int .i64 k) (by simpa using hc1), hc1]
          simp [intOf]; omega
      · have hd : delimB x = true := by first | assumption | simp_all
        go_end0
        refine ⟨rfl, k, ⟨hk0, hk, hpre, fun _ => by rw [← HX.out]; exact hd⟩, by simpa using hc1, below_drewN hbel _, ?_⟩
        have := hbel.size; simp; omega
    · have hlt' : decide ((k : Int) < (len : Int)) = false := decide_eq_false (by omega)
      go_wp2_with fail
      go_quiet (fail)
      go_wp2
      go_end0
      refine ⟨rfl, k, ⟨hk0, hk, hpre, fun h => by omega⟩, by simpa using hc1, below_drewN hbel _, ?_⟩
      have := hbel.size; simp; omega

set_option maxRecDepth 100000 in
set_option maxHeartbeats 400000 in
theorem skipLit_zero (n : Nat) (a0 : Option Addr) (cap : Nat) (zs : List Int) (W : World) (hn : n < W.heap.size)
    (h0 : W.cell? ⟨n, 0, none⟩ = some (.slice a0 0 cap)) (h1 : W.cell? ⟨n, 1, none⟩ = some (.int .i64 0)) :
    Calls Try.prog 23 #[.pointer (some ⟨n, 0, none⟩)] W fun e w' => e = .returned (.tuple #[]) ∧ ∃ q : Nat, Stop zs 0 0 q ∧ w'.cell? ⟨n, 1, none⟩ = some (.int .i64 q) ∧ Below n W w' ∧ n < w'.heap.size := by
  go_enter Try.func23, Try.ntmps23
  go_wp2
  refine wp_loop_rounds 1 ?_
  rw [rounds_succ]
  go_wp2_with fail
  go_quiet (fail)
  go_wp2
  go_end0
  exact ⟨rfl, 0, ⟨Nat.le_refl _, Nat.le_refl _, fun j h1 h2 => by omega, fun h => by omega⟩, by simpa using h1, below_drewN (Below.refl _ _) _, by simpa using hn⟩

theorem skipLit_any (n : Nat) (a0 : Option Addr) (len cap : Nat) (zs : List Int) (at0 : Nat) (W : World) (hn : n < W.heap.size)
    (h0 : W.cell? ⟨n, 0, none⟩ = some (.slice a0 len cap)) (h1 : W.cell? ⟨n, 1, none⟩ = some (.int .i64 at0)) (hf : W.frozen? ⟨n, 1, none⟩ = false)
    (hat : at0 ≤ len) (hlen : len ≤ 1048577) (hc : Cells n W a0 len zs) (hr : ∀ j : Nat, 0 ≤ zs.getD j 0 ∧ zs.getD j 0 < 256) :
    Calls Try.prog 23 #[.pointer (some ⟨n, 0, none⟩)] W fun e w' => e = .returned (.tuple #[]) ∧ ∃ q : Nat, Stop zs len at0 q ∧ w'.cell? ⟨n, 1, none⟩ = some (.int .i64 q) ∧ Below n W w' ∧ n < w'.heap.size := by
  rcases hc with rfl | ⟨b, off, rfl, hb, hc⟩
  · obtain rfl : at0 = 0 := by omega
    exact skipLit_zero n a0 cap zs W hn h0 h1
  · exact skipLit n b off len cap zs at0 W hn h0 h1 hf hat hlen hb hc hr

theorem Cells.below {B B' : Nat} {w w' : World} {a0 : Option Addr} {len : Nat} {zs : List Int} (h : Cells B w a0 len zs) (hb : Below B w w') (hB : B ≤ B') : Cells B' w' a0 len zs := by
  rcases h with h | ⟨b, off, h1, h2, h3⟩
  · exact .inl h
  · exact .inr ⟨b, off, h1, by omega, fun j hj => (hb.cell (p := ⟨b, off + j, none⟩) h2).trans (h3 j hj)⟩

set_option maxRecDepth 100000 in
set_option maxHeartbeats 400000 in
theorem zzSkip (a0 : Option Addr) (len cap : Nat) (zs : List Int) (at0 : Nat) (W : World)
    (hat : at0 ≤ len) (hlen : len ≤ 1048577) (hc : Cells W.heap.size W a0 len zs) (hr : ∀ j : Nat, 0 ≤ zs.getD j 0 ∧ zs.getD j 0 < 256) :
    Calls Try.prog 17 #[.slice a0 len cap, .int .i64 at0] W fun e w' => ∃ q : Nat, Stop zs len at0 q ∧ e = .returned (.int .i64 q) ∧ Below W.heap.size W w' := by
  go_enter Try.func17, Try.ntmps17
  go_wp2_with fail
  refine (skipLit_any W.heap.size a0 len cap zs at0 _ ?_ ?_ ?_ ?_ hat hlen ?_ hr).mono ?_
  · simp
  · simp
  · simp
  · simp
  · exact hc.below ((Below.refl _ _).alloc (Nat.le_refl _) _) (by simp)
  · rintro e w' ⟨rfl, q, hq, hcell, hbel, hsz⟩
    go_wp2
    go_ret
    exact ⟨q, hq, rfl, ((Below.refl _ _).alloc (Nat.le_refl _) _).trans hbel⟩
end Go.Proofs.Qxb6616787a
