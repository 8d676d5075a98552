/- The walk of FnIsIRICharCountUpTo. -/
import Derived.Test.Qxb6616509aStr
import Derived.OpenShut
namespace Go.Proofs.Qxb6616509a
open Go.ChangeShapes Go.WideShapes Go.ChangeAt Go.RowKit

theorem grown_drewN (w : World) (n : Nat) : Grown w (w.drewN n) := by
  induction n with
  | zero => exact Grown.refl _
  | succ n ih => exact ih.drew

theorem wrap_u8_byte (n : Int) (h0 : 0 ≤ n) (h1 : n < 256) : IntKind.u8.wrap n = n := by
  simp [IntKind.wrap_u8]; omega

theorem ret_true {b : Bool} (h : b = true) : Ending.returned (.bool b) = .returned (.bool true) := by rw [h]

set_option maxRecDepth 100000 in
set_option maxHeartbeats 800000 in
theorem law (c : Nat) (hc : c < 256) (w : World) :
    Calls Try.prog 3 #[.int .u8 (c : Int)] w fun e w' => e = .returned (.bool true) ∧ ∃ m, w' = w.drewN m := by
  have HP : Hid (cnt c = (if 0 < c then wantI ((c : Int) - 1) else 0) ∧ cnt c + (if iriB (c : Int) then 1 else 0) = wantI (c : Int)) := plain_nat c hc
  go_enter Try.func3, Try.ntmps3
  go_wp2
  go_loopw [3, 4] (fun n i wr => ∃ k : Nat, k ≤ c ∧ i = .int .i64 k ∧ n = .int .i64 (cnt k) ∧ ∃ m, wr = w.drewN m) (fun _ i _ => c - (intOf i).toNat)
  case atStart => exact ⟨0, Nat.zero_le _, rfl, rfl, 0, rfl⟩
  case round =>
    obtain ⟨k, hk, rfl, rfl, m, rfl⟩ := hrel
    have hb := cnt_bd k
    by_cases hlt : k < c
    · have hw := wrap_u8_byte k (by omega) (by omega)
      have HS : Hid (cnt (k + 1) = cnt k + if iriB (k : Int) then 1 else 0) := rfl
      by_cases hi : iriB (k : Int) = true
      · go_wp2_with (go_at_call 4; refine (zzIsIRI _ _ (by omega) (by omega)).mono ?_; rintro e w' ⟨rfl, n, rfl⟩)
        go_roundw
        case rel => exact ⟨k + 1, by omega, by go_num, by rw [HS.out, if_pos hi], _, rfl⟩
        case measure => simp [intOf]; omega
      · have hi' : iriB (k : Int) = false := by simpa using hi
        clear hi
        go_wp2_with (go_at_call 4; refine (zzIsIRI _ _ (by omega) (by omega)).mono ?_; rintro e w' ⟨rfl, n, rfl⟩)
        go_roundw
        case rel => exact ⟨k + 1, by omega, by go_num, by rw [HS.out, if_neg (by rw [hi']; exact Bool.false_ne_true), Int.add_zero], _, rfl⟩
        case measure => simp [intOf]; omega
    · obtain rfl : k = c := by omega
      go_wp2_with (first | (go_at_call 4; refine (zzIsIRI _ _ (by omega) (by omega)).mono ?_; rintro e w' ⟨rfl, n, rfl⟩) | (go_at_call 5; refine (iriCount _ _ (by omega) (by omega)).mono ?_; rintro e w' ⟨rfl, rfl⟩))
      all_goals
        have h1 := HP.out.1
        have h2 := HP.out.2
        first
          | (have hk0 : 0 < k := by assumption
             have hne : ¬ cnt k = wantI (↑k - 1) := by assumption
             exact absurd (by rw [if_pos hk0] at h1; exact h1) hne)
          | (have hi : iriB (k : Int) = true := by assumption
             have hq : cnt k = wantI (↑k - 1) := by assumption
             rw [if_pos hi] at h2
             go_ret
             exact ⟨ret_true (b := wantI (↑k - 1) + 1 == wantI ↑k) (beq_iff_eq.2 (by omega)), _, rfl⟩)
          | (have hi : iriB (k : Int) = true := by assumption
             have hq : cnt k = 0 := by assumption
             rw [if_pos hi] at h2
             go_ret
             exact ⟨ret_true (b := 1 == wantI ↑k) (beq_iff_eq.2 (by omega)), _, rfl⟩)
          | (have hi : iriB (k : Int) = false := by assumption
             have hq : cnt k = wantI (↑k - 1) := by assumption
             rw [if_neg (by rw [hi]; exact Bool.false_ne_true), Int.add_zero] at h2
             go_ret
             exact ⟨ret_true (b := wantI (↑k - 1) == wantI ↑k) (beq_iff_eq.2 (by omega)), _, rfl⟩)
          | (have hi : iriB (k : Int) = false := by assumption
             have hq : cnt k = 0 := by assumption
             rw [if_neg (by rw [hi]; exact Bool.false_ne_true), Int.add_zero] at h2
             go_ret
             exact ⟨ret_true (b := 0 == wantI ↑k) (beq_iff_eq.2 (by omega)), _, rfl⟩)
end Go.Proofs.Qxb6616509a
