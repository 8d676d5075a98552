/- Contracts of strings.IndexByte, IndexRune, ContainsRune at this program (the delimiters' string). -/
import Derived.Test.Qxb6616787aRows
import Derived.WalkKit
import Derived.ProofKit
import Derived.Lib.Bytealg
import Derived.Deep.QuietTactic
import Derived.BigQuiet
import Derived.WalkSpells
import Derived.WalkLawsBesides
namespace Go.Proofs.Qxb6616787a
open Go.ChangeShapes Go.WideShapes Go.ChangeAt Go.RowKit

set_option maxRecDepth 100000 in
set_option maxHeartbeats 400000 in
theorem slIndexByte (s : ByteArray) (c : Int) (w : World) :
    Calls Try.prog 30 #[.string s, .int .u8 c] w fun e w' => e = .returned (.int .i64 (Lib.indexByte s.data.toList c.toNat.toUInt8)) ∧ w' = w := by
  go_enter Try.func30, Try.ntmps30
  go_wp2
  rw [run_callFunc_extern Try.func31 (by kernel_rfl) (by kernel_rfl) (by kernel_rfl) (e := Extern.BytealgIndexByte.indexByte) (by kernel_rfl), Lib.run_indexByteString]
  simp only [Result.andThen]
  rw [Oper.upon_value]
  go_wp2
  go_ret
  exact ⟨rfl, rfl⟩

set_option maxRecDepth 100000 in
set_option maxHeartbeats 400000 in
theorem indexByte (s : ByteArray) (c : Int) (w : World) :
    Calls Try.prog 26 #[.string s, .int .u8 c] w fun e w' => e = .returned (.int .i64 (Lib.indexByte s.data.toList c.toNat.toUInt8)) ∧ w' = w := by
  go_enter Try.func26, Try.ntmps26
  go_wp2_with (go_at_call 30; refine (slIndexByte _ _ _).mono ?_; rintro e w' ⟨rfl, rfl⟩)
  go_ret
  exact ⟨rfl, rfl⟩

set_option maxRecDepth 100000 in
set_option maxHeartbeats 400000 in
theorem indexRune_ascii (s : ByteArray) (r : Int) (w : World) (h0 : 0 ≤ r) (h1 : r < 128) :
    Calls Try.prog 25 #[.string s, .int .i32 r] w fun e w' => e = .returned (.int .i64 (Lib.indexByte s.data.toList r.toNat.toUInt8)) ∧ w' = w := by
  go_enter Try.func25, Try.ntmps25
  go_wp2_with (go_at_call 26; refine (indexByte _ _ _).mono ?_; rintro e w' ⟨rfl, rfl⟩)
  go_ret
  exact ⟨rfl, rfl⟩

set_option maxRecDepth 100000 in
set_option maxHeartbeats 400000 in
theorem indexRune_two (s t : ByteArray) (r : Int) (w : World) (h0 : 128 ≤ r) (h1 : r < 256) (ht : Utf8.encode r = t) (ht1 : 1 < t.size) (ht2 : t.size = 2) (hs1 : 1 < s.size) (hs : s.size ≤ 1000)
    (hne : ((s[1].toNat : Int) != (t[1].toNat : Int)) = true) (hi : Lib.indexByte (s.extract 2 s.size).data.toList ((t[1].toNat : Int)).toNat.toUInt8 = -1) :
    Calls Try.prog 25 #[.string s, .int .i32 r] w fun e w' => e = .returned (.int .i64 (-1)) ∧ ∃ n, w' = w.drewN n := by
  have hs' : (1 : Int) < (s.size : Int) := by omega
  have hs2 : (2 : Int) ≤ (s.size : Int) := by omega
  have hw2 : IntKind.i64.wrap 2 = 2 := by decide
  have HI : Hid (Lib.indexByte (s.extract 2 s.size).data.toList ((t[1].toNat : Int)).toNat.toUInt8 = -1) := hi
  clear hi
  go_enter Try.func25, Try.ntmps25
  go_wp2_with (first | (go_at_call 27; go_in) | (go_at_call 26; refine (indexByte _ _ _).mono ?_; rintro e w' ⟨rfl, rfl⟩))
  go_step3
  go_wp2
  refine wp_loop_rounds 1 ?_
  rw [rounds_succ]
  go_wp2
  go_step3
  go_wp2
  go_quiet (fail)
  go_wp2_with fail
  go_quiet ((go_at_call 26; exact (indexByte _ _ _).mono fun _ _ ⟨he, hm⟩ => ⟨he, _, hm⟩))
  rw [HI.out]
  go_wp2_with fail
  rw [Exit.noGoto_ret]
  go_wp2
  rw [Exit.noGoto_ret]
  go_ret
  exact ⟨rfl, _, rfl⟩

/-! ### The delimiters, plainly -/
def delimB (r : Int) : Bool := r == 44 || r == 93 || r == 125 || r == 32 || r == 9 || r == 10 || r == 13
abbrev D : ByteArray := ⟨#[44, 93, 125, 32, 9, 10, 13]⟩

theorem delim_ascii_nat : ∀ n : Nat, n < 128 → decide (0 ≤ Lib.indexByte [44, 93, 125, 32, 9, 10, 13] n.toUInt8) = delimB (n : Int) := by decide +kernel
theorem delim_ascii (r : Int) (h0 : 0 ≤ r) (h1 : r < 128) : decide (0 ≤ Lib.indexByte D.data.toList r.toNat.toUInt8) = delimB r := by
  have := delim_ascii_nat r.toNat (by omega)
  rw [show ((r.toNat : Nat) : Int) = r by omega] at this
  exact this
theorem delim_high_nat : ∀ n : Nat, 128 ≤ n → n < 256 → Lib.indexByte [125, 32, 9, 10, 13] n.toUInt8 = -1 := by
  have h : ∀ k : Nat, k < 128 → Lib.indexByte [125, 32, 9, 10, 13] (k + 128).toUInt8 = -1 := by decide +kernel
  intro n h1 h2
  have := h (n - 128) (by omega)
  rwa [show n - 128 + 128 = n by omega] at this
theorem delim_high (r : Int) (h0 : 128 ≤ r) : delimB r = false := by
  unfold delimB
  simp only [Bool.or_eq_false_iff, beq_eq_false_iff_ne]
  omega

theorem indexRune_high (r : Int) (w : World) (h0 : 128 ≤ r) (h1 : r < 256) :
    Calls Try.prog 25 #[.string D, .int .i32 r] w fun e w' => e = .returned (.int .i64 (-1)) ∧ ∃ n, w' = w.drewN n := by
  obtain ⟨x, y, he, hy⟩ : ∃ x y : UInt8, Utf8.encode r = ⟨#[x, y]⟩ ∧ 128 ≤ y.toNat := by
    have hv : Utf8.valid r = true := by rw [validRune_eq]; unfold validRune; exact decide_eq_true (by omega)
    have hc : ¬ r.toNat < 128 := by omega
    have hd : r.toNat < 2048 := by omega
    unfold Utf8.encode
    simp only [hv, if_true, hc, if_false, hd]
    refine ⟨_, _, rfl, ?_⟩
    simp; omega
  refine indexRune_two D ⟨#[x, y]⟩ r w h0 h1 he (by show 1 < 2; omega) rfl (by show 1 < 7; omega) (by show 7 ≤ 1000; omega) ?_ ?_
  · show (((93 : UInt8).toNat : Int) != (y.toNat : Int)) = true
    have : ((93 : UInt8).toNat : Int) ≠ (y.toNat : Int) := by show (93 : Int) ≠ _; omega
    simpa using this
  · show Lib.indexByte [125, 32, 9, 10, 13] (y.toNat : Int).toNat.toUInt8 = -1
    exact delim_high_nat _ (by omega) (by have := y.toNat_lt; omega)

set_option maxRecDepth 100000 in
set_option maxHeartbeats 400000 in
theorem containsRune (r : Int) (w : World) (h0 : 0 ≤ r) (h1 : r < 256) :
    Calls Try.prog 24 #[.string D, .int .i32 r] w fun e w' => e = .returned (.bool (delimB r)) ∧ ∃ n, w' = w.drewN n := by
  by_cases h : r < 128
  · have H := delim_ascii r h0 h
    have HH : Hid (decide (0 ≤ Lib.indexByte D.data.toList r.toNat.toUInt8) = delimB r) := H
    clear H
    go_enter Try.func24, Try.ntmps24
    go_wp2_with (go_at_call 25; refine (indexRune_ascii _ _ _ h0 h).mono ?_; rintro e w' ⟨rfl, rfl⟩)
    go_ret
    exact ⟨by rw [← HH.out]; rfl, 0, rfl⟩
  · have H := delim_high r (by omega)
    have HH : Hid (delimB r = false) := H
    clear H
    go_enter Try.func24, Try.ntmps24
    go_wp2_with (go_at_call 25; refine (indexRune_high _ _ (by omega) h1).mono ?_; rintro e w' ⟨rfl, n, rfl⟩)
    go_ret
    exact ⟨by rw [HH.out]; rfl, _, rfl⟩

/-! ### zzIsDelim -/
set_option maxHeartbeats 400000 in
theorem isDelim (b : Int) (w : World) :
    Calls Try.prog 18 #[.int .u8 b] w fun e w' => e = .returned (.bool (delimB b)) ∧ w' = w := by
  go_enter Try.func18, Try.ntmps18
  go_wp2
  all_goals (go_ret; refine ⟨?_, rfl⟩; unfold delimB; simp [*])

end Go.Proofs.Qxb6616787a
