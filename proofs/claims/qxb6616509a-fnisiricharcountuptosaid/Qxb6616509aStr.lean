/- Contracts of strings.IndexByte, IndexRune, ContainsRune at this program (the delimiters' string). -/
import Derived.Test.Qxb6616509aRows
import Derived.WalkKit
import Derived.ProofKit
import Derived.Lib.Bytealg
import Derived.Deep.QuietTactic
import Derived.BigQuiet
import Derived.WalkSpells
import Derived.WalkLawsBesides
namespace Go.Proofs.Qxb6616509a
open Go.ChangeShapes Go.WideShapes Go.ChangeAt Go.RowKit

set_option maxRecDepth 100000 in
set_option maxHeartbeats 400000 in
theorem slIndexByte (s : ByteArray) (c : Int) (w : World) :
    Calls Try.prog 13 #[.string s, .int .u8 c] w fun e w' => e = .returned (.int .i64 (Lib.indexByte s.data.toList c.toNat.toUInt8)) ∧ w' = w := by
  go_enter Try.func13, Try.ntmps13
  go_wp2
  rw [run_callFunc_extern Try.func14 (by kernel_rfl) (by kernel_rfl) (by kernel_rfl) (e := Extern.BytealgIndexByte.indexByte) (by kernel_rfl), Lib.run_indexByteString]
  simp only [Result.andThen]
  rw [Oper.upon_value]
  go_wp2
  go_ret
  exact ⟨rfl, rfl⟩

set_option maxRecDepth 100000 in
set_option maxHeartbeats 400000 in
theorem indexByte (s : ByteArray) (c : Int) (w : World) :
    Calls Try.prog 9 #[.string s, .int .u8 c] w fun e w' => e = .returned (.int .i64 (Lib.indexByte s.data.toList c.toNat.toUInt8)) ∧ w' = w := by
  go_enter Try.func9, Try.ntmps9
  go_wp2_with (go_at_call 13; refine (slIndexByte _ _ _).mono ?_; rintro e w' ⟨rfl, rfl⟩)
  go_ret
  exact ⟨rfl, rfl⟩

set_option maxRecDepth 100000 in
set_option maxHeartbeats 400000 in
theorem indexRune_ascii (s : ByteArray) (r : Int) (w : World) (h0 : 0 ≤ r) (h1 : r < 128) :
    Calls Try.prog 8 #[.string s, .int .i32 r] w fun e w' => e = .returned (.int .i64 (Lib.indexByte s.data.toList r.toNat.toUInt8)) ∧ w' = w := by
  go_enter Try.func8, Try.ntmps8
  go_wp2_with (go_at_call 9; refine (indexByte _ _ _).mono ?_; rintro e w' ⟨rfl, rfl⟩)
  go_ret
  exact ⟨rfl, rfl⟩

set_option maxRecDepth 100000 in
set_option maxHeartbeats 400000 in
theorem indexRune_two (s t : ByteArray) (r : Int) (w : World) (h0 : 128 ≤ r) (h1 : r < 256) (ht : Utf8.encode r = t) (ht1 : 1 < t.size) (ht2 : t.size = 2) (hs1 : 1 < s.size) (hs : s.size ≤ 1000)
    (hne : ((s[1].toNat : Int) != (t[1].toNat : Int)) = true) (hi : Lib.indexByte (s.extract 2 s.size).data.toList ((t[1].toNat : Int)).toNat.toUInt8 = -1) :
    Calls Try.prog 8 #[.string s, .int .i32 r] w fun e w' => e = .returned (.int .i64 (-1)) ∧ ∃ n, w' = w.drewN n := by
  have hs' : (1 : Int) < (s.size : Int) := by omega
  have hs2 : (2 : Int) ≤ (s.size : Int) := by omega
  have hw2 : IntKind.i64.wrap 2 = 2 := by decide
  have HI : Hid (Lib.indexByte (s.extract 2 s.size).data.toList ((t[1].toNat : Int)).toNat.toUInt8 = -1) := hi
  clear hi
  go_enter Try.func8, Try.ntmps8
  go_wp2_with (first | (go_at_call 10; go_in) | (go_at_call 9; refine (indexByte _ _ _).mono ?_; rintro e w' ⟨rfl, rfl⟩))
  go_step3
  go_wp2
  refine wp_loop_rounds 1 ?_
  rw [rounds_succ]
  go_wp2
  go_step3
  go_wp2
  go_quiet (fail)
  go_wp2_with fail
  go_quiet ((go_at_call 9; exact (indexByte _ _ _).mono fun _ _ ⟨he, hm⟩ => ⟨he, _, hm⟩))
  rw [HI.out]
  go_wp2_with fail
  rw [Exit.noGoto_ret]
  go_wp2
  rw [Exit.noGoto_ret]
  go_ret
  exact ⟨rfl, _, rfl⟩


/-! ### The refused bytes, plainly -/
def badB (r : Int) : Bool := r == 60 || r == 62 || r == 34 || r == 123 || r == 125 || r == 124 || r == 94 || r == 96 || r == 92
abbrev D : ByteArray := ⟨#[60, 62, 34, 123, 125, 124, 94, 96, 92]⟩

theorem bad_ascii_nat : ∀ n : Nat, n < 128 → decide (0 ≤ Lib.indexByte [60, 62, 34, 123, 125, 124, 94, 96, 92] n.toUInt8) = badB (n : Int) := by decide +kernel
theorem bad_ascii (r : Int) (h0 : 0 ≤ r) (h1 : r < 128) : decide (0 ≤ Lib.indexByte D.data.toList r.toNat.toUInt8) = badB r := by
  have := bad_ascii_nat r.toNat (by omega)
  rw [show ((r.toNat : Nat) : Int) = r by omega] at this
  exact this
theorem bad_high_nat : ∀ n : Nat, 128 ≤ n → n < 256 → Lib.indexByte [34, 123, 125, 124, 94, 96, 92] n.toUInt8 = -1 := by
  have h : ∀ k : Nat, k < 128 → Lib.indexByte [34, 123, 125, 124, 94, 96, 92] (k + 128).toUInt8 = -1 := by decide +kernel
  intro n h1 h2
  have := h (n - 128) (by omega)
  rwa [show n - 128 + 128 = n by omega] at this
theorem bad_high (r : Int) (h0 : 128 ≤ r) : badB r = false := by
  unfold badB
  simp only [Bool.or_eq_false_iff, beq_eq_false_iff_ne]
  omega

theorem indexRune_high (r : Int) (w : World) (h0 : 128 ≤ r) (h1 : r < 256) :
    Calls Try.prog 8 #[.string D, .int .i32 r] w fun e w' => e = .returned (.int .i64 (-1)) ∧ ∃ n, w' = w.drewN n := by
  obtain ⟨x, y, he, hy⟩ : ∃ x y : UInt8, Utf8.encode r = ⟨#[x, y]⟩ ∧ 128 ≤ y.toNat := by
    have hv : Utf8.valid r = true := by rw [validRune_eq]; unfold validRune; exact decide_eq_true (by omega)
    have hc : ¬ r.toNat < 128 := by omega
    have hd : r.toNat < 2048 := by omega
    unfold Utf8.encode
    simp only [hv, if_true, hc, if_false, hd]
    refine ⟨_, _, rfl, ?_⟩
    simp; omega
  refine indexRune_two D ⟨#[x, y]⟩ r w h0 h1 he (by show 1 < 2; omega) rfl (by show 1 < 9; omega) (by show 9 ≤ 1000; omega) ?_ ?_
  · show (((62 : UInt8).toNat : Int) != (y.toNat : Int)) = true
    have : ((62 : UInt8).toNat : Int) ≠ (y.toNat : Int) := by show (62 : Int) ≠ _; omega
    simpa using this
  · show Lib.indexByte [34, 123, 125, 124, 94, 96, 92] (y.toNat : Int).toNat.toUInt8 = -1
    exact bad_high_nat _ (by omega) (by have := y.toNat_lt; omega)

set_option maxRecDepth 100000 in
set_option maxHeartbeats 400000 in
theorem containsRune (r : Int) (w : World) (h0 : 0 ≤ r) (h1 : r < 256) :
    Calls Try.prog 7 #[.string D, .int .i32 r] w fun e w' => e = .returned (.bool (badB r)) ∧ ∃ n, w' = w.drewN n := by
  by_cases h : r < 128
  · have HH : Hid (decide (0 ≤ Lib.indexByte D.data.toList r.toNat.toUInt8) = badB r) := bad_ascii r h0 h
    go_enter Try.func7, Try.ntmps7
    go_wp2_with (go_at_call 8; refine (indexRune_ascii _ _ _ h0 h).mono ?_; rintro e w' ⟨rfl, rfl⟩)
    go_ret
    exact ⟨by rw [← HH.out]; rfl, 0, rfl⟩
  · have HH : Hid (badB r = false) := bad_high r (by omega)
    go_enter Try.func7, Try.ntmps7
    go_wp2_with (go_at_call 8; refine (indexRune_high _ _ (by omega) h1).mono ?_; rintro e w' ⟨rfl, n, rfl⟩)
    go_ret
    exact ⟨by rw [HH.out]; rfl, _, rfl⟩

/-! ### isIRIChar, ZZisIRIChar, zzb1IRICount -/
theorem wrap_i32_byte (n : Int) (h0 : 0 ≤ n) (h1 : n < 256) : IntKind.i32.wrap n = n := by
  simp [IntKind.wrap_i32]; omega

def iriB (r : Int) : Bool := decide (32 < r) && !badB r

set_option maxRecDepth 100000 in
set_option maxHeartbeats 400000 in
theorem isIRI (r : Int) (w : World) (h0 : 0 ≤ r) (h1 : r < 256) :
    Calls Try.prog 6 #[.int .u8 r] w fun e w' => e = .returned (.bool (iriB r)) ∧ ∃ n, w' = w.drewN n := by
  have hw := wrap_i32_byte r h0 h1
  by_cases h : 32 < r
  · have HH : Hid (iriB r = !badB r) := by show iriB r = !badB r; unfold iriB; rw [decide_eq_true h]; rfl
    go_enter Try.func6, Try.ntmps6
    go_wp2_with (go_at_call 7; refine (containsRune _ _ h0 h1).mono ?_; rintro e w' ⟨rfl, n, rfl⟩)
    go_ret
    exact ⟨by rw [HH.out]; rfl, _, rfl⟩
  · have HH : Hid (iriB r = false) := by show iriB r = false; unfold iriB; rw [decide_eq_false h]; rfl
    go_enter Try.func6, Try.ntmps6
    go_wp2_with fail
    go_ret
    exact ⟨by rw [HH.out]; rfl, 0, rfl⟩

set_option maxHeartbeats 400000 in
theorem zzIsIRI (r : Int) (w : World) (h0 : 0 ≤ r) (h1 : r < 256) :
    Calls Try.prog 4 #[.int .u8 r] w fun e w' => e = .returned (.bool (iriB r)) ∧ ∃ n, w' = w.drewN n := by
  go_enter Try.func4, Try.ntmps4
  go_wp2_with (go_at_call 6; refine (isIRI _ _ h0 h1).mono ?_; rintro e w' ⟨rfl, n, rfl⟩)
  go_ret
  exact ⟨rfl, _, rfl⟩

/-- zzb1IRICount, plainly. -/
def wantI (c : Int) : Int :=
  if c ≤ 32 then 0 else if c < 34 then c - 32 else if c < 60 then c - 33 else if c < 62 then c - 34 else if c < 92 then c - 35 else if c < 94 then c - 36 else if c < 96 then c - 37 else if c < 123 then c - 38 else if c < 124 then c - 39 else if c < 125 then c - 40 else c - 41

set_option maxRecDepth 100000 in
set_option maxHeartbeats 1600000 in
theorem iriCount (c : Int) (w : World) (h0 : 0 ≤ c) (h1 : c < 256) :
    Calls Try.prog 5 #[.int .u8 c] w fun e w' => e = .returned (.int .i64 (wantI c)) ∧ w' = w := by
  have fin : ∀ a b : Int, a = b → Ending.returned (.int .i64 a) = .returned (.int .i64 b) := fun a b h => by rw [h]
  by_cases c0 : c ≤ 32
  · go_enter Try.func5, Try.ntmps5
    go_wp2
    go_ret
    exact ⟨fin _ _ (by unfold wantI; omega), rfl⟩
  by_cases c1 : c < 34
  · go_enter Try.func5, Try.ntmps5
    go_wp2
    go_ret
    exact ⟨fin _ _ (by unfold wantI; omega), rfl⟩
  by_cases c2 : c < 60
  · go_enter Try.func5, Try.ntmps5
    go_wp2
    go_ret
    exact ⟨fin _ _ (by unfold wantI; omega), rfl⟩
  by_cases c3 : c < 62
  · go_enter Try.func5, Try.ntmps5
    go_wp2
    go_ret
    exact ⟨fin _ _ (by unfold wantI; omega), rfl⟩
  by_cases c4 : c < 92
  · go_enter Try.func5, Try.ntmps5
    go_wp2
    go_ret
    exact ⟨fin _ _ (by unfold wantI; omega), rfl⟩
  by_cases c5 : c < 94
  · go_enter Try.func5, Try.ntmps5
    go_wp2
    go_ret
    exact ⟨fin _ _ (by unfold wantI; omega), rfl⟩
  by_cases c6 : c < 96
  · go_enter Try.func5, Try.ntmps5
    go_wp2
    go_ret
    exact ⟨fin _ _ (by unfold wantI; omega), rfl⟩
  by_cases c7 : c < 123
  · go_enter Try.func5, Try.ntmps5
    go_wp2
    go_ret
    exact ⟨fin _ _ (by unfold wantI; omega), rfl⟩
  by_cases c8 : c < 124
  · go_enter Try.func5, Try.ntmps5
    go_wp2
    go_ret
    exact ⟨fin _ _ (by unfold wantI; omega), rfl⟩
  by_cases c9 : c < 125
  · go_enter Try.func5, Try.ntmps5
    go_wp2
    go_ret
    exact ⟨fin _ _ (by unfold wantI; omega), rfl⟩
  · go_enter Try.func5, Try.ntmps5
    go_wp2
    go_ret
    exact ⟨fin _ _ (by unfold wantI; omega), rfl⟩

/-! ### The plain law -/
def cnt : Nat → Int
  | 0 => 0
  | n + 1 => cnt n + if iriB (n : Int) then 1 else 0

theorem cnt_bd (n : Nat) : 0 ≤ cnt n ∧ cnt n ≤ n := by
  induction n with
  | zero => exact ⟨Int.le_refl _, Int.le_refl _⟩
  | succ n ih => unfold cnt; split <;> omega

theorem plain_nat : ∀ c : Nat, c < 256 → cnt c = (if 0 < c then wantI ((c : Int) - 1) else 0) ∧ cnt c + (if iriB (c : Int) then 1 else 0) = wantI (c : Int) := by decide +kernel
end Go.Proofs.Qxb6616509a
