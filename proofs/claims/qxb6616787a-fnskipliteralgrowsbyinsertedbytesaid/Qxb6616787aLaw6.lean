/- The walk of FnSkipLiteralGrowsByInsertedByte. -/
import Derived.Test.Qxb6616787aIns
import Derived.Test.Qxb6616787aLaw5
namespace Go.Proofs.Qxb6616787a
open Go.ChangeShapes Go.WideShapes Go.ChangeAt Go.RowKit
namespace L6

set_option maxRecDepth 100000 in
set_option maxHeartbeats 400000 in
theorem walk_far (a0 : Option Addr) (len0 cap0 : Nat) (a1 a2 a3 : Int) (w : World) (h : 1048576 < len0) (hm : len0 ≤ 9223372036854775807) :
    Calls Try.prog 6 #[.slice a0 len0 cap0, .int .i64 a1, .int .i64 a2, .int .u8 a3] w fun e w' => e = .returned (.bool true) ∧ Below w.heap.size w w' := by
  have h' : (1048576 : Int) < (len0 : Int) := by omega
  go_enter Try.func6, Try.ntmps6
  go_wp2
  go_ret
  exact ⟨rfl, Below.refl _ _⟩

set_option maxRecDepth 100000 in
set_option maxHeartbeats 400000 in
theorem walk_out (a0 : Option Addr) (len0 cap0 : Nat) (a1 a2 a3 : Int) (w : World) (h : len0 ≤ 1048576) (ho : a1 < 0 ∨ (len0 : Int) < a1 ∨ a2 < a1 ∨ (len0 : Int) < a2) :
    Calls Try.prog 6 #[.slice a0 len0 cap0, .int .i64 a1, .int .i64 a2, .int .u8 a3] w fun e w' => e = .returned (.bool true) ∧ Below w.heap.size w w' := by
  by_cases h1 : a1 < 0
  · go_enter Try.func6, Try.ntmps6
    go_wp2
    go_ret
    exact ⟨rfl, Below.refl _ _⟩
  by_cases h2 : (len0 : Int) < a1
  · go_enter Try.func6, Try.ntmps6
    go_wp2
    go_ret
    exact ⟨rfl, Below.refl _ _⟩
  by_cases h3 : a2 < a1
  · go_enter Try.func6, Try.ntmps6
    go_wp2
    go_ret
    exact ⟨rfl, Below.refl _ _⟩
  · have h4 : (len0 : Int) < a2 := by omega
    go_enter Try.func6, Try.ntmps6
    go_wp2
    go_ret
    exact ⟨rfl, Below.refl _ _⟩

set_option maxRecDepth 100000 in
set_option maxHeartbeats 400000 in
theorem walk_delim (a0 : Option Addr) (len0 cap0 : Nat) (at0 k : Nat) (x : Int) (w : World) (hlen : len0 ≤ 1048576) (hat : at0 ≤ len0) (hk0 : at0 ≤ k) (hk : k ≤ len0) (hx : delimB x = true) :
    Calls Try.prog 6 #[.slice a0 len0 cap0, .int .i64 at0, .int .i64 k, .int .u8 x] w fun e w' => e = .returned (.bool true) ∧ Below w.heap.size w w' := by
  go_enter Try.func6, Try.ntmps6
  go_wp2_with (first | (go_at_call 19; go_in) | (go_at_call 18; refine (isDelim _ _).mono ?_; rintro e w' ⟨rfl, hw⟩; obtain rfl := hw.symm))
  go_ret
  exact ⟨rfl, Below.refl _ _⟩

set_option maxRecDepth 100000 in
set_option maxHeartbeats 400000 in
theorem walk_in (a0 : Option Addr) (len0 cap0 : Nat) (zs : List Int) (at0 k : Nat) (x : Int) (w : World) (hlen : len0 ≤ 1048576) (hat : at0 ≤ len0) (hk0 : at0 ≤ k) (hk : k ≤ len0) (hnil : a0 = none → len0 = 0 ∧ cap0 = 0)
    (hc : Cells w.heap.size w a0 len0 zs) (hr : ∀ j : Nat, 0 ≤ zs.getD j 0 ∧ zs.getD j 0 < 256) (hx : delimB x = false) (hxr : 0 ≤ x ∧ x < 256) :
    Calls Try.prog 6 #[.slice a0 len0 cap0, .int .i64 at0, .int .i64 k, .int .u8 x] w fun e w' => e = .returned (.bool true) ∧ Below w.heap.size w w' := by
  go_enter Try.func6, Try.ntmps6
  go_wp2_with (first | (go_at_call 19; go_in) | (go_at_call 18; refine (isDelim _ _).mono ?_; rintro e w' ⟨rfl, hw⟩; obtain rfl := hw.symm))
  go_loop [9] (fun i => ∃ m : Nat, at0 ≤ m ∧ m ≤ k ∧ (∀ j, at0 ≤ j → j < m → delimB (zs.getD j 0) = false) ∧ i = .int .i64 m) (fun i => k - (intOf i).toNat)
  case atStart => exact ⟨at0, Nat.le_refl _, hk0, fun j h1 h2 => by omega, rfl⟩
  case round =>
    obtain ⟨m, hm0, hm, hpre, rfl⟩ := hrel
    by_cases hlt : m < k
    · rcases hc with rfl | ⟨b, off, rfl, hb, hcell⟩
      · omega
      · have hcm := hcell m (by omega)
        obtain ⟨y, hy⟩ : ∃ y, y = zs.getD m 0 := ⟨_, rfl⟩
        rw [← hy] at hcm
        have HY : Hid (y = zs.getD m 0) := hy
        have HP : Hid (∀ j, at0 ≤ j → j < m → delimB (zs.getD j 0) = false) := hpre
        clear hy hcell hnil hr hpre
        by_cases hd : delimB y = true
        · go_wp2_with (go_at_call 18; refine (isDelim _ _).mono ?_; rintro e w' ⟨rfl, hw⟩; obtain rfl := hw.symm)
          go_ret
          exact ⟨rfl, Below.refl _ _⟩
        · have hd' : delimB y = false := by simpa using hd
          clear hd
          go_wp2_with (go_at_call 18; refine (isDelim _ _).mono ?_; rintro e w' ⟨rfl, hw⟩; obtain rfl := hw.symm)
          go_round
          case rel =>
            refine ⟨m + 1, by omega, by omega, fun j h1 h2 => ?_, by go_num⟩
            by_cases e : j = m
            · subst e; rw [← HY.out]; exact hd'
            · exact HP.out j h1 (by omega)
          case measure => simp [intOf]; omega
    · obtain rfl : m = k := by omega
      have HP : Hid (∀ j, at0 ≤ j → j < m → delimB (zs.getD j 0) = false) := hpre
      clear hpre
      go_wp2_with fail
      refine (clone_any a0 len0 cap0 zs w hnil hc hlen).mono ?_
      rintro e w1 ⟨a', c', rfl, hcs, hb1⟩
      go_wp2_with fail
      refine (insert_any a' len0 c' zs m x w1 hk hlen hcs).mono ?_
      rintro e w2 ⟨a2, c2, rfl, hcs2, hb2⟩
      go_wp2_with fail
      refine (zzSkip a' len0 c' zs at0 w2 hat (by omega) (hcs.below hb2 hb2.size) hr).mono ?_
      rintro e w3 ⟨q, hq, rfl, hb3⟩
      go_wp2_with fail
      refine (zzSkip a2 (len0 + 1) c2 (insL zs len0 m x) at0 w3 (by omega) (by omega) (hcs2.below hb3 hb3.size) (insL_range zs len0 m x hr hxr)).mono ?_
      rintro e w4 ⟨q2, hq2, rfl, hb4⟩
      obtain rfl := (stop_insert hq hk0 hk HP.out hx).unique hq2
      have hcs4 := ((hcs.below hb2 hb2.size).below hb3 hb3.size).below hb4 hb4.size
      have hfin : Below w.heap.size w w4 := hb1.trans ((hb2.mono hb1.size).trans ((hb3.mono (Nat.le_trans hb1.size hb2.size)).trans (hb4.mono (Nat.le_trans hb1.size (Nat.le_trans hb2.size hb3.size)))))
      obtain ⟨hq0, hq1, hq2', hq3⟩ := hq
      have hA : ¬ (q : Int) < 0 := by omega
      have hB : ¬ len0 < q := by omega
      have H4 : Hid (Below w.heap.size w w4) := hfin
      clear hq2 hq2' hcs hcs2 hb1 hb2 hb3 hb4 hnil hc hr hfin HP
      by_cases hend : q = len0
      · subst hend
        go_wp2_with fail
        go_ret
        refine ⟨?_, H4.out⟩
        simp
      · have hend' : ((q : Int) == (len0 : Int)) = false := by simp; omega
        rcases hcs4 with rfl | ⟨b, off, rfl, hb, hcell⟩
        · omega
        have hcq := hcell q (by omega)
        have hd := hq3 (by omega)
        obtain ⟨y, hy⟩ : ∃ y, y = zs.getD q 0 := ⟨_, rfl⟩
        rw [← hy] at hcq hd
        clear hy hcell hq3
        go_wp2_with (go_at_call 18; refine (isDelim _ _).mono ?_; rintro e w' ⟨rfl, hw⟩; obtain rfl := hw.symm)
        go_ret
        refine ⟨?_, H4.out⟩
        simp
end L6
end Go.Proofs.Qxb6616787a
