/- bytes.TrimSuffix, trimLineEnd, bytes.TrimPrefix at what the reader hands them. -/
import Derived.Test.Qxb6616140aDoorNew
import Derived.Laws.BytesArg
import Derived.Lib.SlBytesConst
namespace Go.Proofs.Qxb6616140aDoor
open Go.RowKit

/-- bytes.Equal of two rows of one byte. -/
theorem bytesEq1 (b o c b2 c2 : Nat) (x y : Int) (w : World) (hx : w.cell? ⟨b, o, none⟩ = some (.int .u8 x)) (hy : w.cell? ⟨b2, 0, none⟩ = some (.int .u8 y)) (r : Bool) (hr : ((strOfNums [x]).toList == (strOfNums [y]).toList) = r) :
    Calls Tryd.prog 55 #[.slice (some ⟨b, o, none⟩) 1 c, .slice (some ⟨b2, 0, none⟩) 1 c2] w fun e w' => e = .returned (.bool r) ∧ w' = w := by
  have g1 := run_convert_bytes_arg (P := Tryd.prog) w 24 5 Tryd.underlying24 Tryd.underlying5 b o 1 c [x] rfl (fun i hi => by obtain rfl : i = 0 := by omega
                                                                                                                              exact hx) 9 Tryd.underlying9
  have g2 := run_convert_bytes_arg (P := Tryd.prog) w 24 5 Tryd.underlying24 Tryd.underlying5 b2 0 1 c2 [y] rfl (fun i hi => by obtain rfl : i = 0 := by omega
                                                                                                                                exact hy) 9 Tryd.underlying9
  go_enter Tryd.func55, Tryd.ntmps55
  go_wp2
  go_ret
  exact ⟨by rw [← hr]; rfl, rfl⟩

set_option maxRecDepth 100000 in
/-- bytes.TrimSuffix cuts the one byte off. -/
theorem trimSuffix1 (b o l c b2 c2 : Nat) (x : Int) (w : World) (hl : 0 < l) (hlc : l ≤ c) (hl2 : l ≤ 1048576) (hx : w.cell? ⟨b, o + (l - 1), none⟩ = some (.int .u8 x)) (hy : w.cell? ⟨b2, 0, none⟩ = some (.int .u8 x)) :
    Calls Tryd.prog 64 #[.slice (some ⟨b, o, none⟩) l c, .slice (some ⟨b2, 0, none⟩) 1 c2] w fun e w' => e = .returned (.slice (some ⟨b, o, none⟩) (l - 1) c) ∧ w' = w := by
  have hge : (1 : Int) ≤ (l : Int) := by omega
  have hs : (l : Int) - 1 = ((l - 1 : Nat) : Int) := by omega
  have h79 : Calls Tryd.prog 79 #[.slice (some ⟨b, o, none⟩) l c, .slice (some ⟨b2, 0, none⟩) 1 c2] w fun e w' => e = .returned (.bool true) ∧ w' = w := by
    have hne : ¬ c = l - 1 := by omega
    have hll : l - (l - 1) = 1 := by omega
    go_enter Tryd.func79, Tryd.ntmps79
    go_wp2_with fail
    refine (bytesEq1 b (o + (l - 1)) (c - (l - 1)) b2 c2 x x w hx hy true (by simp)).mono ?_
    rintro e w2 ⟨rfl, rfl⟩
    go_wp2_with fail
    go_ret
    exact ⟨rfl, rfl⟩
  clear hx hy
  go_enter Tryd.func64, Tryd.ntmps64
  go_wp2_with fail
  refine h79.mono ?_
  rintro e w2 ⟨rfl, rfl⟩
  clear h79
  have hc0 : ¬ c = 0 := by omega
  go_wp2_with fail
  go_ret
  exact ⟨rfl, rfl⟩

set_option maxRecDepth 100000 in
set_option maxHeartbeats 800000 in
/-- trimLineEnd cuts CR LF off. -/
theorem trimLine (b o l c : Nat) (w : World) (hl : 2 ≤ l) (hlc : l ≤ c) (hl2 : l ≤ 1048576) (h13 : w.cell? ⟨b, o + (l - 2), none⟩ = some (.int .u8 13)) (h10 : w.cell? ⟨b, o + (l - 1), none⟩ = some (.int .u8 10)) :
    Calls Tryd.prog 50 #[.slice (some ⟨b, o, none⟩) l c] w fun e w' => e = .returned (.slice (some ⟨b, o, none⟩) (l - 2) c) ∧ Keep [] w w' := by
  have kc := fun (w : World) (C : Array Value) (n c : Nat) => Lib.run_convert_bytes_const (P := Tryd.prog) w 24 5 C n c Tryd.underlying24 Tryd.underlying5
  have hb := lt_of_cell h13
  go_enter Tryd.func50, Tryd.ntmps50
  go_wp2_with fail
  obtain ⟨w1, hw1⟩ : ∃ w1, w1 = w.alloc (.cells #[.int .u8 10] 5 (1, 2)) := ⟨_, rfl⟩
  have hk1 : Keep [] w w1 := by rw [hw1]; exact (Keep.refl [] w).alloc _
  have d1 : w1.cell? ⟨w.heap.size, 0, none⟩ = some (.int .u8 10) := by rw [hw1, World.cell?_alloc_mark]; rfl
  have e10 := (hk1.cell (p := ⟨b, o + (l - 1), none⟩) (lt_of_cell h10) (by simp)).trans h10
  have e13 := (hk1.cell (p := ⟨b, o + (l - 2), none⟩) hb (by simp)).trans h13
  rw [← hw1]
  clear hw1
  refine (trimSuffix1 b o l c w.heap.size 1 10 w1 (by omega) hlc hl2 e10 d1).mono ?_
  rintro e w1' ⟨rfl, hw⟩
  obtain rfl := hw.symm
  clear h13 h10 d1 e10
  go_wp2_with fail
  obtain ⟨w2, hw2⟩ : ∃ w2, w2 = w1.alloc (.cells #[.int .u8 13] 5 (1, 2)) := ⟨_, rfl⟩
  have hk2 : Keep [] w1 w2 := by rw [hw2]; exact (Keep.refl [] w1).alloc _
  have d2 : w2.cell? ⟨w1.heap.size, 0, none⟩ = some (.int .u8 13) := by rw [hw2, World.cell?_alloc_mark]; rfl
  have g13 := (hk2.cell (p := ⟨b, o + (l - 2), none⟩) (lt_of_cell e13) (by simp)).trans e13
  rw [← hw2]
  clear hw2 kc
  refine (trimSuffix1 b o (l - 1) c w1.heap.size 1 13 w2 (by omega) (by omega) (by omega) (by rw [show l - 1 - 1 = l - 2 by omega]; exact g13) d2).mono ?_
  rintro e w2' ⟨rfl, hw⟩
  obtain rfl := hw.symm
  clear e13 d2 g13
  go_wp2_with fail
  go_ret
  exact ⟨by rw [show l - 2 = l - 1 - 1 by omega]; rfl, hk1.then hk2⟩

theorem digit_ne_minus (x : Int) (h0 : 48 ≤ x) (h1 : x ≤ 57) : ((strOfNums [x]).toList == (strOfNums [45]).toList) = false := by
  obtain rfl | rfl | rfl | rfl | rfl | rfl | rfl | rfl | rfl | rfl : x = 48 ∨ x = 49 ∨ x = 50 ∨ x = 51 ∨ x = 52 ∨ x = 53 ∨ x = 54 ∨ x = 55 ∨ x = 56 ∨ x = 57 := by omega
  all_goals decide +kernel

set_option maxRecDepth 100000 in
set_option maxHeartbeats 800000 in
/-- bytes.TrimPrefix leaves a text that starts with a digit. -/
theorem trimPrefix (b o l c b2 c2 : Nat) (x : Int) (w : World) (hl : 0 < l) (hlc : l ≤ c) (hl2 : l ≤ 1048576) (hx : w.cell? ⟨b, o, none⟩ = some (.int .u8 x)) (hx0 : 48 ≤ x) (hx1 : x ≤ 57) (hy : w.cell? ⟨b2, 0, none⟩ = some (.int .u8 45)) :
    Calls Tryd.prog 32 #[.slice (some ⟨b, o, none⟩) l c, .slice (some ⟨b2, 0, none⟩) 1 c2] w fun e w' => e = .returned (.slice (some ⟨b, o, none⟩) l c) ∧ w' = w := by
  have hge : (1 : Int) ≤ (l : Int) := by omega
  have hge1 : (1 : Int) ≤ (c : Int) := by omega
  have hc0 : ¬ c = 0 := by omega
  have h42 : Calls Tryd.prog 42 #[.slice (some ⟨b, o, none⟩) l c, .slice (some ⟨b2, 0, none⟩) 1 c2] w fun e w' => e = .returned (.bool false) ∧ w' = w := by
    go_enter Tryd.func42, Tryd.ntmps42
    go_wp2_with fail
    refine (bytesEq1 b o c b2 c2 x 45 w hx hy false (digit_ne_minus x hx0 hx1)).mono ?_
    rintro e w2 ⟨rfl, rfl⟩
    go_wp2_with fail
    go_ret
    exact ⟨rfl, rfl⟩
  clear hx hy
  go_enter Tryd.func32, Tryd.ntmps32
  go_wp2_with fail
  refine h42.mono ?_
  rintro e w2 ⟨rfl, rfl⟩
  clear h42
  go_wp2_with fail
  go_ret
  exact ⟨rfl, rfl⟩
end Go.Proofs.Qxb6616140aDoor
