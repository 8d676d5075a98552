/- FnReadCommandArrayExact: the walk. -/
import Derived.Test.Qxb6616140aDoorCmd
import Derived.Test.Qxb6616140aDoorZz3
namespace Go.Proofs.Qxb6616140aDoor
open Go.RowKit

set_option maxRecDepth 100000 in
set_option maxHeartbeats 1600000 in
theorem law5 (ao : Option Addr) (c n : Nat) (xs : List (List Int)) (w : World) (e0 e1 e3 : Addr) (hE : Env w.heap.size e0 e1 e3 w) (hn : n = xs.length) (hA : Mat w.heap.size w ao xs) (hnb : n ≤ 9223372036854775807)
    (hnr : ∀ i, i < xs.length → (xs.getD i []).length ≤ 9223372036854775807) (hx8 : Bytes88 xs) :
    Calls Tryd.prog 5 #[.slice ao n c] w fun e w' => e = .returned (.bool true) ∧ Below w.heap.size w w' := by
  have HE : Hid (Env w.heap.size e0 e1 e3 w) := hE
  have HA : Hid (Mat w.heap.size w ao xs) := hA
  have HN : Hid (n = xs.length) := hn
  have HX8 : Hid (Bytes88 xs) := hx8
  have HZ : Hid (Calls Tryd.prog 17 #[.slice ao n c] w fun e w' => ZzAns e xs [] ∧ w' = w) := zzOne _ ao c n xs w hn hA hnb hnr
  clear hE hA hn hnr hx8
  go_enter Tryd.func5, Tryd.ntmps5
  go_wp2_with fail
  refine HZ.out.mono ?_
  rintro e w' ⟨hz, hw⟩
  obtain rfl := hw.symm
  rcases hz with rfl | ⟨rfl, hsx, _⟩
  · go_wp2_with fail
    go_ret
    exact ⟨rfl, Below.refl _ _⟩
  have HSX : Hid (Small xs) := hsx
  clear HZ hsx
  go_wp2_with fail
  refine (argsTooBig _ ao c n 1048576 xs w HN.out HA.out HSX.out (by omega)).mono ?_
  rintro e w' ⟨hz, hw⟩
  obtain rfl := hw.symm
  rcases hz with rfl | ⟨rfl, hn1, ht1⟩
  · go_wp2_with fail
    go_ret
    exact ⟨rfl, Below.refl _ _⟩
  have hlx := enc_len xs HSX.out (by rw [← HN.out]; exact hn1) (by omega)
  go_wp2_with fail
  refine (show Calls Tryd.prog 20 #[.slice ao n c, .int .i64 (-1), .int .u8 0] w fun e w' => ∃ v, e = .returned v ∧ Own w.heap.size w' v (enc xs) ∧ Keep [] w w' from by have := encodeArray ao c xs w HA.out HSX.out.1 (by omega); rwa [← HN.out] at this).mono ?_
  rintro e w3 ⟨v3, rfl, hown3, hk3⟩
  have HK3 : Hid (Keep [] w w3) := hk3
  obtain ⟨g, cap, f, rfl, hg, hrow, hlc, hcm, hf⟩ := hown3.row (enc_ne xs)
  obtain ⟨L, hL⟩ : ∃ L : Lay, L = { B := w.heap.size, bb := w3.heap.size + 1, bf := w3.heap.size + 2, rb := w3.heap.size, sb := g, so := 0, n := (enc xs).length, scap := cap, src := enc xs } := ⟨_, rfl⟩
  have hLn : L.n = (enc xs).length := by rw [hL]
  have hLs : L.src = enc xs := by rw [hL]
  have hLB : L.B = w.heap.size := by rw [hL]
  have hsrc : Src L w3 := by
    rw [hL]
    exact ⟨hrow.lt, fun j hj => by show w3.cell? ⟨g, 0 + j, none⟩ = some (Value.int .u8 ((enc xs).getD j 0)); rw [Nat.zero_add, hrow.cell (i := j) (by show j < cap; have : j < (enc xs).length := hj; omega), hf j hj]⟩
  have hnew := newReader L w3 (by rw [hLB]; exact HK3.out.size) (by rw [hL]) (by rw [hL]) (by rw [hL]) hsrc (by rw [hL]; exact hlc) (by rw [hLn]; omega) (by rw [hL]) (by rw [hLs]; exact (enc_bytes xs HX8.out).getD)
  have hsl : (.slice (some ⟨L.sb, L.so, none⟩) L.n L.scap : Value) = .slice (some ⟨g, 0, none⟩) (enc xs).length cap := by rw [hL]
  rw [hsl] at hnew
  have HNEW : Hid (Calls Tryd.prog 19 #[.slice (some ⟨g, 0, none⟩) (enc xs).length cap] w3 fun e w' => e = .returned (.pointer (some ⟨w3.heap.size + 3, 0, none⟩)) ∧ Rdr L (w3.heap.size + 3) w' 0 ∧ Keep [] w3 w' ∧ w'.heap.size = w3.heap.size + 4) := hnew
  have HLN : Hid (L.n = (enc xs).length ∧ L.B = w.heap.size) := ⟨hLn, hLB⟩
  have HAT : Hid (At L 0 (enc xs)) := ⟨by rw [hLn]; omega, fun j _ => by rw [hLs, Nat.zero_add]⟩
  clear hnew hsl hsrc hL hLs hLn hLB hown3 hrow hf hk3
  go_wp2_with fail
  refine HNEW.out.mono ?_
  rintro e w4 ⟨rfl, hR4, hk4, hs4⟩
  obtain ⟨X, hX⟩ : ∃ X, X = w3.heap.size + 3 := ⟨_, rfl⟩
  rw [← hX] at hR4 ⊢
  have HK4 : Hid (Keep [] w w4) := HK3.out.then hk4
  have HR4 : Hid (Rdr L X w4 0) := hR4
  have HAP : Hid (Apart L) := hR4.rd.ap
  clear HNEW hR4 hk4 hs4 HK3 hX
  go_wp2_with fail
  by_cases hx0 : xs = []
  · have HX0 : Hid (xs = []) := hx0
    obtain rfl : n = 0 := by rw [HN.out, hx0]; rfl
    clear hx0
    refine (cmd_empty L X w4 0 e0 e1 e3 (HK4.out.env HE.out HLN.out.2) HR4.out (by have := HAT.out; rwa [HX0.out] at this) (by rw [HLN.out.1, HX0.out]; omega)).mono ?_
    rintro e w9 ⟨rfl, hk9⟩
    have HK9 : Hid (Keep [] w w9) := HK4.out.lown hk9 HAP.out HLN.out.2
    have hnil := Lib.run_eql_slice_nil (P := Tryd.prog) w9 35 24 none 0 0 0 0 Tryd.underlying35
    clear hk9 HR4 HK4
    go_wp2_with fail
    refine (errCode_eof w9 (HE.out.below HK9.out.old)).mono ?_
    rintro e w9' ⟨rfl, hw⟩
    obtain rfl := hw.symm
    go_wp2_with fail
    go_ret
    exact ⟨rfl, HK9.out.old⟩
  · have hn0 : 0 < n := by rw [HN.out]; exact List.length_pos_iff.2 hx0
    have hn0' : ¬ (n : Int) = 0 := by omega
    refine (cmd_array L X w4 0 xs e0 e1 e3 (HK4.out.env HE.out HLN.out.2) HR4.out HAT.out hx0 HSX.out.1 HSX.out.2).mono ?_
    rintro e w5 ⟨v5, rfl, hG5, hR5, hk5⟩
    have HK5 : Hid (Keep [] w w5) := HK4.out.lown hk5 HAP.out HLN.out.2
    have HR5 : Hid (Rdr L X w5 L.n) := by rw [Nat.zero_add, ← HLN.out.1] at hR5; exact hR5
    have HSA : Hid (Calls Tryd.prog 23 #[v5, .slice ao n c] w5 fun e w' => e = .returned (.bool true) ∧ ∃ n, w' = w5.drewN n) := sameArgs _ _ v5 ao c n xs w5 HN.out hG5 (HA.out.below HK5.out.old) HSX.out (by rw [HN.out]; exact hG5.form)
    clear hG5 hR5 hk5 HR4 HK4 hx0
    go_wp2_with fail
    refine HSA.out.mono ?_
    rintro e w6 ⟨rfl, n6, rfl⟩
    obtain ⟨w6, hw6⟩ : ∃ w6, w6 = w5.drewN n6 := ⟨_, rfl⟩
    have HK6 : Hid (Keep [] w w6) := by show Keep [] w w6; rw [hw6]; exact HK5.out.drewN n6
    have HR6 : Hid (Rdr L X w6 L.n) := by show Rdr L X w6 _; rw [hw6]; exact HR5.out.drewN n6
    rw [← hw6]
    clear hw6 HSA HR5 HK5
    go_wp2_with fail
    refine (cmd_eof L X w6 e0 e1 e3 (HK6.out.env HE.out HLN.out.2) HR6.out).mono ?_
    rintro e w9 ⟨rfl, hk9⟩
    have HK9 : Hid (Keep [] w w9) := HK6.out.lown hk9 HAP.out HLN.out.2
    have hnil := Lib.run_eql_slice_nil (P := Tryd.prog) w9 35 24 none 0 0 0 0 Tryd.underlying35
    clear hk9 HR6 HK6
    go_wp2_with fail
    refine (errCode_eof w9 (HE.out.below HK9.out.old)).mono ?_
    rintro e w9' ⟨rfl, hw⟩
    obtain rfl := hw.symm
    go_wp2_with fail
    go_ret
    exact ⟨rfl, HK9.out.old⟩
end Go.Proofs.Qxb6616140aDoor
