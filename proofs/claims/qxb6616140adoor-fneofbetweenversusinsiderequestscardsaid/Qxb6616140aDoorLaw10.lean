/- FnEOFBetweenVersusInsideRequests: the walk. -/
import Derived.Test.Qxb6616140aDoorCmd
import Derived.Test.Qxb6616140aDoorZz3
namespace Go.Proofs.Qxb6616140aDoor
open Go.RowKit

set_option maxRecDepth 100000 in
set_option maxHeartbeats 3200000 in
theorem law10 (ao bo : Option Addr) (c d n m : Nat) (cut : Int) (xs ys : List (List Int)) (w : World) (e0 e1 e3 : Addr) (hE : Env w.heap.size e0 e1 e3 w) (hn : n = xs.length) (hm : m = ys.length) (hA : Mat w.heap.size w ao xs) (hB : Mat w.heap.size w bo ys) (hnb : n ≤ 9223372036854775807) (hmb : m ≤ 9223372036854775807)
    (hnr : ∀ i, i < xs.length → (xs.getD i []).length ≤ 9223372036854775807) (hmr : ∀ i, i < ys.length → (ys.getD i []).length ≤ 9223372036854775807) (hx8 : Bytes88 xs) (hy8 : Bytes88 ys) :
    Calls Tryd.prog 10 #[.slice ao n c, .slice bo m d, .int .i64 cut] w fun e w' => e = .returned (.bool true) ∧ Below w.heap.size w w' := by
  have HE : Hid (Env w.heap.size e0 e1 e3 w) := hE
  have HA : Hid (Mat w.heap.size w ao xs) := hA
  have HB : Hid (Mat w.heap.size w bo ys) := hB
  have HN : Hid (n = xs.length) := hn
  have HMm : Hid (m = ys.length) := hm
  have HX8 : Hid (Bytes88 xs ∧ Bytes88 ys) := ⟨hx8, hy8⟩
  have HZ : Hid (Calls Tryd.prog 30 #[.slice ao n c, .slice bo m d, .int .i64 cut] w fun e w' => ZzAns e xs ys ∧ w' = w) := zzThree _ _ ao bo c d n m xs ys w hn hm hA hB hnb hmb hnr hmr
  clear hE hA hB hn hm hnr hmr hx8 hy8
  go_enter Tryd.func10, Tryd.ntmps10
  go_wp2_with fail
  refine HZ.out.mono ?_
  rintro e w' ⟨hz, hw⟩
  obtain rfl := hw.symm
  rcases hz with rfl | ⟨rfl, hsx, hsy⟩
  · go_wp2_with fail
    go_ret
    exact ⟨rfl, Below.refl _ _⟩
  have HSX : Hid (Small xs ∧ Small ys) := ⟨hsx, hsy⟩
  clear HZ hsx hsy
  go_wp2_with fail
  refine (argsTooBig _ ao c n 524288 xs w HN.out HA.out HSX.out.1 (by omega)).mono ?_
  rintro e w' ⟨hz, hw⟩
  obtain rfl := hw.symm
  rcases hz with rfl | ⟨rfl, hn1, ht1⟩
  · go_wp2_with fail
    go_ret
    exact ⟨rfl, Below.refl _ _⟩
  go_wp2_with fail
  refine (argsTooBig _ bo d m 524288 ys w HMm.out HB.out HSX.out.2 (by omega)).mono ?_
  rintro e w' ⟨hz, hw⟩
  obtain rfl := hw.symm
  rcases hz with rfl | ⟨rfl, hm1, ht2⟩
  · go_wp2_with fail
    go_ret
    exact ⟨rfl, Below.refl _ _⟩
  have hlx := enc_len xs HSX.out.1 (by rw [← HN.out]; exact hn1) (by omega)
  have hly := enc_len ys HSX.out.2 (by rw [← HMm.out]; exact hm1) (by omega)
  by_cases hn0 : n = 0
  · subst hn0
    go_wp2_with fail
    go_ret
    exact ⟨rfl, Below.refl _ _⟩
  have hn0' : ¬ (n : Int) = 0 := by omega
  have HNE : Hid (xs ≠ []) := by intro h; rw [HN.out, h] at hn0; exact hn0 rfl
  go_wp2_with fail
  refine (show Calls Tryd.prog 20 #[.slice bo m d, .int .i64 (-1), .int .u8 0] w fun e w' => ∃ v, e = .returned v ∧ Own w.heap.size w' v (enc ys) ∧ Keep [] w w' from by have := encodeArray bo d ys w HB.out HSX.out.2.1 (by omega); rwa [← HMm.out] at this).mono ?_
  rintro e w1 ⟨v1, rfl, hown1, hk1⟩
  have HK1 : Hid (Keep [] w w1) := hk1
  obtain ⟨g2, cap2, f2, rfl, hg2, hrow2, hlc2, hcm2, hf2⟩ := hown1.row (enc_ne ys)
  obtain ⟨l, hl⟩ : ∃ l, l = (enc ys).length := ⟨_, rfl⟩
  have HL : Hid (l = (enc ys).length) := hl
  have HROW : Hid (w1.rowIs g2 5 cap2 f2 ∧ ∀ j, j < (enc ys).length → f2 j = .int .u8 ((enc ys).getD j 0)) := ⟨hrow2, hf2⟩
  rw [← hl] at hly hlc2 ⊢
  have hl0 : 0 < l := by rw [hl]; exact List.length_pos_iff.2 (enc_ne ys)
  clear hown1 hk1 hrow2 hf2 hl
  by_cases hneg : cut < 0
  · go_wp2_with fail
    go_ret
    exact ⟨rfl, HK1.out.old⟩
  obtain ⟨k, rfl⟩ : ∃ k : Nat, cut = (k : Int) := ⟨cut.toNat, by omega⟩
  by_cases hfar : l < k
  · have hfar' : (l : Int) < (k : Int) := by omega
    go_wp2_with fail
    go_ret
    exact ⟨rfl, HK1.out.old⟩
  have hfar' : ¬ (l : Int) < (k : Int) := by omega
  have hkc : (k : Int) ≤ (cap2 : Int) := by omega
  have hc0 : ¬ cap2 = 0 := by omega
  go_wp2_with fail
  refine (show Calls Tryd.prog 20 #[.slice ao n c, .int .i64 (-1), .int .u8 0] w1 fun e w' => ∃ v, e = .returned v ∧ Own w1.heap.size w' v (enc xs) ∧ Keep [] w1 w' from by have := encodeArray ao c xs w1 ((HA.out.below HK1.out.old).mono HK1.out.size) HSX.out.1.1 (by omega); rwa [← HN.out] at this).mono ?_
  rintro e w2 ⟨v2, rfl, hown2, hk2⟩
  obtain ⟨zs, hzs⟩ : ∃ zs, zs = (enc ys).take k := ⟨_, rfl⟩
  have HZL : Hid (zs.length = k) := by show _ = _; rw [hzs, List.length_take, ← HL.out]; omega
  have HZS : Hid (zs = (enc ys).take k) := hzs
  have HO2 : Hid (Own w1.heap.size w2 v2 (enc xs)) := hown2
  have HK2 : Hid (Keep [] w w2) := HK1.out.then hk2
  have HC2 : Hid (∀ j, j < zs.length → w2.cell? ⟨g2, j, none⟩ = some (.int .u8 (zs.getD j 0))) := fun j hj => by
    have hjk : j < k := by rw [← HZL.out]; exact hj
    have h1 := HROW.out.1.cell (i := j) (by omega)
    rw [hk2.cell (p := ⟨g2, j, none⟩) (lt_of_cell h1) (by simp), h1, HROW.out.2 j (by rw [← HL.out]; omega), hzs, take_getD _ _ _ hjk]
  have HS12 : Hid (w1.heap.size ≤ w2.heap.size) := hk2.size
  have HS01 : Hid (w.heap.size ≤ w1.heap.size) := HK1.out.size
  clear hown2 hk2 hzs HROW HK1
  go_wp2_with (at_builtin; refine wpList_append_bytes _ rfl (.tmp 40) (.tmp 43) rfl w1.heap.size _ (enc xs) rfl HO2.out _ k cap2 zs rfl HZL.out (fun h => by cases h) (fun ad had j hj => cells_of HC2.out ad had j (by rw [HZL.out]; exact hj)) (by omega) HS12.out ?_; intro v3 w3 hown3 hk3; have HO3 : Hid (Own w1.heap.size w3 v3 (enc xs ++ zs)) := hown3; have HK3 : Hid (Keep [] w w3) := HK2.out.trans hk3 (fun x hx => .inr (Nat.le_trans HS01.out (HO2.out.base x hx))); clear hown3 hk3)
  obtain ⟨g, cap, f, rfl, hg, hrow, hlc, hcm, hf⟩ := HO3.out.row (by simp [enc])
  obtain ⟨L, hL⟩ : ∃ L : Lay, L = { B := w.heap.size, bb := w3.heap.size + 1, bf := w3.heap.size + 2, rb := w3.heap.size, sb := g, so := 0, n := (enc xs ++ zs).length, scap := cap, src := enc xs ++ zs } := ⟨_, rfl⟩
  have hLn : L.n = (enc xs ++ zs).length := by rw [hL]
  have hLs : L.src = enc xs ++ zs := by rw [hL]
  have hLB : L.B = w.heap.size := by rw [hL]
  have hsrc : Src L w3 := by
    rw [hL]
    exact ⟨hrow.lt, fun j hj => by show w3.cell? ⟨g, 0 + j, none⟩ = some (Value.int .u8 ((enc xs ++ zs).getD j 0)); rw [Nat.zero_add, hrow.cell (i := j) (by show j < cap; have : j < (enc xs ++ zs).length := hj; omega), hf j hj]⟩
  have hnew := newReader L w3 (by rw [hLB]; exact HK3.out.size) (by rw [hL]) (by rw [hL]) (by rw [hL]) hsrc (by rw [hL]; exact hlc) (by rw [hLn, List.length_append, HZL.out]; omega) (by rw [hL]) (by rw [hLs]; exact ((enc_bytes xs HX8.out.1).append (fun z hz => enc_bytes ys HX8.out.2 z (List.mem_of_mem_take (by rw [HZS.out] at hz; exact hz)))).getD)
  have hsl : (.slice (some ⟨L.sb, L.so, none⟩) L.n L.scap : Value) = .slice (some ⟨g, 0, none⟩) (enc xs ++ zs).length cap := by rw [hL]
  rw [hsl] at hnew
  have HNEW : Hid (Calls Tryd.prog 19 #[.slice (some ⟨g, 0, none⟩) (enc xs ++ zs).length cap] w3 fun e w' => e = .returned (.pointer (some ⟨w3.heap.size + 3, 0, none⟩)) ∧ Rdr L (w3.heap.size + 3) w' 0 ∧ Keep [] w3 w' ∧ w'.heap.size = w3.heap.size + 4) := hnew
  have HAT : Hid (At L 0 (enc xs ++ zs)) := ⟨by rw [hLn]; omega, fun j _ => by rw [hLs, Nat.zero_add]⟩
  have HLN : Hid (L.n = (enc xs).length + k ∧ L.B = w.heap.size) := ⟨by rw [hLn, List.length_append, HZL.out], hLB⟩
  clear hnew hsl hsrc hL hLs hrow hf HO3 HO2 HK2 HC2 hLn hLB HS12 HS01
  go_wp2_with fail
  refine HNEW.out.mono ?_
  rintro e w4 ⟨rfl, hR4, hk4, hs4⟩
  obtain ⟨X, hX⟩ : ∃ X, X = w3.heap.size + 3 := ⟨_, rfl⟩
  rw [← hX] at hR4 ⊢
  have HK4 : Hid (Keep [] w w4) := HK3.out.then hk4
  have HR4 : Hid (Rdr L X w4 0) := hR4
  have HAP : Hid (Apart L) := hR4.rd.ap
  clear HNEW hR4 hk4 hs4 HK3 hX
  go_wp2_with fail
  refine (cmd_array L X w4 0 xs e0 e1 e3 (HK4.out.env HE.out HLN.out.2) HR4.out HAT.out.left HNE.out HSX.out.1.1 HSX.out.1.2).mono ?_
  rintro e w5 ⟨v5, rfl, hG5, hR5, hk5⟩
  have HK5 : Hid (Keep [] w w5) := HK4.out.lown hk5 HAP.out HLN.out.2
  have HR5 : Hid (Rdr L X w5 (enc xs).length) := by rw [Nat.zero_add] at hR5; exact hR5
  have HSA : Hid (Calls Tryd.prog 23 #[v5, .slice ao n c] w5 fun e w' => e = .returned (.bool true) ∧ ∃ n, w' = w5.drewN n) := sameArgs _ _ v5 ao c n xs w5 HN.out hG5 (HA.out.below HK5.out.old) HSX.out.1 (by rw [HN.out]; exact hG5.form)
  clear hG5 hR5 hk5 HR4 HK4
  go_wp2_with fail
  refine HSA.out.mono ?_
  rintro e w6 ⟨rfl, n6, rfl⟩
  obtain ⟨w6, hw6⟩ : ∃ w6, w6 = w5.drewN n6 := ⟨_, rfl⟩
  have HK6 : Hid (Keep [] w w6) := by show Keep [] w w6; rw [hw6]; exact HK5.out.drewN n6
  have HR6 : Hid (Rdr L X w6 (enc xs).length) := by show Rdr L X w6 _; rw [hw6]; exact HR5.out.drewN n6
  have HAT2 : Hid (At L (enc xs).length zs) := by have := HAT.out.right; rwa [Nat.zero_add] at this
  rw [← hw6]
  clear hw6 HSA HR5 HK5
  go_wp2_with fail
  by_cases hk0 : k = 0
  · subst hk0
    have hp : (enc xs).length = L.n := by rw [HLN.out.1]; rfl
    refine (cmd_eof L X w6 e0 e1 e3 (HK6.out.env HE.out HLN.out.2) (by rw [← hp]; exact HR6.out)).mono ?_
    rintro e w9 ⟨rfl, hk9⟩
    have HK9 : Hid (Keep [] w w9) := HK6.out.lown hk9 HAP.out HLN.out.2
    have hnil := Lib.run_eql_slice_nil (P := Tryd.prog) w9 35 24 none 0 0 0 0 Tryd.underlying35
    clear hk9 HR6 HK6
    go_wp2_with fail
    refine (errCode_eof w9 (HE.out.below HK9.out.old)).mono ?_
    rintro e w9' ⟨rfl, hw⟩
    obtain rfl := hw.symm
    go_wp2_with fail
    go_ret
    exact ⟨rfl, HK9.out.old⟩
  have hk0' : ¬ (k : Int) = 0 := by omega
  by_cases hkl : k < l
  · have hkl' : (k : Int) < (l : Int) := by omega
    have hCT : Cut L (enc xs).length (enc ys) := ⟨by rw [HLN.out.1, ← HL.out]; omega, fun j hj => by
      rw [HLN.out.1] at hj
      rw [HAT2.out.2 j (by rw [HZL.out]; omega), HZS.out, take_getD _ _ _ (by omega)]⟩
    refine (cmd_cut L X w6 (enc xs).length ys e0 e1 e3 (HK6.out.env HE.out HLN.out.2) HR6.out hCT (by rw [HLN.out.1]; omega) HSX.out.2.1 HSX.out.2.2).mono ?_
    rintro e w9 ⟨rfl, hk9⟩
    have HK9 : Hid (Keep [] w w9) := HK6.out.lown hk9 HAP.out HLN.out.2
    have hnil := Lib.run_eql_slice_nil (P := Tryd.prog) w9 35 24 none 0 0 0 0 Tryd.underlying35
    clear hk9 HR6 HK6 hCT
    go_wp2_with fail
    refine (errCode_unexpected w9 (HE.out.below HK9.out.old)).mono ?_
    rintro e w9' ⟨rfl, hw⟩
    obtain rfl := hw.symm
    go_wp2_with fail
    go_ret
    exact ⟨rfl, HK9.out.old⟩
  obtain rfl : k = l := by omega
  have hkl' : ¬ (k : Int) < (k : Int) := by omega
  have HAT3 : Hid (At L (enc xs).length (enc ys)) := by have := HAT2.out; rwa [HZS.out, List.take_of_length_le (by rw [HL.out]; exact Nat.le_refl _)] at this
  by_cases hm0 : m = 0
  · subst hm0
    have hy0 : ys = [] := List.eq_nil_of_length_eq_zero HMm.out.symm
    have HY0 : Hid (ys = []) := hy0
    clear hy0
    refine (cmd_empty L X w6 (enc xs).length e0 e1 e3 (HK6.out.env HE.out HLN.out.2) HR6.out (by have := HAT3.out; rwa [HY0.out] at this) (by rw [HLN.out.1, HL.out, HY0.out])).mono ?_
    rintro e w9 ⟨rfl, hk9⟩
    have HK9 : Hid (Keep [] w w9) := HK6.out.lown hk9 HAP.out HLN.out.2
    have hnil := Lib.run_eql_slice_nil (P := Tryd.prog) w9 35 24 none 0 0 0 0 Tryd.underlying35
    clear hk9 HR6 HK6
    go_wp2_with fail
    refine (errCode_eof w9 (HE.out.below HK9.out.old)).mono ?_
    rintro e w9' ⟨rfl, hw⟩
    obtain rfl := hw.symm
    go_wp2_with fail
    go_ret
    exact ⟨rfl, HK9.out.old⟩
  have hm0' : ¬ (m : Int) = 0 := by omega
  have HYE : Hid (ys ≠ []) := by intro h; rw [HMm.out, h] at hm0; exact hm0 rfl
  refine (cmd_array L X w6 (enc xs).length ys e0 e1 e3 (HK6.out.env HE.out HLN.out.2) HR6.out HAT3.out HYE.out HSX.out.2.1 HSX.out.2.2).mono ?_
  rintro e w7 ⟨v7, rfl, hG7, hR7, hk7⟩
  have HK7 : Hid (Keep [] w w7) := HK6.out.lown hk7 HAP.out HLN.out.2
  have HSB : Hid (Calls Tryd.prog 23 #[v7, .slice bo m d] w7 fun e w' => e = .returned (.bool true) ∧ ∃ n, w' = w7.drewN n) := sameArgs _ _ v7 bo d m ys w7 HMm.out hG7 (HB.out.below HK7.out.old) HSX.out.2 (by rw [HMm.out]; exact hG7.form)
  clear hG7 hR7 hk7 HR6 HK6
  go_wp2_with fail
  refine HSB.out.mono ?_
  rintro e w8 ⟨rfl, n8, rfl⟩
  go_wp2_with fail
  go_ret
  exact ⟨rfl, (HK7.out.drewN n8).old⟩
end Go.Proofs.Qxb6616140aDoor
