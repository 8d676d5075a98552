/- FnTruncatedArrayIsUnexpectedEOF: the walk. -/
import Derived.Test.Qxb6616140aDoorLaw7
import Derived.Test.Qxb6616140aDoorArrE
namespace Go.Proofs.Qxb6616140aDoor
open Go.RowKit

set_option maxRecDepth 100000 in
set_option maxHeartbeats 800000 in
theorem zzCut (B : Nat) (ao : Option Addr) (c n : Nat) (cv : Value) (xs : List (List Int)) (w : World) (hn : n = xs.length) (hA : Mat B w ao xs) (hnb : n ≤ 9223372036854775807)
    (hnr : ∀ i, i < xs.length → (xs.getD i []).length ≤ 9223372036854775807) :
    Calls Tryd.prog 29 #[.slice ao n c, cv] w fun e w' => ZzAns e xs [] ∧ w' = w := by
  have HA : Hid (Mat B w ao xs) := hA
  have HN : Hid (n = xs.length) := hn
  have HNR : Hid (∀ i, i < xs.length → (xs.getD i []).length ≤ 9223372036854775807) := hnr
  clear hA hn hnr
  by_cases hbig : 1048576 < n
  · go_enter Tryd.func29, Tryd.ntmps29
    go_wp2
    go_ret
    exact ⟨.inl rfl, rfl⟩
  · have hbig' : ¬ (1048576 : Int) < (n : Int) := by omega
    go_enter Tryd.func29, Tryd.ntmps29
    go_wp2
    go_loopg [5, 6] n (fun gk s5 s6 wr => ∃ k T : Nat, s5 = .int .i64 (T : Int) ∧ s6 = .int .i64 k ∧ k ≤ n ∧ gk = n - k ∧ T ≤ 1048576 ∧ (∀ i, i < k → (xs.getD i []).length ≤ 1048576) ∧ wr = w)
    case atStart => exact ⟨0, n, rfl, rfl, by omega, rfl, by omega, fun i hi => by omega, rfl⟩
    case round =>
      obtain ⟨k, T, rfl, rfl, hk, hgk, hT, hsm, rfl⟩ := hrel
      have HSM : Hid (∀ i, i < k → (xs.getD i []).length ≤ 1048576) := hsm
      clear hsm
      by_cases hlt : k < n
      · have hlt' : (k : Int) < (n : Int) := by omega
        have hkz : k < xs.length := by rw [← HN.out]; exact hlt
        obtain ⟨a, A, C, rfl, hc⟩ := HA.out.row k hkz
        obtain ⟨l, hl⟩ : ∃ l, l = (xs.getD k []).length := ⟨_, rfl⟩
        have hlr := HNR.out k hkz
        rw [← hl] at hc hlr
        have HL : Hid (l = (xs.getD k []).length) := hl
        clear hl
        by_cases h1 : 1048576 < l
        · have h1' : (1048576 : Int) < (l : Int) := by omega
          go_wp2_with fail
          go_ret
          exact ⟨.inl rfl, rfl⟩
        · have h1' : ¬ (1048576 : Int) < (l : Int) := by omega
          by_cases h2 : 1048576 < T + l
          · have h2' : (1048576 : Int) < (T : Int) + (l : Int) := by omega
            go_wp2_with fail
            go_ret
            exact ⟨.inl rfl, rfl⟩
          · have h2' : ¬ (1048576 : Int) < (T : Int) + (l : Int) := by omega
            go_wp2_with fail
            go_roundg (n - (k + 1))
            case measure => omega
            case rel => exact ⟨k + 1, T + l, by go_num, by go_num, by omega, rfl, by omega, fun i hi => by by_cases e : i = k; subst e; rw [← HL.out]; omega; exact HSM.out i (by omega), rfl⟩
      · obtain rfl : k = n := by omega
        have hs1 : Small xs := ⟨by rw [← HN.out]; omega, fun i hi => HSM.out i (by rw [HN.out]; exact hi)⟩
        have hlt' : ¬ (k : Int) < (k : Int) := by omega
        go_wp2_with fail
        go_ret
        exact ⟨.inr ⟨rfl, hs1, ⟨by simp, fun i hi => by simp at hi⟩⟩, rfl⟩

theorem take_getD (zs : List Int) (k j : Nat) (h : j < k) : (zs.take k).getD j 0 = zs.getD j 0 := by
  rw [List.getD, List.getD, List.getElem?_take_of_lt h]

set_option maxRecDepth 100000 in
set_option maxHeartbeats 1600000 in
theorem law9 (ao : Option Addr) (c n : Nat) (cut : Int) (xs : List (List Int)) (w : World) (e0 e1 e3 : Addr) (hE : Env w.heap.size e0 e1 e3 w) (hn : n = xs.length) (hA : Mat w.heap.size w ao xs) (hnb : n ≤ 9223372036854775807)
    (hnr : ∀ i, i < xs.length → (xs.getD i []).length ≤ 9223372036854775807) (hx8 : Bytes88 xs) :
    Calls Tryd.prog 9 #[.slice ao n c, .int .i64 cut] w fun e w' => e = .returned (.bool true) ∧ Below w.heap.size w w' := by
  have HE : Hid (Env w.heap.size e0 e1 e3 w) := hE
  have HA : Hid (Mat w.heap.size w ao xs) := hA
  have HN : Hid (n = xs.length) := hn
  have HX8 : Hid (Bytes88 xs) := hx8
  have HZ : Hid (Calls Tryd.prog 29 #[.slice ao n c, .int .i64 cut] w fun e w' => ZzAns e xs [] ∧ w' = w) := zzCut _ ao c n _ xs w hn hA hnb hnr
  clear hE hA hn hnr hx8
  go_enter Tryd.func9, Tryd.ntmps9
  go_wp2_with fail
  refine HZ.out.mono ?_
  rintro e w' ⟨hz, hw⟩
  obtain rfl := hw.symm
  rcases hz with rfl | ⟨rfl, hsx, _⟩
  · go_wp2_with fail
    go_ret
    exact ⟨rfl, Below.refl _ _⟩
  have HSX : Hid (Small xs) := hsx
  clear HZ hsx
  go_wp2_with fail
  refine (argsTooBig _ ao c n 1048576 xs w HN.out HA.out HSX.out (by omega)).mono ?_
  rintro e w' ⟨hz, hw⟩
  obtain rfl := hw.symm
  rcases hz with rfl | ⟨rfl, hn1, ht1⟩
  · go_wp2_with fail
    go_ret
    exact ⟨rfl, Below.refl _ _⟩
  have hlx := enc_len xs HSX.out (by rw [← HN.out]; exact hn1) (by omega)
  go_wp2_with fail
  refine (show Calls Tryd.prog 20 #[.slice ao n c, .int .i64 (-1), .int .u8 0] w fun e w' => ∃ v, e = .returned v ∧ Own w.heap.size w' v (enc xs) ∧ Keep [] w w' from by have := encodeArray ao c xs w HA.out HSX.out.1 (by omega); rwa [← HN.out] at this).mono ?_
  rintro e w3 ⟨v3, rfl, hown3, hk3⟩
  have HK3 : Hid (Keep [] w w3) := hk3
  obtain ⟨g, cap, f, rfl, hg, hrow, hlc, hcm, hf⟩ := hown3.row (enc_ne xs)
  obtain ⟨l, hl⟩ : ∃ l, l = (enc xs).length := ⟨_, rfl⟩
  have HL : Hid (l = (enc xs).length) := hl
  have HROW : Hid (w3.rowIs g 5 cap f ∧ ∀ j, j < (enc xs).length → f j = .int .u8 ((enc xs).getD j 0)) := ⟨hrow, hf⟩
  rw [← hl] at hlx hlc ⊢
  have hl0 : 0 < l := by rw [hl]; exact List.length_pos_iff.2 (enc_ne xs)
  clear hown3 hk3 hrow hf hl
  by_cases hneg : cut < 0
  · go_wp2_with fail
    go_ret
    exact ⟨rfl, HK3.out.old⟩
  obtain ⟨k, rfl⟩ : ∃ k : Nat, cut = (k : Int) := ⟨cut.toNat, by omega⟩
  by_cases hfar : l < k
  · have hfar' : (l : Int) < (k : Int) := by omega
    go_wp2_with fail
    go_ret
    exact ⟨rfl, HK3.out.old⟩
  have hfar' : ¬ (l : Int) < (k : Int) := by omega
  have hkc : (k : Int) ≤ (cap : Int) := by omega
  have hc0 : ¬ cap = 0 := by omega
  obtain ⟨L, hL⟩ : ∃ L : Lay, L = { B := w.heap.size, bb := w3.heap.size + 1, bf := w3.heap.size + 2, rb := w3.heap.size, sb := g, so := 0, n := k, scap := cap, src := (enc xs).take k } := ⟨_, rfl⟩
  have hLn : L.n = k := by rw [hL]
  have hLs : L.src = (enc xs).take k := by rw [hL]
  have hLB : L.B = w.heap.size := by rw [hL]
  have hsrc : Src L w3 := by
    rw [hL]
    exact ⟨HROW.out.1.lt, fun j hj => by show w3.cell? ⟨g, 0 + j, none⟩ = some (Value.int .u8 (((enc xs).take k).getD j 0)); have hjk : j < k := hj; rw [Nat.zero_add, HROW.out.1.cell (i := j) (by omega), HROW.out.2 j (by rw [← HL.out]; omega), take_getD _ _ _ hjk]⟩
  have hnew := newReader L w3 (by rw [hLB]; exact HK3.out.size) (by rw [hL]) (by rw [hL]) (by rw [hL]) hsrc (by rw [hL]; show k ≤ cap; omega) (by rw [hLn]; omega) (by rw [hLn, hLs, List.length_take, ← HL.out]; omega) (by rw [hLs]; exact Bytes8.getD fun z hz => enc_bytes xs HX8.out z (List.mem_of_mem_take hz))
  have hsl : (.slice (some ⟨L.sb, L.so, none⟩) L.n L.scap : Value) = .slice (some ⟨g, 0, none⟩) k cap := by rw [hL]
  rw [hsl] at hnew
  have HNEW : Hid (Calls Tryd.prog 19 #[.slice (some ⟨g, 0, none⟩) k cap] w3 fun e w' => e = .returned (.pointer (some ⟨w3.heap.size + 3, 0, none⟩)) ∧ Rdr L (w3.heap.size + 3) w' 0 ∧ Keep [] w3 w' ∧ w'.heap.size = w3.heap.size + 4) := hnew
  have HLN : Hid (L.n = k ∧ L.B = w.heap.size ∧ L.src = (enc xs).take k) := ⟨hLn, hLB, hLs⟩
  clear hnew hsl hsrc hL hLs hLn hLB HROW
  go_wp2_with fail
  refine HNEW.out.mono ?_
  rintro e w4 ⟨rfl, hR4, hk4, hs4⟩
  obtain ⟨X, hX⟩ : ∃ X, X = w3.heap.size + 3 := ⟨_, rfl⟩
  rw [← hX] at hR4 ⊢
  have HK4 : Hid (Keep [] w w4) := HK3.out.then hk4
  have HR4 : Hid (Rdr L X w4 0) := hR4
  have HAP : Hid (Apart L) := hR4.rd.ap
  clear HNEW hR4 hk4 hs4 HK3 hX
  go_wp2_with fail
  by_cases hend : k = l
  · subst hend
    have hAT : At L 0 (enc xs) := ⟨by rw [HLN.out.1, ← HL.out]; omega, fun j hj => by rw [HLN.out.2.2, Nat.zero_add, take_getD _ _ _ (by rw [HL.out]; exact hj)]⟩
    refine (zzReadArray X w4 .nilIface _ (readArray L X w4 0 xs e0 e1 e3 (HK4.out.env HE.out HLN.out.2.1) HR4.out hAT HSX.out.1 HSX.out.2)).mono ?_
    rintro e w5 ⟨v5, rfl, hG5, hR5, hk5⟩
    have HK5 : Hid (Keep [] w w5) := HK4.out.lown hk5 HAP.out HLN.out.2.1
    have HSA : Hid (Calls Tryd.prog 23 #[v5, .slice ao n c] w5 fun e w' => e = .returned (.bool true) ∧ ∃ n, w' = w5.drewN n) := sameArgs _ _ v5 ao c n xs w5 HN.out hG5 (HA.out.below HK5.out.old) HSX.out (by rw [HN.out]; exact hG5.form)
    clear hG5 hR5 hk5 HR4 HK4 hAT
    go_wp2_with fail
    refine HSA.out.mono ?_
    rintro e w6 ⟨rfl, n6, rfl⟩
    go_wp2_with fail
    go_ret
    exact ⟨rfl, (HK5.out.drewN n6).old⟩
  · have hend' : ((k : Int) == (l : Int)) = false := by simp; omega
    have hCT : Cut L 0 (enc xs) := ⟨by rw [HLN.out.1, ← HL.out]; omega, fun j hj => by rw [HLN.out.1] at hj; rw [HLN.out.2.2, Nat.zero_add, take_getD _ _ _ (by omega)]⟩
    refine (zzReadArray X w4 (.iface 126 (.pointer (some e1))) (fun v w' => v = .slice none 0 0 ∧ Keep L.own w4 w') ((readArray_short L X w4 0 xs e0 e1 e3 (HK4.out.env HE.out HLN.out.2.1) HR4.out hCT HSX.out.1 HSX.out.2).mono (fun e w' hh => ⟨_, hh.1, rfl, hh.2⟩))).mono ?_
    rintro e w9 ⟨v9, rfl, rfl, hk9⟩
    have HK9 : Hid (Keep [] w w9) := HK4.out.lown hk9 HAP.out HLN.out.2.1
    have hnil := Lib.run_eql_slice_nil (P := Tryd.prog) w9 35 24 none 0 0 0 0 Tryd.underlying35
    clear hk9 HR4 HK4 hCT
    go_wp2_with fail
    refine (errCode_unexpected w9 (HE.out.below HK9.out.old)).mono ?_
    rintro e w9' ⟨rfl, hw⟩
    obtain rfl := hw.symm
    go_wp2_with fail
    go_ret
    exact ⟨rfl, HK9.out.old⟩
end Go.Proofs.Qxb6616140aDoor
