/- readArray, where the stream ends inside the array. -/
import Derived.Test.Qxb6616140aDoorBulkE
import Derived.Test.Qxb6616140aDoorZz2
namespace Go.Proofs.Qxb6616140aDoor
open Go.RowKit

/-- readBulk of whatever length, the stream ending too early. -/
theorem readBulk_short_any (L : Lay) (x : Nat) (w : World) (p : Nat) (zs : List Int) (m : Nat) (e0 e1 e3 : Addr) (hm : m = zs.length) (hE : Env L.B e0 e1 e3 w) (h : Rdr L x w p) (hn : m ≤ 1048576) (hC : Cut L p (zs ++ [13, 10])) :
    Calls Tryd.prog 52 #[.pointer (some ⟨x, 0, none⟩), .int .i64 m] w fun e w' => ShortAns e e0 e1 ∧ Rdr L x w' L.n ∧ Keep L.own w w' := by
  have h1 := hC.lt
  simp at h1
  by_cases h0 : m = 0
  · subst h0
    exact readBulk_zero_short L x w p e0 e1 e3 hE h (by omega)
  · exact readBulk_short L x w p m e0 e1 e3 hE h hn (by omega) (by omega)

set_option maxRecDepth 100000 in
set_option maxHeartbeats 1600000 in
theorem readArray_cut (L : Lay) (x : Nat) (w : World) (p : Nat) (zss : List (List Int)) (e0 e1 e3 : Addr) (hE : Env L.B e0 e1 e3 w) (h : Rdr L x w p) (hH : Hdr L p 42 zss.length) (hI : Cut L (p + (dig zss.length).length + 3) (items zss)) (hn : zss.length ≤ 1048576) (hz : ∀ i, i < zss.length → (zss.getD i []).length ≤ 1048576) :
    Calls Tryd.prog 39 #[.pointer (some ⟨x, 0, none⟩)] w fun e w' => e = .returned (.tuple #[.slice none 0 0, .iface 126 (.pointer (some e1))]) ∧ Keep L.own w w' := by
  obtain ⟨n, hn'⟩ : ∃ n, n = zss.length := ⟨_, rfl⟩
  have HN : Hid (n = zss.length) := hn'
  rw [← hn'] at hH hI hn
  have HH : Hid (Hdr L p 42 n) := hH
  have HI : Hid (Cut L (p + (dig n).length + 3) (items zss)) := hI
  have HZ : Hid (∀ i, i < zss.length → (zss.getD i []).length ≤ 1048576) := hz
  have hl10 := dig_len n (by omega)
  have hl1 := dig_pos n
  have HE : Hid (Env L.B e0 e1 e3 w) := hE
  have HR : Hid (Rdr L x w p) := h
  obtain ⟨d, hd⟩ : ∃ d, d = (dig n).length := ⟨_, rfl⟩
  have HDn : Hid (d = (dig n).length) := hd
  have hfit := hH.fit
  rw [← hd] at hfit hl10 hl1
  have HB : Hid (L.B ≤ w.heap.size) := by have := h.rd.ap.B1; have := h.rd.lts.1; show _ ≤ _; omega
  have HX : Hid (x < w.heap.size) := lt_blk h.blk
  have HSB : Hid (L.sb < w.heap.size) := h.rd.lts.2.2.2
  have HLO : Hid (∀ y ∈ L.own, y < w.heap.size) := by have := h.rd.lts; show ∀ y ∈ L.own, _; simp [Lay.own]; omega
  have hfitn : p + d + 3 ≤ L.n := by omega
  clear hH hI hz hE h hn' hd
  go_enter Tryd.func39, Tryd.ntmps39
  go_wp2_with fail
  refine (readLine_found L x w p (d + 2) e0 e1 e3 _ HE.out HR.out (by omega) (by omega) (by have := HH.out.h10; rwa [← HDn.out] at this) (by have := HH.out.line (by decide); rwa [← HDn.out] at this)).mono ?_
  rintro e w2 ⟨o, rfl, ho, hR2, hc2, hk2, hs2⟩
  have HR2 : Hid (Rdr L x w2 (p + d + 3)) := by have := hR2; rwa [show p + (d + 2) + 1 = p + d + 3 by omega] at this
  have HK2 : Hid (Keep L.own w w2) := hk2
  have HC2 : Hid (∀ j, j ≤ (dig n).length + 2 → w2.cell? ⟨L.bf, o + j, none⟩ = some (L.at (p + j))) := by show ∀ j, j ≤ (dig n).length + 2 → _; rw [← HDn.out]; exact hc2
  clear hR2 hc2 hk2
  go_wp2_with fail
  refine (trimLine L.bf o (d + 3) (4096 - o) w2 (by omega) (by omega) (by omega) (by have := (HH.out.cells HC2.out (Keep.refl [] w2)).2.2.1; rw [← HDn.out] at this; rw [show o + (d + 3 - 2) = o + d + 1 by omega]; exact this) (by have := (HH.out.cells HC2.out (Keep.refl [] w2)).2.2.2; rw [← HDn.out] at this; rw [show o + (d + 3 - 1) = o + d + 2 by omega]; exact this)).mono ?_
  rintro e w3 ⟨rfl, hk3⟩
  have HK3 : Hid (Keep [] w2 w3) := hk3
  clear hk3
  have a1 : d + 3 - 2 = d + 1 := by omega
  have a2 : ¬ 4096 - o = 1 := by omega
  have a3 : (1 : Int) ≤ (d : Int) + 1 := by omega
  go_wp2_with fail
  have hdd := dig_digits n
  refine (parseInteger L.bf (o + 1) d (4096 - o - 1) (dig n) hdd HDn.out (by omega) (by omega) (by omega) (fun h => by rw [HDn.out]; exact dig_head n h) w3 (by have := (HH.out.cells HC2.out HK3.out).1; rwa [← HDn.out] at this)).mono ?_
  rw [num_dig]
  rintro e w4 ⟨rfl, hk4⟩
  have HR4 : Hid (Rdr L x w4 (p + d + 3)) := HR2.out.keep (HK3.out.then hk4) (by simp)
  have HK4 : Hid (Keep L.own w w4) := HK2.out.then ((HK3.out.then hk4).mono (by simp))
  clear hk4 hdd HR2 HK2 HC2 HK3 a1 a2 a3 HR
  have hmax : ¬ (2147483647 : Int) < (n : Int) := by omega
  by_cases hn0 : n = 0
  · exfalso
    have hz0 : zss = [] := List.eq_nil_of_length_eq_zero (by rw [← HN.out]; exact hn0)
    have h1 := HI.out.lt
    rw [hz0, ← HDn.out] at h1
    simp [items] at h1
    omega
  · have hn0' : ¬ (n : Int) ≤ 0 := by omega
    go_upto_region 9 with fail
    go_cut [8] (fun s8 wc => ∃ cap : Nat, s8 = .slice (some ⟨w4.heap.size, 0, none⟩) 0 cap ∧ wc.ownsRow w.heap.size 24 1 s8 0 [] ∧ Keep [] w4 wc)
    case first =>
      obtain ⟨i24, hi24, hz24, hs24, hb24⟩ := info_parts info24
      have hsz4 := HK4.out.size
      by_cases hle : n ≤ 2730
      · go_wp2_with (at_make; refine wpList_make_own _ rfl (.const (.int .i64 0)) (.tmp 40) 35 rfl w.heap.size 24 i24 (.slice none 0 0) 1 Tryd.underlying35 hi24 hz24 hs24 .i64 .i64 _ n rfl rfl rfl (by rw [hb24]; omega) (by simp only [maxLen]; omega) hsz4 ?_; intro w5 hown5 hg5)
        go_meet
        case rel => exact ⟨n, rfl, hown5, Keep.of_grown hg5⟩
      · obtain ⟨w5, hrun, hown5, hg5⟩ := run_make_own (P := Tryd.prog) w4 w.heap.size 35 24 i24 (.slice none 0 0) 1 Tryd.underlying35 hi24 hz24 hs24 .i64 .i64 2730 (by rw [hb24]; omega) (by simp only [maxLen]; omega) hsz4
        have hrun' : (Instr.makeSlice 35 (.int .i64 0) (.int .i64 2730)).run Tryd.prog w4 = .ok (.slice (some ⟨w4.heap.size, 0, none⟩) 0 2730) w5 := hrun
        have HO5 : Hid (w5.ownsRow w.heap.size 24 1 (.slice (some ⟨w4.heap.size, 0, none⟩) 0 2730) 0 [] ∧ w4.grownBy w5 Option.none) := ⟨hown5, hg5⟩
        clear hrun hown5 hg5
        go_wp2_with fail
        go_meet
        case rel => exact ⟨2730, rfl, HO5.out.1, Keep.of_grown HO5.out.2⟩
    case rest =>
      obtain ⟨cap, rfl, hown, hk5⟩ := hcut
      have HO0 : Hid (wc.ownsRow w.heap.size 24 1 (.slice (some ⟨w4.heap.size, 0, none⟩) 0 cap) 0 []) := hown
      have HR5 : Hid (Rdr L x wc (p + d + 3)) := HR4.out.keep hk5 (by simp)
      have HK5 : Hid (Keep L.own w wc) := HK4.out.then (hk5.mono (by simp))
      clear hown hk5 HR4 HK4
      go_wp2_with fail
      go_loopg [8, 43] n (fun gk s8 s43 wr => ∃ (k : Nat) (vs : List Value), s43 = .int .i64 k ∧ k ≤ n ∧ gk = n - k ∧ wr.ownsRow w.heap.size 24 1 s8 (zss.take k).length vs ∧ RowsAt w.heap.size wr vs (zss.take k) ∧ Rdr L x wr (p + d + 3 + (items (zss.take k)).length) ∧ Keep L.own w wr ∧ Cut L (p + d + 3 + (items (zss.take k)).length) (items (zss.drop k)))
      case atStart => exact ⟨0, [], rfl, by omega, rfl, HO0.out, fun i hi => by simp at hi, HR5.out, HK5.out, by have := HI.out; rw [← HDn.out] at this; exact this⟩
      case round =>
        obtain ⟨k, vs, rfl, hk, hgk, hown, hrows, hR, hkeep, hCut⟩ := hrel
        by_cases hlt : k < n
        · have hlt' : (k : Int) < (n : Int) := by omega
          have hkz : k < zss.length := by rw [← HN.out]; exact hlt
          have hit := items_snoc zss k hkz
          have hsn : zss.take (k + 1) = zss.take k ++ [zss.getD k []] := by
            rw [List.take_add_one, List.getElem?_eq_getElem hkz]; simp [List.getD, List.getElem?_eq_getElem hkz]
          have hdr : items (zss.drop k) = item (zss.getD k []) ++ items (zss.drop (k + 1)) := by
            have e : zss.drop k = zss.getD k [] :: zss.drop (k + 1) := by
              rw [List.drop_eq_getElem_cons hkz]; simp [List.getD, List.getElem?_eq_getElem hkz]
            rw [items, e, List.flatMap_cons]; rfl
          rw [hdr] at hCut
          obtain ⟨q, hq⟩ : ∃ q, q = p + d + 3 + (items (zss.take k)).length := ⟨_, rfl⟩
          obtain ⟨zs, hzs⟩ : ∃ zs, zs = zss.getD k [] := ⟨_, rfl⟩
          rw [← hq] at hR hCut
          rw [← hzs] at hCut hit hsn
          have hitm : item zs = (36 :: (dig zs.length ++ [13, 10])) ++ (zs ++ [13, 10]) := by simp [item]
          obtain ⟨m, hm⟩ : ∃ m, m = zs.length := ⟨_, rfl⟩
          have hmb : m ≤ 1048576 := by rw [hm, hzs]; exact HZ.out k hkz
          rw [← hm] at hitm
          obtain ⟨t, ht⟩ : ∃ t, t = (dig m).length := ⟨_, rfl⟩
          have HT : Hid (t = (dig m).length) := ht
          have ht10 : t ≤ 10 := by rw [ht]; exact dig_len m (by omega)
          have ht1 : 0 < t := by rw [ht]; exact dig_pos m
          have hqn : q ≤ L.n := hR.rd.hp
          have h3 : (36 :: (dig m ++ [13, 10]) : List Int).length = t + 3 := by simp [← ht]
          have hcase : Cut L q (36 :: (dig m ++ [13, 10])) ∨ (Hdr L q 36 m ∧ (Cut L (q + t + 3) (zs ++ [13, 10]) ∨ (At L (q + t + 3) (zs ++ [13, 10]) ∧ Cut L (q + (item zs).length) (items (zss.drop (k + 1)))))) := by
            rcases hCut.split with h1 | ⟨h1, h2⟩
            · rw [hitm] at h1
              rcases h1.split with h4 | ⟨h4, h5⟩
              · exact .inl h4
              · rw [h3, ← Nat.add_assoc] at h5
                exact .inr ⟨Hdr.at' h4, .inl h5⟩
            · have h4 := h1
              rw [hitm] at h4
              have h5 := h4.right
              rw [h3, ← Nat.add_assoc] at h5
              exact .inr ⟨Hdr.at' h4.left, .inr ⟨h5, h2⟩⟩
          have HM : Hid (m = zs.length) := hm
          have HQ : Hid (items (zss.take (k + 1)) = items (zss.take k) ++ item zs ∧ zss.take (k + 1) = zss.take k ++ [zs] ∧ q = p + d + 3 + (items (zss.take k)).length) := ⟨hit, hsn, hq⟩
          have HOW : Hid (wr.ownsRow w.heap.size 24 1 u8 (zss.take k).length vs ∧ RowsAt w.heap.size wr vs (zss.take k)) := ⟨hown, hrows⟩
          have HRr : Hid (Rdr L x wr q) := hR
          have HKr : Hid (Keep L.own w wr) := hkeep
          have HEr : Hid (Env L.B e0 e1 e3 wr) := by
            have ap := hR.rd.ap
            have b1 := ap.B1; have b2 := ap.B2; have b3 := ap.B3
            exact HE.out.keep hkeep HB.out (by simp [Lay.own]; omega)
          clear hown hrows hR hkeep hm hit hsn hq hzs ht hCut hitm hdr h3
          rcases hcase with hcut | ⟨hH2, hcase⟩
          · have HCU : Hid (Cut L q (36 :: (dig m ++ [13, 10]))) := hcut
            have hcl := hcut.lt
            have hll : (36 :: (dig m ++ [13, 10]) : List Int).length = t + 3 := by simp [← HT.out]
            rw [hll] at hcl
            clear hcut hll
            go_wp2_with fail
            refine (readLine_eof L x wr q e0 e1 e3 _ HEr.out HRr.out (by omega) (HCU.out.line (by decide))).mono ?_
            rintro e w2 ⟨v2, rfl, hR2, hk2, hs2⟩
            have HE2 : Hid (Env L.B e0 e1 e3 w2) := HEr.out.turn HRr.out.rd hk2
            have HK2 : Hid (Keep L.own w w2) := HKr.out.then hk2
            clear hR2 hk2
            go_wp2_with fail
            refine (unexpected_eof w2 HE2.out).mono ?_
            rintro e w2' ⟨rfl, hw⟩
            obtain rfl := hw.symm
            go_wp2_with fail
            go_ret2
            exact ⟨rfl, HK2.out⟩
          have hfit2 := hH2.fit
          rw [← HT.out] at hfit2
          have HH2 : Hid (Hdr L q 36 m) := hH2
          have HCASE : Hid (Cut L (q + t + 3) (zs ++ [13, 10]) ∨ (At L (q + t + 3) (zs ++ [13, 10]) ∧ Cut L (q + (item zs).length) (items (zss.drop (k + 1))))) := hcase
          clear hH2 hcase
          go_wp2_with fail
          refine (readLine_found L x wr q (t + 2) e0 e1 e3 _ HEr.out HRr.out (by omega) (by omega) (by have := HH2.out.h10; rwa [← HT.out] at this) (by have := HH2.out.line (by decide); rwa [← HT.out] at this)).mono ?_
          rintro e w2 ⟨o2, rfl, ho2, hR2, hc2, hk2, hs2⟩
          have HR2 : Hid (Rdr L x w2 (q + t + 3)) := by have := hR2; rwa [show q + (t + 2) + 1 = q + t + 3 by omega] at this
          have HK2 : Hid (Keep L.own wr w2) := hk2
          have HC2 : Hid (∀ j, j ≤ (dig m).length + 2 → w2.cell? ⟨L.bf, o2 + j, none⟩ = some (L.at (q + j))) := by show ∀ j, j ≤ (dig m).length + 2 → _; rw [← HT.out]; exact hc2
          have c36 := (HH2.out.cells HC2.out (Keep.refl [] w2)).2.1
          have hpos : (0 : Int) < (t : Int) + 2 + 1 := by omega
          clear hR2 hc2 hk2
          go_wp2_with fail
          refine (trimLine L.bf o2 (t + 3) (4096 - o2) w2 (by omega) (by omega) (by omega) (by have := (HH2.out.cells HC2.out (Keep.refl [] w2)).2.2.1; rw [← HT.out] at this; rw [show o2 + (t + 3 - 2) = o2 + t + 1 by omega]; exact this) (by have := (HH2.out.cells HC2.out (Keep.refl [] w2)).2.2.2; rw [← HT.out] at this; rw [show o2 + (t + 3 - 1) = o2 + t + 2 by omega]; exact this)).mono ?_
          rintro e w3 ⟨rfl, hk3⟩
          have HK3 : Hid (Keep [] w2 w3) := hk3
          clear hk3 c36 hpos
          have a1 : t + 3 - 2 = t + 1 := by omega
          have a2 : ¬ 4096 - o2 = 1 := by omega
          have a3 : (1 : Int) ≤ (t : Int) + 1 := by omega
          go_wp2_with fail
          have hdd := dig_digits m
          refine (parseInteger L.bf (o2 + 1) t (4096 - o2 - 1) (dig m) hdd HT.out (by omega) (by omega) (by omega) (fun h => by rw [HT.out]; exact dig_head m h) w3 (by have := (HH2.out.cells HC2.out HK3.out).1; rwa [← HT.out] at this)).mono ?_
          rw [num_dig]
          rintro e w4' ⟨rfl, hk4⟩
          have HR4 : Hid (Rdr L x w4' (q + t + 3)) := HR2.out.keep (HK3.out.then hk4) (by simp)
          have HK4 : Hid (Keep L.own wr w4') := HK2.out.then ((HK3.out.then hk4).mono (by simp))
          clear hk4 hdd HR2 HK2 HC2 HK3 a1 a2 a3
          have hm1 : ¬ (m : Int) < 0 := by omega
          have hm2 : ¬ (536870912 : Int) < (m : Int) := by omega
          go_wp2_with fail
          have HE4 : Hid (Env L.B e0 e1 e3 w4') := HEr.out.turn HRr.out.rd HK4.out
          rcases HCASE.out with hcut | ⟨hZ2, hCutN⟩
          · refine (readBulk_short_any L x w4' (q + t + 3) zs m e0 e1 e3 HM.out HE4.out HR4.out hmb hcut).mono ?_
            rintro e w5 ⟨⟨ee, hee, rfl⟩, hR5, hk5⟩
            have HE5 : Hid (Env L.B e0 e1 e3 w5) := HE4.out.turn HR4.out.rd hk5
            have HK5' : Hid (Keep L.own w w5) := (HKr.out.then HK4.out).then hk5
            clear hR5 hk5 hcut
            rcases hee with rfl | rfl
            · go_wp2_with fail
              refine (unexpected_eof w5 HE5.out).mono ?_
              rintro e w2' ⟨rfl, hw⟩
              obtain rfl := hw.symm
              go_wp2_with fail
              go_ret2
              exact ⟨rfl, HK5'.out⟩
            · go_wp2_with fail
              refine (unexpected_same w5 HE5.out).mono ?_
              rintro e w2' ⟨rfl, hw⟩
              obtain rfl := hw.symm
              go_wp2_with fail
              go_ret2
              exact ⟨rfl, HK5'.out⟩
          have HCN : Hid (Cut L (q + (item zs).length) (items (zss.drop (k + 1)))) := hCutN
          clear hCutN HE4
          refine (readBulk_any L x w4' (q + t + 3) zs m HM.out HR4.out hmb hZ2).mono ?_
          rintro e w5 ⟨g, N, f, rfl, hR5, hrow5, hmN, hf5, hg5, hk5⟩
          have HK6 : Hid (Keep L.own wr w5) := HK4.out.then hk5
          have hlo : ∀ y ∈ L.own, y < w.heap.size := HLO.out
          have HOW5 : Hid (w5.ownsRow w.heap.size 24 1 u8 (zss.take k).length vs ∧ RowsAt w.heap.size w5 vs (zss.take k)) := ⟨own_keep HOW.out.1 HK6.out hlo, HOW.out.2.keep HK6.out hlo⟩
          have HROW5 : Hid (w5.rowIs g 5 N f ∧ m ≤ N ∧ (∀ j, j < m → f j = .int .u8 (zs.getD j 0)) ∧ w.heap.size ≤ g) := ⟨hrow5, hmN, hf5, by have := (HKr.out.then HK4.out).size; omega⟩
          have HR5' : Hid (Rdr L x w5 (q + t + 3 + m + 2)) := hR5
          have hs5 : w.heap.size ≤ w5.heap.size := (HKr.out.then HK6.out).size
          have htl : (zss.take k).length ≤ 1048576 := by simp; omega
          obtain ⟨i24, hi24, hz24, hs24, hb24⟩ := info_parts info24
          clear hR5 hrow5 hmN hf5 hg5 hk5 HR4 HK4 HOW HRr HEr hZ2 HCASE
          have hnew : ∀ j u, [Value.slice (some ⟨g, 0, none⟩) m N][j]? = some u → (w5.alloc (.cells #[.slice (some ⟨g, 0, none⟩) m N] 24)).cell? ((⟨w5.heap.size, 0, none⟩ : Addr).add j) = some u := by
            intro j u hu
            obtain rfl : j = 0 := by
              by_cases h : j = 0
              · exact h
              · rw [List.getElem?_eq_none (by simp; omega)] at hu; cases hu
            rw [WideShapes.add_plain]
            simpa using hu
          have HNEW : Hid (∀ j u, [Value.slice (some ⟨g, 0, none⟩) m N][j]? = some u → (w5.alloc (.cells #[.slice (some ⟨g, 0, none⟩) m N] 24)).cell? ((⟨w5.heap.size, 0, none⟩ : Addr).add j) = some u) := hnew
          clear hnew
          go_wp2_with (at_builtin; (refine wpList_append_own _ rfl (.tmp 92) (.tmp 94) 35 rfl w.heap.size 24 i24 (.slice none 0 0) 1 24 Tryd.underlying35 hi24 hz24 hs24 hb24 rfl (by decide) u8 (zss.take k).length vs rfl (HOW5.out.1.alloc _) ⟨w5.heap.size, 0, none⟩ 1 1 [.slice (some ⟨g, 0, none⟩) m N] rfl rfl HNEW.out (fun u hu => by simp at hu; subst hu; rfl) (by simp only [maxLen]; omega) (by omega) (by simp; omega) ?_); intro v7 w7 hown7 hg7 _)
          have hk7 := Keep.of_grown hg7
          have hka : Keep [] w5 (w5.alloc (.cells #[.slice (some ⟨g, 0, none⟩) m N] 24)) := (Keep.refl [] w5).alloc _
          obtain ⟨hr1, hr2, hr3, hr4⟩ := HROW5.out
          have hob : ∀ y ∈ u8.ownBlock.toList, w.heap.size ≤ y := fun y hy => (World.ownsRow.lt HOW5.out.1 y (by simpa using hy)).1
          obtain ⟨hq1, hq2, hq3⟩ := HQ.out
          have hM := HM.out
          subst hM
          have hsn := got_snoc (own_keep HOW5.out.1 hka (by simp)) (HOW5.out.2.keep hka (by simp)) hown7 hk7 hr4 (hka.rowIs hr1 (by simp)) hr2 hr3
          have hll := HR5'.out.rd.lts
          have hlo2 := HLO.out
          have hbx := HX.out
          simp [Lay.own] at hlo2
          go_roundg (n - (k + 1))
          case measure => omega
          case rel =>
            refine ⟨k + 1, vs ++ [.slice (some ⟨g, 0, none⟩) zs.length N], by go_num, by omega, rfl, by rw [hq2]; exact hsn.1, by rw [hq2]; exact hsn.2, ?_, ?_, ?_⟩
            · have h1 := (HR5'.out.keep hka (by simp)).keep hk7 (fun y hy => by have := hob y hy; refine ⟨⟨by omega, by omega, by omega, ?_⟩, by omega⟩; have := HSB.out; omega)
              have e : p + d + 3 + (items (zss.take (k + 1))).length = q + t + 3 + zs.length + 2 := by
                rw [hq1, List.length_append, hq3, HT.out]; simp [item]; omega
              rw [e]; exact h1
            · exact ((HKr.out.then HK6.out).then (hka.mono (by simp))).trans hk7 (fun y hy => .inr (hob y hy))
            · have e : p + d + 3 + (items (zss.take (k + 1))).length = q + (item zs).length := by rw [hq1, List.length_append, hq3]; omega
              rw [e]; exact HCN.out
        · exfalso
          obtain rfl : k = n := by omega
          have h1 := hCut.lt
          have h2 := hR.rd.hp
          rw [HN.out, List.drop_length] at h1
          rw [HN.out] at h2
          simp [items] at h1 h2
          omega

/-- Over a beginning of the encoded array that is not the whole: nil and io.ErrUnexpectedEOF. -/
theorem readArray_short (L : Lay) (x : Nat) (w : World) (p : Nat) (zss : List (List Int)) (e0 e1 e3 : Addr) (hE : Env L.B e0 e1 e3 w) (h : Rdr L x w p) (hC : Cut L p (enc zss)) (hn : zss.length ≤ 1048576) (hz : ∀ i, i < zss.length → (zss.getD i []).length ≤ 1048576) :
    Calls Tryd.prog 39 #[.pointer (some ⟨x, 0, none⟩)] w fun e w' => e = .returned (.tuple #[.slice none 0 0, .iface 126 (.pointer (some e1))]) ∧ Keep L.own w w' := by
  have e : enc zss = (42 :: (dig zss.length ++ [13, 10])) ++ items zss := by simp [enc]
  have hl : (42 :: (dig zss.length ++ [13, 10]) : List Int).length = (dig zss.length).length + 3 := by simp
  have hd := dig_len zss.length (by omega)
  rw [e] at hC
  rcases hC.split with h1 | ⟨h1, h2⟩
  · have h3 := h1.lt
    rw [hl] at h3
    exact (readArray_none L x w p e0 e1 e3 hE h (by omega) (h1.line (by decide))).mono fun e w' hh => ⟨hh.1, hh.2.2⟩
  · rw [hl, ← Nat.add_assoc] at h2
    exact readArray_cut L x w p zss e0 e1 e3 hE h (Hdr.at' h1) h2 hn hz
end Go.Proofs.Qxb6616140aDoor
