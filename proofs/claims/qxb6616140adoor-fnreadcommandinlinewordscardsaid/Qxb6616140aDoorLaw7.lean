/- FnReadArrayTwoInARow: the walk. -/
import Derived.Test.Qxb6616140aDoorZz2
import Derived.Lib.SliceRun
namespace Go.Proofs.Qxb6616140aDoor
open Go.RowKit

theorem Mat.mono {B B' : Nat} {w : World} {ao : Option Addr} {zss : List (List Int)} (h : Mat B w ao zss) (hB : B ≤ B') : Mat B' w ao zss where
  h0 := h.h0
  hc a ha r hr := by
    obtain ⟨A, C, h1, h2, h3, h4⟩ := h.hc a ha r hr
    exact ⟨A, C, h1, by omega, h3, fun a' e j hj => ⟨(h4 a' e j hj).1, by have := (h4 a' e j hj).2; omega⟩⟩

/-- every byte is one -/
def Bytes8 (zs : List Int) : Prop := ∀ z ∈ zs, 0 ≤ z ∧ z < 256
def Bytes88 (zss : List (List Int)) : Prop := ∀ zs ∈ zss, Bytes8 zs

theorem Bytes8.append {a b : List Int} (ha : Bytes8 a) (hb : Bytes8 b) : Bytes8 (a ++ b) := fun z hz => (List.mem_append.1 hz).elim (ha z) (hb z)

theorem Bytes8.getD {zs : List Int} (h : Bytes8 zs) (j : Nat) : 0 ≤ zs.getD j 0 ∧ zs.getD j 0 < 256 := by
  by_cases hj : j < zs.length
  · rw [List.getD, List.getElem?_eq_getElem hj]
    exact h _ (List.getElem_mem hj)
  · rw [List.getD, List.getElem?_eq_none (by omega)]
    decide

theorem dig_bytes (n : Nat) : Bytes8 (dig n) := by
  intro z hz
  obtain ⟨j, hj, rfl⟩ := List.getElem_of_mem hz
  have := dig_digits n j hj
  rw [List.getD, List.getElem?_eq_getElem hj] at this
  simp only [Option.getD_some] at this
  omega

theorem crlf_bytes : Bytes8 [13, 10] := by intro z hz; simp at hz; omega

theorem enc_bytes (zss : List (List Int)) (h : Bytes88 zss) : Bytes8 (enc zss) := by
  have h1 : ∀ z : Int, 0 ≤ z → z < 256 → ∀ r, Bytes8 r → Bytes8 (z :: r) := fun z a b r hr y hy => by
    rcases List.mem_cons.1 hy with rfl | hy
    · exact ⟨a, b⟩
    · exact hr y hy
  refine h1 42 (by decide) (by decide) _ ((dig_bytes _).append (crlf_bytes.append ?_))
  intro z hz
  obtain ⟨zs, hzs, hz⟩ := List.mem_flatMap.1 hz
  exact (h1 36 (by decide) (by decide) _ ((dig_bytes _).append (crlf_bytes.append ((h zs hzs).append crlf_bytes)))) z hz

theorem items_len (zss : List (List Int)) (h : ∀ zs ∈ zss, zs.length ≤ 1048576) : (items zss).length ≤ 15 * zss.length + total zss := by
  induction zss with
  | nil => simp [items, total]
  | cons a r ih =>
    have h1 := ih (fun zs hz => h zs (by simp [hz]))
    have h2 := dig_len a.length (by have := h a (by simp); omega)
    simp only [items, total, List.flatMap_cons, List.length_append, List.map_cons, List.sum_cons, List.length_cons] at h1 ⊢
    have h3 : (item a).length = 5 + (dig a.length).length + a.length := by simp [item]; omega
    omega

theorem enc_len (zss : List (List Int)) (hs : Small zss) (hn : zss.length ≤ 65536) (ht : total zss ≤ 1048576) : (enc zss).length ≤ 2097152 := by
  have h1 := items_len zss (fun zs hz => by
    obtain ⟨j, hj, rfl⟩ := List.getElem_of_mem hz
    have := hs.2 j hj
    rwa [List.getD, List.getElem?_eq_getElem hj] at this)
  have h2 := dig_len zss.length (by omega)
  simp [enc]; omega

theorem enc_ne (zss : List (List Int)) : enc zss ≠ [] := by simp [enc]

theorem Got.form {B : Nat} {w : World} {v : Value} {zss : List (List Int)} (h : Got B w v zss) : ∃ a k, v = .slice a zss.length k := by
  obtain ⟨vs, h1, _⟩ := h
  rcases h1.2 with ⟨rfl, h0⟩ | ⟨g, cap, cur, rfl, _⟩
  · rw [h0]; exact ⟨_, _, rfl⟩
  · exact ⟨_, _, rfl⟩

theorem Keep.lown {L : Lay} {w a b : World} (h : Keep [] w a) (hk : Keep L.own a b) (ap : Apart L) (hB : L.B = w.heap.size) : Keep [] w b :=
  h.trans hk fun y hy => .inr (by have h1 := ap.B1; have h2 := ap.B2; have h3 := ap.B3; simp [Lay.own] at hy; omega)

theorem Keep.env {L : Lay} {w a : World} {e0 e1 e3 : Addr} (h : Keep [] w a) (hE : Env w.heap.size e0 e1 e3 w) (hB : L.B = w.heap.size) : Env L.B e0 e1 e3 a := by rw [hB]; exact hE.below h.old

theorem Rdr.drewN {L : Lay} {x : Nat} {w : World} {p : Nat} (h : Rdr L x w p) (n : Nat) : Rdr L x (w.drewN n) p := h.keep ((Keep.refl [] w).drewN n) (by simp)

set_option maxRecDepth 100000 in
set_option maxHeartbeats 1600000 in
theorem law7 (ao bo : Option Addr) (c d n m : Nat) (xs ys : List (List Int)) (w : World) (e0 e1 e3 : Addr) (hE : Env w.heap.size e0 e1 e3 w) (hn : n = xs.length) (hm : m = ys.length) (hA : Mat w.heap.size w ao xs) (hB : Mat w.heap.size w bo ys) (hnb : n ≤ 9223372036854775807) (hmb : m ≤ 9223372036854775807)
    (hnr : ∀ i, i < xs.length → (xs.getD i []).length ≤ 9223372036854775807) (hmr : ∀ i, i < ys.length → (ys.getD i []).length ≤ 9223372036854775807) (hx8 : Bytes88 xs) (hy8 : Bytes88 ys) :
    Calls Tryd.prog 7 #[.slice ao n c, .slice bo m d] w fun e w' => e = .returned (.bool true) ∧ Below w.heap.size w w' := by
  have HE : Hid (Env w.heap.size e0 e1 e3 w) := hE
  have HA : Hid (Mat w.heap.size w ao xs) := hA
  have HB : Hid (Mat w.heap.size w bo ys) := hB
  have HN : Hid (n = xs.length) := hn
  have HMm : Hid (m = ys.length) := hm
  have HX8 : Hid (Bytes88 xs ∧ Bytes88 ys) := ⟨hx8, hy8⟩
  have HZ : Hid (Calls Tryd.prog 26 #[.slice ao n c, .slice bo m d] w fun e w' => ZzAns e xs ys ∧ w' = w) := zzTwo _ ao bo c d n m xs ys w hn hm hA hB hnb hmb hnr hmr
  clear hE hA hB hn hm hnr hmr hx8 hy8
  go_enter Tryd.func7, Tryd.ntmps7
  go_wp2_with fail
  refine HZ.out.mono ?_
  rintro e w' ⟨hz, hw⟩
  obtain rfl := hw.symm
  rcases hz with rfl | ⟨rfl, hsx, hsy⟩
  · go_wp2_with fail
    go_ret
    exact ⟨rfl, Below.refl _ _⟩
  have HSX : Hid (Small xs ∧ Small ys) := ⟨hsx, hsy⟩
  clear HZ hsx hsy
  go_wp2_with fail
  refine (argsTooBig _ ao c n 524288 xs w HN.out HA.out HSX.out.1 (by omega)).mono ?_
  rintro e w' ⟨hz, hw⟩
  obtain rfl := hw.symm
  rcases hz with rfl | ⟨rfl, hn1, ht1⟩
  · go_wp2_with fail
    go_ret
    exact ⟨rfl, Below.refl _ _⟩
  go_wp2_with fail
  refine (argsTooBig _ bo d m 524288 ys w HMm.out HB.out HSX.out.2 (by omega)).mono ?_
  rintro e w' ⟨hz, hw⟩
  obtain rfl := hw.symm
  rcases hz with rfl | ⟨rfl, hm1, ht2⟩
  · go_wp2_with fail
    go_ret
    exact ⟨rfl, Below.refl _ _⟩
  have hlx := enc_len xs HSX.out.1 (by rw [← HN.out]; exact hn1) (by omega)
  have hly := enc_len ys HSX.out.2 (by rw [← HMm.out]; exact hm1) (by omega)
  go_wp2_with fail
  refine (show Calls Tryd.prog 20 #[.slice ao n c, .int .i64 (-1), .int .u8 0] w fun e w' => ∃ v, e = .returned v ∧ Own w.heap.size w' v (enc xs) ∧ Keep [] w w' from by have := encodeArray ao c xs w HA.out HSX.out.1.1 (by omega); rwa [← HN.out] at this).mono ?_
  rintro e w1 ⟨v1, rfl, hown1, hk1⟩
  have HO1 : Hid (Own w.heap.size w1 v1 (enc xs)) := hown1
  have HK1 : Hid (Keep [] w w1) := hk1
  clear hown1 hk1
  go_wp2_with fail
  refine (show Calls Tryd.prog 20 #[.slice bo m d, .int .i64 (-1), .int .u8 0] w1 fun e w' => ∃ v, e = .returned v ∧ Own w1.heap.size w' v (enc ys) ∧ Keep [] w1 w' from by have := encodeArray bo d ys w1 ((HB.out.below HK1.out.old).mono HK1.out.size) HSX.out.2.1 (by omega); rwa [← HMm.out] at this).mono ?_
  rintro e w2 ⟨v2, rfl, hown2, hk2⟩
  obtain ⟨g2, cap2, f2, rfl, hg2, hrow2, hlc2, hcm2, hf2⟩ := hown2.row (enc_ne ys)
  have HO2 : Hid (Own w.heap.size w2 v1 (enc xs)) := HO1.out.keep hk2 (by simp)
  have HK2 : Hid (Keep [] w w2) := HK1.out.then hk2
  have HC2 : Hid (∀ j, j < (enc ys).length → w2.cell? ⟨g2, j, none⟩ = some (.int .u8 ((enc ys).getD j 0))) := fun j hj => by rw [hrow2.cell (i := j) (by omega), hf2 j hj]
  have hs2 : w.heap.size ≤ w2.heap.size := HK2.out.size
  clear hown2 hk2 hrow2 hf2 HO1 HK1
  go_wp2_with (at_builtin; refine wpList_append_bytes _ rfl (.tmp 25) (.tmp 27) rfl w.heap.size _ (enc xs) rfl HO2.out _ (enc ys).length cap2 (enc ys) rfl rfl (fun h => by cases h) (cells_of HC2.out) (by omega) hs2 ?_; intro v3 w3 hown3 hk3; have HO3 : Hid (Own w.heap.size w3 v3 (enc xs ++ enc ys)) := hown3; have HK3 : Hid (Keep [] w w3) := HK2.out.own' HO2.out hk3; clear hown3 hk3)
  obtain ⟨g, cap, f, rfl, hg, hrow, hlc, hcm, hf⟩ := HO3.out.row (by simp [enc])
  obtain ⟨L, hL⟩ : ∃ L : Lay, L = { B := w.heap.size, bb := w3.heap.size + 1, bf := w3.heap.size + 2, rb := w3.heap.size, sb := g, so := 0, n := (enc xs ++ enc ys).length, scap := cap, src := enc xs ++ enc ys } := ⟨_, rfl⟩
  have hLn : L.n = (enc xs ++ enc ys).length := by rw [hL]
  have hLs : L.src = enc xs ++ enc ys := by rw [hL]
  have hLB : L.B = w.heap.size := by rw [hL]
  have hsrc : Src L w3 := by
    rw [hL]
    exact ⟨hrow.lt, fun j hj => by show w3.cell? ⟨g, 0 + j, none⟩ = some (Value.int .u8 ((enc xs ++ enc ys).getD j 0)); rw [Nat.zero_add, hrow.cell (i := j) (by show j < cap; have : j < (enc xs ++ enc ys).length := hj; omega), hf j hj]⟩
  have hnew := newReader L w3 (by rw [hLB]; exact HK3.out.size) (by rw [hL]) (by rw [hL]) (by rw [hL]) hsrc (by rw [hL]; exact hlc) (by rw [hL]; simp; omega) (by rw [hL]) (by rw [hLs]; exact ((enc_bytes xs HX8.out.1).append (enc_bytes ys HX8.out.2)).getD)
  have hsl : (.slice (some ⟨L.sb, L.so, none⟩) L.n L.scap : Value) = .slice (some ⟨g, 0, none⟩) (enc xs ++ enc ys).length cap := by rw [hL]
  rw [hsl] at hnew
  have HNEW : Hid (Calls Tryd.prog 19 #[.slice (some ⟨g, 0, none⟩) (enc xs ++ enc ys).length cap] w3 fun e w' => e = .returned (.pointer (some ⟨w3.heap.size + 3, 0, none⟩)) ∧ Rdr L (w3.heap.size + 3) w' 0 ∧ Keep [] w3 w' ∧ w'.heap.size = w3.heap.size + 4) := hnew
  have HAT : Hid (At L 0 (enc xs ++ enc ys)) := ⟨by rw [hLn]; omega, fun j _ => by rw [hLs, Nat.zero_add]⟩
  have HLN : Hid (L.n = (enc xs ++ enc ys).length ∧ L.B = w.heap.size) := ⟨hLn, hLB⟩
  clear hnew hsl hsrc hL hLs hrow hf HO3 HO2 HK2 HC2 hLn hLB
  go_wp2_with fail
  refine HNEW.out.mono ?_
  rintro e w4 ⟨rfl, hR4, hk4, hs4⟩
  obtain ⟨X, hX⟩ : ∃ X, X = w3.heap.size + 3 := ⟨_, rfl⟩
  rw [← hX] at hR4 ⊢
  have HK4 : Hid (Keep [] w w4) := HK3.out.then hk4
  have HR4 : Hid (Rdr L X w4 0) := hR4
  have HAP : Hid (Apart L) := hR4.rd.ap
  clear HNEW hR4 hk4 hs4 HK3 hX
  go_wp2_with fail
  refine (zzReadArray X w4 .nilIface _ (readArray L X w4 0 xs e0 e1 e3 (HK4.out.env HE.out HLN.out.2) HR4.out HAT.out.left HSX.out.1.1 HSX.out.1.2)).mono ?_
  rintro e w5 ⟨v5, rfl, hG5, hR5, hk5⟩
  have HK5 : Hid (Keep [] w w5) := HK4.out.lown hk5 HAP.out HLN.out.2
  have HR5 : Hid (Rdr L X w5 (enc xs).length) := by rw [Nat.zero_add] at hR5; exact hR5
  have HSA : Hid (Calls Tryd.prog 23 #[v5, .slice ao n c] w5 fun e w' => e = .returned (.bool true) ∧ ∃ n, w' = w5.drewN n) := sameArgs _ _ v5 ao c n xs w5 HN.out hG5 (HA.out.below HK5.out.old) HSX.out.1 (by rw [HN.out]; exact hG5.form)
  clear hG5 hR5 hk5 HR4 HK4
  go_wp2_with fail
  refine HSA.out.mono ?_
  rintro e w6 ⟨rfl, n6, rfl⟩
  obtain ⟨w6, hw6⟩ : ∃ w6, w6 = w5.drewN n6 := ⟨_, rfl⟩
  have HK6 : Hid (Keep [] w w6) := by show Keep [] w w6; rw [hw6]; exact HK5.out.drewN n6
  have HR6 : Hid (Rdr L X w6 (enc xs).length) := by show Rdr L X w6 _; rw [hw6]; exact HR5.out.drewN n6
  rw [← hw6]
  clear hw6 HSA HR5 HK5
  go_wp2_with fail
  refine (zzReadArray X w6 .nilIface _ (readArray L X w6 (enc xs).length ys e0 e1 e3 (HK6.out.env HE.out HLN.out.2) HR6.out (by have := HAT.out.right; rwa [Nat.zero_add] at this) HSX.out.2.1 HSX.out.2.2)).mono ?_
  rintro e w7 ⟨v7, rfl, hG7, hR7, hk7⟩
  have HK7 : Hid (Keep [] w w7) := HK6.out.lown hk7 HAP.out HLN.out.2
  have HR7 : Hid (Rdr L X w7 L.n) := by rw [HLN.out.1, List.length_append]; exact hR7
  have HSB : Hid (Calls Tryd.prog 23 #[v7, .slice bo m d] w7 fun e w' => e = .returned (.bool true) ∧ ∃ n, w' = w7.drewN n) := sameArgs _ _ v7 bo d m ys w7 HMm.out hG7 (HB.out.below HK7.out.old) HSX.out.2 (by rw [HMm.out]; exact hG7.form)
  clear hG7 hR7 hk7 HR6 HK6
  go_wp2_with fail
  refine HSB.out.mono ?_
  rintro e w8 ⟨rfl, n8, rfl⟩
  obtain ⟨w8, hw8⟩ : ∃ w8, w8 = w7.drewN n8 := ⟨_, rfl⟩
  have HK8 : Hid (Keep [] w w8) := by show Keep [] w w8; rw [hw8]; exact HK7.out.drewN n8
  have HR8 : Hid (Rdr L X w8 L.n) := by show Rdr L X w8 _; rw [hw8]; exact HR7.out.drewN n8
  rw [← hw8]
  clear hw8 HSB HR7 HK7
  go_wp2_with fail
  refine (zzReadArray X w8 (.iface 126 (.pointer (some e1))) (fun v w' => v = .slice none 0 0 ∧ Keep L.own w8 w') ((readArray_none L X w8 L.n e0 e1 e3 (HK8.out.env HE.out HLN.out.2) HR8.out (by omega) (fun j hj => by omega)).mono (fun e w' hh => ⟨_, hh.1, rfl, hh.2.2⟩))).mono ?_
  rintro e w9 ⟨v9, rfl, rfl, hk9⟩
  have HK9 : Hid (Keep [] w w9) := HK8.out.lown hk9 HAP.out HLN.out.2
  have hnil := Lib.run_eql_slice_nil (P := Tryd.prog) w9 35 24 none 0 0 0 0 Tryd.underlying35
  clear hk9 HR8 HK8
  go_wp2_with fail
  refine (errCode_unexpected w9 (HE.out.below HK9.out.old)).mono ?_
  rintro e w9' ⟨rfl, hw⟩
  obtain rfl := hw.symm
  go_wp2_with fail
  go_ret
  exact ⟨rfl, HK9.out.old⟩
end Go.Proofs.Qxb6616140aDoor
