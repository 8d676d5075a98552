/- encodeArray: the RESP array of bulk strings. -/
import Derived.Test.Qxb6616140aDoorItoa
namespace Go.Proofs.Qxb6616140aDoor
open Go.RowKit

/-- A slice of byte slices that lies below block B and holds the rows zss. -/
structure Mat (B : Nat) (w : World) (ao : Option Addr) (zss : List (List Int)) : Prop where
  h0 : ao = none → zss = []
  hc : ∀ a, ao = some a → ∀ r, r < zss.length → ∃ A C, w.cell? (a.add r) = some (.slice A (zss.getD r []).length C) ∧ (a.add r).block < B ∧ (A = none → zss.getD r [] = [] ∧ C = 0) ∧
    ∀ a', A = some a' → ∀ j, j < (zss.getD r []).length → w.cell? (a'.add j) = some (.int .u8 ((zss.getD r []).getD j 0)) ∧ (a'.add j).block < B

theorem Mat.below {B : Nat} {w w' : World} {ao : Option Addr} {zss : List (List Int)} (h : Mat B w ao zss) (hb : Below B w w') : Mat B w' ao zss where
  h0 := h.h0
  hc a ha r hr := by
    obtain ⟨A, C, h1, h2, h3, h4⟩ := h.hc a ha r hr
    exact ⟨A, C, (hb.cell h2).trans h1, h2, h3, fun a' e j hj => ⟨(hb.cell (h4 a' e j hj).2).trans (h4 a' e j hj).1, (h4 a' e j hj).2⟩⟩

def item (zs : List Int) : List Int := 36 :: (dig zs.length ++ ([13, 10] ++ (zs ++ [13, 10])))
def items (zss : List (List Int)) : List Int := zss.flatMap item
def enc (zss : List (List Int)) : List Int := 42 :: (dig zss.length ++ ([13, 10] ++ items zss))

theorem items_snoc (zss : List (List Int)) (i : Nat) (hi : i < zss.length) : items (zss.take (i + 1)) = items (zss.take i) ++ item (zss.getD i []) := by
  have e : zss.take (i + 1) = zss.take i ++ [zss.getD i []] := by
    rw [List.take_add_one, List.getElem?_eq_getElem hi]
    simp [List.getD, List.getElem?_eq_getElem hi]
  rw [items, e, List.flatMap_append]
  simp [items]

theorem items_take_le (zss : List (List Int)) (i : Nat) : (items (zss.take i)).length ≤ (items zss).length := by
  have : items zss = items (zss.take i) ++ items (zss.drop i) := by rw [items, items, items, ← List.flatMap_append, List.take_append_drop]
  rw [this, List.length_append]; omega

theorem Keep.own' {w a b : World} {v : Value} {zs : List Int} (h : Keep [] w a) (hv : Own w.heap.size a v zs) (hk : Keep v.ownBlock.toList a b) : Keep [] w b :=
  h.trans hk fun x hx => .inr (hv.base x hx)

theorem Keep.old {w a : World} (h : Keep [] w a) : Below w.heap.size w a := h.below (Nat.le_refl _) (by simp)

theorem own_one (w : World) (x : Int) : Own w.heap.size (w.alloc (.cells #[.int .u8 x] 5)) (.slice (some ⟨w.heap.size, 0, none⟩) 1 1) [x] :=
  ⟨rfl, .inr ⟨w.heap.size, 1, #[.int .u8 x], rfl, Nat.le_refl _, heap_alloc_new w _, Nat.le_refl _, by simp [maxLen], rfl, rfl⟩⟩

/-- The row's cells as the append law asks them. -/
theorem cells_of {w : World} {g : Nat} {zs : List Int} (h : ∀ j, j < zs.length → w.cell? ⟨g, j, none⟩ = some (.int .u8 (zs.getD j 0))) (ad : Addr) (had : some (⟨g, 0, none⟩ : Addr) = some ad) (j : Nat) (hj : j < zs.length) : w.cell? (ad.add j) = some (.int .u8 (zs.getD j 0)) := by
  obtain rfl := Option.some.inj had
  rw [WideShapes.add_plain, Nat.zero_add]
  exact h j hj

set_option maxRecDepth 100000 in
set_option maxHeartbeats 800000 in
theorem encodeArray (ao : Option Addr) (c : Nat) (zss : List (List Int)) (w : World) (hM : Mat w.heap.size w ao zss) (hn : zss.length ≤ 1048576) (hl : (enc zss).length ≤ 16777216) :
    Calls Tryd.prog 20 #[.slice ao zss.length c, .int .i64 (-1), .int .u8 0] w fun e w' => ∃ v, e = .returned v ∧ Own w.heap.size w' v (enc zss) ∧ Keep [] w w' := by
  have HM : Hid (Mat w.heap.size w ao zss) := hM
  have HL : Hid ((enc zss).length ≤ 16777216) := hl
  obtain ⟨n, hn'⟩ : ∃ n, n = zss.length := ⟨_, rfl⟩
  have HN : Hid (n = zss.length) := hn'
  rw [← hn'] at hn ⊢
  have hl2 : (dig n).length + (items zss).length ≤ 16777216 := by
    have := HL.out; rw [hn']; simp [enc] at this; omega
  clear hM hl hn'
  go_enter Tryd.func20, Tryd.ntmps20
  go_wp2_with fail
  refine (itoa n _ (by omega)).mono ?_
  rintro e w2 ⟨g2, c2, rfl, hcell2, hg2, hk2⟩
  have HC2 : Hid (∀ j, j < (dig n).length → w2.cell? ⟨g2, j, none⟩ = some (.int .u8 ((dig n).getD j 0))) := hcell2
  have HO2 : Hid (Own w.heap.size w2 (.slice (some ⟨w.heap.size, 0, none⟩) 1 1) [42]) := (own_one w 42).keep hk2 (by simp)
  have HK2 : Hid (Keep [] w w2) := ((Keep.refl [] w).alloc _).then hk2
  have hs2 : w.heap.size ≤ w2.heap.size := HK2.out.size
  clear hcell2 hg2 hk2
  go_wp2_with (first
    | (at_builtin; refine wpList_append_bytes _ rfl (.tmp 10) (.tmp 13) rfl w.heap.size _ [42] rfl HO2.out _ (dig n).length c2 (dig n) rfl rfl (fun h => by cases h) (cells_of HC2.out) (by simp; omega) hs2 ?_; intro v3 w3 hown3 hk3; have HO3 : Hid (Own w.heap.size w3 v3 ([42] ++ dig n)) := hown3; have HK3 : Hid (Keep [] w w3) := HK2.out.own' HO2.out hk3; have hs3 : w.heap.size ≤ w3.heap.size := HK3.out.size; clear hown3 hk3)
    | (at_builtin; refine wpList_append_bytes _ rfl (.tmp 15) (.tmp 16) rfl w.heap.size _ ([42] ++ dig n) rfl (HO3.out.alloc _) _ 2 2 [13, 10] rfl rfl (fun h => by cases h) (new2 w3 13 10) (by simp; omega) (by simp; omega) ?_; intro v4 w4 hown4 hk4; have HO4 : Hid (Own w.heap.size w4 v4 ([42] ++ dig n ++ [13, 10])) := hown4; have HK4 : Hid (Keep [] w w4) := HK3.out.own HO3.out hk4; clear hown4 hk4))
  obtain ⟨hd, hhd⟩ : ∃ hd, hd = [42] ++ dig n ++ [13, 10] := ⟨_, rfl⟩
  have HH : Hid (hd = [42] ++ dig n ++ [13, 10]) := hhd
  have hhl : hd.length + (items zss).length ≤ 16777300 := by rw [hhd]; simp; omega
  clear hhd
  go_loopg [7, 8] n (fun gk s7 s8 wr => ∃ i : Nat, s8 = .int .i64 i ∧ i ≤ n ∧ gk = n - i ∧ Own w.heap.size wr s7 (hd ++ items (zss.take i)) ∧ Keep [] w wr)
  case atStart => exact ⟨0, rfl, by omega, by omega, by have := HO4.out; rw [← HH.out] at this; simpa [items] using this, HK4.out⟩
  case round =>
    obtain ⟨i, rfl, hi, hgk, hown, hk⟩ := hrel
    have HO : Hid (Own w.heap.size wr u7 (hd ++ items (zss.take i))) := hown
    have HK : Hid (Keep [] w wr) := hk
    have hsr : w.heap.size ≤ wr.heap.size := hk.size
    clear hown hk
    by_cases hlt : i < n
    · have hlt' : (i : Int) < (n : Int) := by omega
      have hne1 : ((i : Int) == -1) = false := by simp
      have hil : i < zss.length := by rw [← HN.out]; exact hlt
      cases ao with
      | none => have := HM.out.h0 rfl; rw [this] at hil; simp at hil
      | some a =>
      obtain ⟨A, C, hc1, hb1, hA0, hA1⟩ := HM.out.hc a rfl i hil
      obtain ⟨zs, hzs⟩ : ∃ zs, zs = zss.getD i [] := ⟨_, rfl⟩
      have HZ : Hid (zs = zss.getD i []) := hzs
      rw [← hzs] at hc1 hA0 hA1
      have hbnd : (hd ++ items (zss.take i)).length + (item zs).length ≤ 16777300 := by
        have h1 := items_take_le zss (i + 1)
        rw [items_snoc zss i hil, ← hzs] at h1
        simp at h1 ⊢; omega
      obtain ⟨cur, hcur⟩ : ∃ cur, cur = hd ++ items (zss.take i) := ⟨_, rfl⟩
      have HCUR : Hid (cur = hd ++ items (zss.take i)) := hcur
      have HOc : Hid (Own w.heap.size wr u7 cur) := by rw [hcur]; exact HO.out
      rw [← hcur] at hbnd
      have hit : (item zs).length = 5 + (dig zs.length).length + zs.length := by simp [item]; omega
      rw [hit] at hbnd
      have HA1 : Hid (∀ a', A = some a' → ∀ j, j < zs.length → w.cell? (a'.add j) = some (.int .u8 (zs.getD j 0)) ∧ (a'.add j).block < w.heap.size) := hA1
      have HA0 : Hid (A = none → zs = [] ∧ C = 0) := hA0
      clear hzs hcur hA0 hA1 hit HO HO4 HK4 HO3 HK3 HO2 HK2 HC2 hs2 hs3
      obtain ⟨m, hm⟩ : ∃ m, m = zs.length := ⟨_, rfl⟩
      have HMm : Hid (m = zs.length) := hm
      rw [← hm] at hc1 hbnd
      clear hm
      have HC1 : Hid (∀ wx, Keep [] w wx → wx.cell? (a.add i) = some (.slice A m C)) := fun wx hx => (hx.old.cell hb1).trans hc1
      clear hc1 hb1
      go_wp2_with (at_builtin; refine wpList_append_bytes _ rfl (.tmp 31) (.tmp 32) rfl w.heap.size _ cur rfl (HOc.out.alloc _) _ 1 1 [36] rfl rfl (fun h => by cases h) (new1 wr 36) (by simp; omega) (by simp; omega) ?_; intro v1 w1 hown1 hk1; have HO1 : Hid (Own w.heap.size w1 v1 (cur ++ [36])) := hown1; have HK1 : Hid (Keep [] w w1) := HK.out.own HOc.out hk1; have hs1 : w.heap.size ≤ w1.heap.size := HK1.out.size; have hca1 := HC1.out w1 HK1.out; clear hown1 hk1)
      refine (itoa m w1 (by omega)).mono ?_
      rintro e w2 ⟨gq, cq, rfl, hcell2, hg2, hk2⟩
      have HC2 : Hid (∀ j, j < (dig m).length → w2.cell? ⟨gq, j, none⟩ = some (.int .u8 ((dig m).getD j 0))) := hcell2
      have HO2 : Hid (Own w.heap.size w2 v1 (cur ++ [36])) := HO1.out.keep hk2 (by simp)
      have HK2 : Hid (Keep [] w w2) := HK1.out.then hk2
      have hs2 : w.heap.size ≤ w2.heap.size := HK2.out.size
      clear hcell2 hg2 hk2 HO1 HK1 hs1 hca1
      go_wp2_with (first
        | (at_builtin; refine wpList_append_bytes _ rfl (.tmp 34) (.tmp 40) rfl w.heap.size _ (cur ++ [36]) rfl HO2.out _ (dig m).length cq (dig m) rfl rfl (fun h => by cases h) (cells_of HC2.out) (by simp; omega) hs2 ?_; intro vb wb hownb hkb; have HOb : Hid (Own w.heap.size wb vb (cur ++ [36] ++ dig m)) := hownb; have HKb : Hid (Keep [] w wb) := HK2.out.own' HO2.out hkb; have hsb : w.heap.size ≤ wb.heap.size := HKb.out.size; clear hownb hkb)
        | (at_builtin; refine wpList_append_bytes _ rfl (.tmp 42) (.tmp 43) rfl w.heap.size _ (cur ++ [36] ++ dig m) rfl (HOb.out.alloc _) _ 2 2 [13, 10] rfl rfl (fun h => by cases h) (new2 wb 13 10) (by simp; omega) (by simp; omega) ?_; intro vc wc hownc hkc; have HOc2 : Hid (Own w.heap.size wc vc (cur ++ [36] ++ dig m ++ [13, 10])) := hownc; have HKc : Hid (Keep [] w wc) := HKb.out.own HOb.out hkc; have hsc : w.heap.size ≤ wc.heap.size := HKc.out.size; have hcac := HC1.out wc HKc.out; clear hownc hkc)
        | (at_builtin; refine wpList_append_bytes _ rfl (.tmp 45) (.tmp 49) rfl w.heap.size _ (cur ++ [36] ++ dig m ++ [13, 10]) rfl HOc2.out A m C zs rfl HMm.out.symm (fun h => ⟨by rw [HMm.out, (HA0.out h).1]; rfl, (HA0.out h).2⟩) (fun ad had j hj => by rw [HMm.out] at hj; exact (HKc.out.old.cell (HA1.out ad had j hj).2).trans (HA1.out ad had j hj).1) (by simp; omega) hsc ?_; intro vd wd hownd hkd; have HOd : Hid (Own w.heap.size wd vd (cur ++ [36] ++ dig m ++ [13, 10] ++ zs)) := hownd; have HKd : Hid (Keep [] w wd) := HKc.out.own' HOc2.out hkd; have hsd : w.heap.size ≤ wd.heap.size := HKd.out.size; clear hownd hkd)
        | (at_builtin; refine wpList_append_bytes _ rfl (.tmp 51) (.tmp 52) rfl w.heap.size _ (cur ++ [36] ++ dig m ++ [13, 10] ++ zs) rfl (HOd.out.alloc _) _ 2 2 [13, 10] rfl rfl (fun h => by cases h) (new2 wd 13 10) (by have := HMm.out; simp; omega) (by simp; omega) ?_; intro ve we howne hke; have HOe : Hid (Own w.heap.size we ve (cur ++ [36] ++ dig m ++ [13, 10] ++ zs ++ [13, 10])) := howne; have HKe : Hid (Keep [] w we) := HKd.out.own HOd.out hke; clear howne hke))
      go_roundg (n - (i + 1))
      case measure => omega
      case rel =>
        refine ⟨i + 1, by go_num, by omega, rfl, ?_, HKe.out⟩
        have := HOe.out
        rw [items_snoc zss i hil, ← HZ.out, item, ← HMm.out, ← List.append_assoc, ← HCUR.out]
        simpa [List.append_assoc] using this
    · obtain rfl : i = n := by omega
      go_wp2_with fail
      go_ret
      refine ⟨_, rfl, ?_, HK.out⟩
      have := HO.out
      rw [HN.out, List.take_length, HH.out] at this
      rw [enc, ← HN.out]
      simpa [List.append_assoc] using this
end Go.Proofs.Qxb6616140aDoor
