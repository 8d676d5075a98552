/- splitInline at words without quotes, one space between each two. -/
import Derived.Test.Qxb6616140aDoorDom
namespace Go.Proofs.Qxb6616140aDoor
open Go.RowKit

theorem joined_append (us vs : List (List Int)) (h : us ≠ []) : joined (us ++ vs) = joined us ++ vs.flatMap (fun v => 32 :: v) := by
  cases us with
  | nil => exact absurd rfl h
  | cons a us => simp [joined]

theorem joined_pre (zss : List (List Int)) (k : Nat) : ∃ R, joined zss = joined (zss.take k) ++ R := by
  by_cases h : zss.take k = []
  · rw [h]; exact ⟨joined zss, rfl⟩
  · refine ⟨(zss.drop k).flatMap (fun v => 32 :: v), ?_⟩
    rw [← joined_append _ _ h, List.take_append_drop]

/-- where the k-th word begins -/
def start (zss : List (List Int)) (k : Nat) : Nat := if k = 0 then 0 else (joined (zss.take k)).length + 1

structure WordAt (zss : List (List Int)) (k : Nat) : Prop where
  sep : k ≠ 0 → (joined zss).getD (joined (zss.take k)).length 0 = 32
  word : ∀ j, j < (zss.getD k []).length → (joined zss).getD (start zss k + j) 0 = (zss.getD k []).getD j 0
  next : (joined (zss.take (k + 1))).length = start zss k + (zss.getD k []).length
  fit : (joined (zss.take (k + 1))).length ≤ (joined zss).length

theorem wordAt (zss : List (List Int)) (k : Nat) (hk : k < zss.length) : WordAt zss k := by
  have h1 := joined_take zss k hk
  obtain ⟨R, hR⟩ := joined_pre zss (k + 1)
  suffices H : ∀ u, u = zss.getD k [] → (k ≠ 0 → (joined zss).getD (joined (zss.take k)).length 0 = 32) ∧ (∀ j, j < u.length → (joined zss).getD (start zss k + j) 0 = u.getD j 0) ∧ (joined (zss.take (k + 1))).length = start zss k + u.length ∧ (joined (zss.take (k + 1))).length ≤ (joined zss).length by
    obtain ⟨a, b, c, d⟩ := H _ rfl
    exact ⟨a, b, c, d⟩
  intro u hu
  rw [← hu] at h1
  refine ⟨fun h0 => ?_, fun j hj => ?_, ?_, ?_⟩
  · rw [hR, h1, if_neg h0, List.append_assoc, List.getD, List.getElem?_append_right (Nat.le_refl _)]
    simp
  · by_cases h0 : k = 0
    · subst h0
      rw [hR, h1, if_pos rfl, start, if_pos rfl, Nat.zero_add]
      rw [List.take_zero]
      show ([] ++ u ++ R).getD j 0 = _
      rw [List.nil_append, List.getD, List.getD, List.getElem?_append_left hj]
    · rw [hR, h1, if_neg h0, start, if_neg h0, List.append_assoc, List.getD, List.getElem?_append_right (by omega), show (joined (zss.take k)).length + 1 + j - (joined (zss.take k)).length = j + 1 by omega, List.cons_append, List.getElem?_cons_succ, List.getElem?_append_left hj]
      rfl
  · rw [h1, start, List.length_append]
    by_cases h0 : k = 0
    · subst h0; simp [joined]
    · rw [if_neg h0, if_neg h0, List.length_cons]; omega
  · rw [hR, List.length_append]; omega

set_option maxRecDepth 100000 in
set_option maxHeartbeats 3200000 in
theorem splitInline (b o N cap n : Nat) (zss : List (List Int)) (w : World) (hn : n = zss.length) (hN : N = (joined zss).length) (hN2 : N ≤ 65536) (hn2 : n ≤ 65536) (hpl : ∀ i, i < zss.length → Plain (zss.getD i [])) (hc : ∀ j, j < N → w.cell? ⟨b, o + j, none⟩ = some (.int .u8 ((joined zss).getD j 0))) :
    Calls Tryd.prog 53 #[.slice (some ⟨b, o, none⟩) N cap] w fun e w' => ∃ v, e = .returned (.tuple #[v, .bool true]) ∧ Got w.heap.size w' v zss ∧ Keep [] w w' := by
  have HN : Hid (n = zss.length) := hn
  have HNN : Hid (N = (joined zss).length) := hN
  have HPL : Hid (∀ i, i < zss.length → Plain (zss.getD i [])) := hpl
  have HC : Hid (∀ wx, Keep [] w wx → ∀ j, j < N → wx.cell? ⟨b, o + j, none⟩ = some (.int .u8 ((joined zss).getD j 0))) := fun wx hx j hj => (hx.cell (p := ⟨b, o + j, none⟩) (lt_of_cell (hc j hj)) (by simp)).trans (hc j hj)
  clear hn hN hpl hc
  go_enter Tryd.func53, Tryd.ntmps53
  go_wp2_with fail
  go_loopg [4, 5] n (fun gk s4 s5 wr => ∃ (k i : Nat) (vs : List Value), s5 = .int .i64 (i : Int) ∧ i = (joined (zss.take k)).length ∧ k ≤ n ∧ gk = n - k ∧ wr.ownsRow w.heap.size 24 1 s4 (zss.take k).length vs ∧ RowsAt w.heap.size wr vs (zss.take k) ∧ Keep [] w wr)
  case atStart => exact ⟨0, 0, [], rfl, rfl, by omega, rfl, World.ownsRow_nil _ _ _ _, fun i hi => by simp at hi, Keep.refl _ _⟩
  case round =>
    obtain ⟨k, i0, vs, rfl, hi0, hk, hgk, hown, hrows, hkeep⟩ := hrel
    have HGK : Hid (gk = n - k) := hgk
    have HOW : Hid (wr.ownsRow w.heap.size 24 1 u4 (zss.take k).length vs ∧ RowsAt w.heap.size wr vs (zss.take k)) := ⟨hown, hrows⟩
    have HK0 : Hid (Keep [] w wr) := hkeep
    obtain ⟨st, hst⟩ : ∃ st, st = if k < n then start zss k else N := ⟨_, rfl⟩
    have HST : Hid (st = if k < n then start zss k else N) := hst
    have hstep : (i0 = st ∨ (i0 + 1 = st ∧ (joined zss).getD i0 0 = 32)) ∧ st ≤ N ∧ (k < n → st < N ∧ Good ((joined zss).getD st 0)) := by
      by_cases hlt : k < n
      · have hkz : k < zss.length := by rw [← HN.out]; exact hlt
        have W := wordAt zss k hkz
        have hp := HPL.out k hkz
        have hl0 : 0 < (zss.getD k []).length := List.length_pos_iff.2 hp.1
        have hfit := W.fit
        rw [W.next, ← HNN.out] at hfit
        rw [hst, if_pos hlt]
        refine ⟨?_, by omega, fun _ => ⟨by omega, ?_⟩⟩
        · by_cases h0 : k = 0
          · left; rw [hi0, h0, start, if_pos rfl]; rfl
          · right; exact ⟨by rw [start, if_neg h0, hi0], by rw [hi0]; exact W.sep h0⟩
        · have := W.word 0 hl0
          rw [Nat.add_zero] at this
          rw [this]; exact hp.2 0 hl0
      · rw [hst, if_neg hlt]
        refine ⟨.inl ?_, Nat.le_refl _, fun h => absurd h hlt⟩
        rw [hi0, HNN.out, show k = zss.length by rw [← HN.out]; omega, List.take_length]
    obtain ⟨hs1, hs2, hs3⟩ := hstep
    have HG : Hid (k < n → Good ((joined zss).getD st 0)) := fun h => (hs3 h).2
    have hs4 : k < n → st < N := fun h => (hs3 h).1
    have hs5 : ¬ k < n → st = N := fun h => by rw [hst, if_neg h]
    have HS1 : Hid (i0 = st ∨ (i0 + 1 = st ∧ (joined zss).getD i0 0 = 32)) := hs1
    clear hown hrows hkeep hgk hst hs3 hs1 hi0
    obtain ⟨w0, hw0⟩ : ∃ w0, w0 = wr := ⟨_, rfl⟩
    go_wp2_with fail
    go_loopg [5] (st - i0) (fun gk2 s5 w2 => ∃ i : Nat, s5 = .int .i64 (i : Int) ∧ i + gk2 = st ∧ (gk2 = 0 ∨ (joined zss).getD i 0 = 32) ∧ gk2 ≤ 1 ∧ w2 = w0)
    case atStart =>
      refine ⟨i0, rfl, ?_, ?_, ?_, hw0.symm⟩ <;> rcases HS1.out with h | ⟨h, h'⟩
      · omega
      · omega
      · left; omega
      · right; exact h'
      · omega
      · omega
    case round =>
      obtain ⟨i, rfl, hi, hg2, hg1, hw2⟩ := hrel
      rw [hw0] at hw2
      subst hw2
      by_cases hz : gk = 0
      · subst hz
        obtain rfl : i = st := by omega
        clear hg2 hg1 hi
        by_cases hlt : k < n
        · have hkz : k < zss.length := by rw [← HN.out]; exact hlt
          have hiN := hs4 hlt
          have hiN' : (i : Int) < (N : Int) := by omega
          have cz := HC.out wr HK0.out i hiN
          obtain ⟨y, hy⟩ : ∃ y, y = (joined zss).getD i 0 := ⟨_, rfl⟩
          have HGy : Hid (Good y) := by show Good y; rw [hy]; exact HG.out hlt
          rw [← hy] at cz
          have hne : ((i : Int) == (N : Int)) = false := beq_eq_false_iff_ne.2 (by omega)
          clear hy HG hs4 hs5
          have W := wordAt zss k hkz
          have hp := HPL.out k hkz
          obtain ⟨u, hu⟩ : ∃ u, u = zss.getD k [] := ⟨_, rfl⟩
          obtain ⟨l, hl⟩ : ∃ l, l = u.length := ⟨_, rfl⟩
          have hnx := W.next
          have hfit := W.fit
          have hwd := W.word
          have hst := HST.out
          rw [if_pos hlt] at hst
          rw [hnx, ← HNN.out, ← hu, ← hl, ← hst] at hfit
          rw [← hu, ← hl, ← hst] at hnx
          rw [← hu, ← hl, ← hst] at hwd
          rw [← hu] at hp
          have HUL : Hid (l = u.length) := hl
          have HUN : Hid (u ≠ []) := hp.1
          have HGD : Hid (∀ j, j < l → Good (u.getD j 0)) := by show ∀ j, j < l → _; rw [hl]; exact hp.2
          have HWD : Hid (∀ j, j < l → (joined zss).getD (i + j) 0 = u.getD j 0) := hwd
          have HNX : Hid ((joined (zss.take (k + 1))).length = i + l) := hnx
          have HTK : Hid (zss.take (k + 1) = zss.take k ++ [u]) := by show _ = _; rw [take_snoc2 zss k hkz, hu]
          have hl0 : 0 < l := by rw [hl]; exact List.length_pos_iff.2 hp.1
          have HSP : Hid (¬ i + l = N → (joined zss).getD (i + l) 0 = 32) := by
            intro hend
            have hk1 : k + 1 < n := by
              by_cases h : k + 1 < n
              · exact h
              · exfalso
                apply hend
                have e : k + 1 = zss.length := by rw [← HN.out]; omega
                rw [← hnx, e, List.take_length, HNN.out]
            have := (wordAt zss (k + 1) (by rw [← HN.out]; exact hk1)).sep (by omega)
            rwa [hnx] at this
          clear hu hl hp hnx hwd hst W HST
          go_wp2_with fail
          refine (isSpace_no y wr HGy.out.n32 HGy.out.n9 HGy.out.n13 HGy.out.n11 HGy.out.n12).mono ?_
          rintro e wr' ⟨rfl, hw⟩
          obtain rfl := hw.symm
          clear cz HGy
          subst hw0
          go_wp2_with fail
          go_loopg [5, 6] l (fun gk3 s5 s6 w2 => ∃ i2 j : Nat, s5 = .int .i64 (i2 : Int) ∧ i2 = i + j ∧ j ≤ l ∧ gk3 = l - j ∧ Own w0.heap.size w2 s6 (u.take j) ∧ Keep [] w0 w2)
          case atStart => exact ⟨i, 0, rfl, rfl, by omega, rfl, Own.nil _ _, Keep.refl _ _⟩
          case round =>
            obtain ⟨i2, j, rfl, hi2, hj, hgj, hownA, hkA⟩ := hrel
            have HOA : Hid (Own w0.heap.size wr u6 (u.take j)) := hownA
            have HK2 : Hid (Keep [] w0 wr) := hkA
            have hsr : w0.heap.size ≤ wr.heap.size := hkA.size
            have HI2 : Hid (i2 = i + j) := hi2
            have hiN1 : j < l → i2 < N := by omega
            have hiN0 : i2 ≤ N := by omega
            clear hownA hkA hi2
            by_cases hjl : j < l
            · have hiN2 : i2 < N := hiN1 hjl
              have hiN2' : (i2 : Int) < (N : Int) := by omega
              have cz := HC.out wr (HK0.out.then HK2.out) i2 hiN2
              rw [HI2.out, HWD.out j hjl, ← HI2.out] at cz
              obtain ⟨y, hy⟩ : ∃ y, y = u.getD j 0 := ⟨_, rfl⟩
              have HY : Hid (y = u.getD j 0) := hy
              have hgy : Good y := by rw [hy]; exact HGD.out j hjl
              have g34 : (y != 34) = true := by simp [bne, hgy.n34]
              have g39 : (y != 39) = true := by simp [bne, hgy.n39]
              have HGy : Hid (Good y) := hgy
              rw [← hy] at cz
              clear hy hgy
              go_wp2_with fail
              refine (isSpace_no y wr HGy.out.n32 HGy.out.n9 HGy.out.n13 HGy.out.n11 HGy.out.n12).mono ?_
              rintro e wr' ⟨rfl, hw⟩
              obtain rfl := hw.symm
              have htl : (u.take j).length ≤ 65536 := by simp; omega
              go_wp2_with (at_builtin; refine wpList_append_bytes _ rfl (.tmp 51) (.tmp 53) rfl w0.heap.size _ (u.take j) rfl (HOA.out.alloc _) _ 1 1 [y] rfl rfl (fun h => by cases h) (new1 wr y) (by omega) (by simp; omega) ?_; intro v3 w3 hown3 hk3; have HO3 : Hid (Own w0.heap.size w3 v3 (u.take j ++ [y])) := hown3; have HK3 : Hid (Keep [] w0 w3) := HK2.out.own HOA.out hk3; clear hown3 hk3)
              go_roundg (l - (j + 1))
              case measure => omega
              case rel => exact ⟨i2 + 1, j + 1, by go_num, by have := HI2.out; omega, by omega, rfl, by rw [take_snoc u j (by rw [← HUL.out]; exact hjl), ← HY.out]; exact HO3.out, HK3.out⟩
            · obtain rfl : j = l := by omega
              have HOFF : Hid (i2 = (joined (zss.take (k + 1))).length) := by show _ = _; rw [HNX.out]; exact HI2.out
              have HTU : Hid (u.take j = u) := by show _ = _; rw [HUL.out, List.take_length]
              have HSP2 : Hid (¬ i2 = N → (joined zss).getD i2 0 = 32) := by intro h; rw [HI2.out]; exact HSP.out (by have := HI2.out; omega)

              obtain ⟨g, Ng, f, hvg, hg, hrow, hlc, hcm, hf⟩ := HOA.out.row (by rw [HTU.out]; exact HUN.out)
              rw [HTU.out, ← HUL.out] at hvg hlc
              rw [HTU.out, ← HUL.out] at hf
              have HROW : Hid (wr.rowIs g 5 Ng f ∧ j ≤ Ng ∧ (∀ q, q < j → f q = .int .u8 (u.getD q 0)) ∧ w.heap.size ≤ g) := ⟨hrow, hlc, hf, Nat.le_trans (HK0.out.size) hg⟩
              have HOW2 : Hid (wr.ownsRow w.heap.size 24 1 u4 (zss.take k).length vs ∧ RowsAt w.heap.size wr vs (zss.take k)) := ⟨own_keep HOW.out.1 HK2.out (by simp), HOW.out.2.keep HK2.out (by simp)⟩
              subst hvg
              have hs2x : w.heap.size ≤ wr.heap.size := (HK0.out.then HK2.out).size
              have htl : (zss.take k).length ≤ 65536 := by simp; omega
              obtain ⟨i24, hi24, hz24, hs24, hb24⟩ := info_parts info24
              have hnew : ∀ q v, [Value.slice (some ⟨g, 0, none⟩) j Ng][q]? = some v → (wr.alloc (.cells #[.slice (some ⟨g, 0, none⟩) j Ng] 24)).cell? ((⟨wr.heap.size, 0, none⟩ : Addr).add q) = some v := by
                intro q v hv
                obtain rfl : q = 0 := by
                  by_cases h : q = 0
                  · exact h
                  · rw [List.getElem?_eq_none (by simp; omega)] at hv; cases hv
                rw [WideShapes.add_plain]
                simpa using hv
              have HNEW : Hid (∀ q v, [Value.slice (some ⟨g, 0, none⟩) j Ng][q]? = some v → (wr.alloc (.cells #[.slice (some ⟨g, 0, none⟩) j Ng] 24)).cell? ((⟨wr.heap.size, 0, none⟩ : Addr).add q) = some v) := hnew
              clear hnew hg hrow hlc hcm hf
              by_cases hend : i2 = N
              · have hlt' : ¬ (i2 : Int) < (N : Int) := by omega
                clear hend
                go_wp2_with (at_builtin; (refine wpList_append_own _ rfl (.tmp 80) (.tmp 82) 35 rfl w.heap.size 24 i24 (.slice none 0 0) 1 24 Tryd.underlying35 hi24 hz24 hs24 hb24 rfl (by decide) u4 (zss.take k).length vs rfl (HOW2.out.1.alloc _) ⟨wr.heap.size, 0, none⟩ 1 1 [.slice (some ⟨g, 0, none⟩) j Ng] rfl rfl HNEW.out (fun v hv => by simp at hv; subst hv; rfl) (by simp only [maxLen]; omega) (by omega) (by simp; omega) ?_); intro v7 w7 hown7 hg7 _)
                have hk7 := Keep.of_grown hg7
                have hka : Keep [] wr (wr.alloc (.cells #[.slice (some ⟨g, 0, none⟩) j Ng] 24)) := (Keep.refl [] wr).alloc _
                obtain ⟨hr1, hr2, hr3, hr4⟩ := HROW.out
                have hob : ∀ y ∈ u4.ownBlock.toList, w.heap.size ≤ y := fun y hy => (World.ownsRow.lt HOW2.out.1 y (by simpa using hy)).1
                have hul := HUL.out
                subst hul
                have hsn := got_snoc (own_keep HOW2.out.1 hka (by simp)) (HOW2.out.2.keep hka (by simp)) hown7 hk7 hr4 (hka.rowIs hr1 (by simp)) hr2 hr3
                go_roundg (n - (k + 1))
                case measure => rw [HGK.out]; omega
                case rel =>
                  refine ⟨k + 1, i2, vs ++ [.slice (some ⟨g, 0, none⟩) u.length Ng], rfl, HOFF.out, by omega, rfl, by rw [HTK.out]; exact hsn.1, by rw [HTK.out]; exact hsn.2, ?_⟩
                  exact ((HK0.out.then HK2.out).then hka).trans hk7 (fun y hy => .inr (hob y hy))
              · have hlt' : (i2 : Int) < (N : Int) := by omega
                have cz := HC.out wr (HK0.out.then HK2.out) i2 (by omega)
                rw [HSP2.out hend] at cz
                go_wp2_with fail
                refine (isSpace_yes wr).mono ?_
                rintro e wr' ⟨rfl, hw⟩
                obtain rfl := hw.symm
                clear cz
                go_wp2_with (at_builtin; (refine wpList_append_own _ rfl (.tmp 80) (.tmp 82) 35 rfl w.heap.size 24 i24 (.slice none 0 0) 1 24 Tryd.underlying35 hi24 hz24 hs24 hb24 rfl (by decide) u4 (zss.take k).length vs rfl (HOW2.out.1.alloc _) ⟨wr.heap.size, 0, none⟩ 1 1 [.slice (some ⟨g, 0, none⟩) j Ng] rfl rfl HNEW.out (fun v hv => by simp at hv; subst hv; rfl) (by simp only [maxLen]; omega) (by omega) (by simp; omega) ?_); intro v7 w7 hown7 hg7 _)
                have hk7 := Keep.of_grown hg7
                have hka : Keep [] wr (wr.alloc (.cells #[.slice (some ⟨g, 0, none⟩) j Ng] 24)) := (Keep.refl [] wr).alloc _
                obtain ⟨hr1, hr2, hr3, hr4⟩ := HROW.out
                have hob : ∀ y ∈ u4.ownBlock.toList, w.heap.size ≤ y := fun y hy => (World.ownsRow.lt HOW2.out.1 y (by simpa using hy)).1
                have hul := HUL.out
                subst hul
                have hsn := got_snoc (own_keep HOW2.out.1 hka (by simp)) (HOW2.out.2.keep hka (by simp)) hown7 hk7 hr4 (hka.rowIs hr1 (by simp)) hr2 hr3
                go_roundg (n - (k + 1))
                case measure => rw [HGK.out]; omega
                case rel =>
                  refine ⟨k + 1, i2, vs ++ [.slice (some ⟨g, 0, none⟩) u.length Ng], rfl, HOFF.out, by omega, rfl, by rw [HTK.out]; exact hsn.1, by rw [HTK.out]; exact hsn.2, ?_⟩
                  exact ((HK0.out.then HK2.out).then hka).trans hk7 (fun y hy => .inr (hob y hy))
        · obtain rfl := hs5 hlt
          obtain rfl : k = n := by omega
          have hlt' : ¬ (i : Int) < (i : Int) := by omega
          go_wp2_with fail
          go_ret2
          have et : zss.take k = zss := by rw [HN.out, List.take_length]
          have h1 := HOW.out
          rw [et] at h1
          exact ⟨_, rfl, ⟨vs, h1.1, h1.2⟩, HK0.out⟩
      · obtain rfl : gk = 1 := by omega
        have h32 : (joined zss).getD i 0 = 32 := by
          rcases hg2 with h | h
          · exact absurd h hz
          · exact h
        have hiN : i < N := by omega
        have hiN' : (i : Int) < (N : Int) := by omega
        have cz := HC.out wr HK0.out i hiN
        rw [h32] at cz
        clear hg2 h32
        go_wp2_with fail
        refine (isSpace_yes wr).mono ?_
        rintro e wr' ⟨rfl, hw⟩
        obtain rfl := hw.symm
        go_wp2_with fail
        go_roundg 0
        case measure => omega
        case rel => exact ⟨i + 1, by go_num, by omega, .inl rfl, by omega, hw0.symm⟩
end Go.Proofs.Qxb6616140aDoor
