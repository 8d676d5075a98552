/- FnReadCommandInlineWords: the walk. -/
import Derived.Test.Qxb6616140aDoorInl
import Derived.Test.Qxb6616140aDoorZz3
namespace Go.Proofs.Qxb6616140aDoor
open Go.RowKit

theorem joined_bytes (zss : List (List Int)) (h : Bytes88 zss) : Bytes8 (joined zss) := by
  intro z hz
  rcases joined_mem hz with rfl | ⟨zs, hzs, hz⟩
  · decide
  · exact h zs hzs z hz

theorem joined_take_le (zss : List (List Int)) (k : Nat) : (joined (zss.take k)).length ≤ (joined zss).length := by
  obtain ⟨R, hR⟩ := joined_pre zss k
  rw [hR, List.length_append]; omega

theorem Keep.lownX {L : Lay} {x : Nat} {w a b : World} (h : Keep [] w a) (hk : Keep (x :: L.own) a b) (ap : Apart L) (hB : L.B = w.heap.size) (hx : L.B ≤ x) : Keep [] w b :=
  h.trans hk fun y hy => .inr (by have h1 := ap.B1; have h2 := ap.B2; have h3 := ap.B3; simp [Lay.own] at hy; omega)

set_option maxRecDepth 100000 in
set_option maxHeartbeats 3200000 in
theorem law6 (ao : Option Addr) (c n : Nat) (xs : List (List Int)) (w : World) (e0 e1 e3 : Addr) (hE : Env w.heap.size e0 e1 e3 w) (hn : n = xs.length) (hA : Mat w.heap.size w ao xs) (hnb : n ≤ 9223372036854775807)
    (hnr : ∀ i, i < xs.length → (xs.getD i []).length ≤ 9223372036854775807) (hx8 : Bytes88 xs) :
    Calls Tryd.prog 6 #[.slice ao n c] w fun e w' => e = .returned (.bool true) ∧ Below w.heap.size w w' := by
  have HE : Hid (Env w.heap.size e0 e1 e3 w) := hE
  have HA : Hid (Mat w.heap.size w ao xs) := hA
  have HN : Hid (n = xs.length) := hn
  have HX8 : Hid (Bytes88 xs) := hx8
  have HZ : Hid (Calls Tryd.prog 24 #[.slice ao n c] w fun e w' => ZzAns e xs [] ∧ w' = w) := zzWords _ ao c n xs w hn hA hnb hnr
  clear hE hA hn hnr hx8
  go_enter Tryd.func6, Tryd.ntmps6
  go_wp2_with fail
  refine HZ.out.mono ?_
  rintro e w' ⟨hz, hw⟩
  obtain rfl := hw.symm
  rcases hz with rfl | ⟨rfl, hsx, _⟩
  · go_wp2_with fail
    go_ret
    exact ⟨rfl, Below.refl _ _⟩
  have HSX : Hid (Small xs) := hsx
  clear HZ hsx
  go_wp2_with fail
  refine (argsTooBig _ ao c n 1048576 xs w HN.out HA.out HSX.out (by omega)).mono ?_
  rintro e w' ⟨hz, hw⟩
  obtain rfl := hw.symm
  rcases hz with rfl | ⟨rfl, hn1, ht1⟩
  · go_wp2_with fail
    go_ret
    exact ⟨rfl, Below.refl _ _⟩
  have HW := hide (wordsInDomain _ ao c n xs w HN.out HA.out HSX.out (by omega))
  clear ht1
  go_wp2_with fail
  refine HW.out.mono ?_
  rintro e w' ⟨hz, hw⟩
  obtain rfl := hw.symm
  rcases hz with rfl | ⟨rfl, hpl, hstar, hmax⟩
  · go_wp2_with fail
    go_ret
    exact ⟨rfl, Below.refl _ _⟩
  have HD : Hid ((∀ i, i < xs.length → Plain (xs.getD i [])) ∧ (xs ≠ [] → (xs.getD 0 []).getD 0 0 ≠ 42) ∧ (joined xs).length + 2 ≤ 65536) := ⟨hpl, hstar, hmax⟩
  clear hpl hstar HW
  go_wp2_with fail
  go_loopg [3, 4] n (fun gk s3 s4 wr => ∃ k : Nat, s4 = .int .i64 (k : Int) ∧ k ≤ n ∧ gk = n - k ∧ Own w.heap.size wr s3 (joined (xs.take k)) ∧ Keep [] w wr)
  case atStart => exact ⟨0, rfl, by omega, rfl, Own.nil _ _, Keep.refl _ _⟩
  case round =>
    obtain ⟨k, rfl, hk, hgk, hown, hkeep⟩ := hrel
    have HO : Hid (Own w.heap.size wr u3 (joined (xs.take k))) := hown
    have HK : Hid (Keep [] w wr) := hkeep
    have hsr : w.heap.size ≤ wr.heap.size := hkeep.size
    clear hown hkeep
    by_cases hlt : k < n
    · have hlt' : (k : Int) < (n : Int) := by omega
      have hil : k < xs.length := by rw [← HN.out]; exact hlt
      cases ao with
      | none => have := HA.out.h0 rfl; rw [this] at hil; simp at hil
      | some a =>
      obtain ⟨A, C, hc1, hb1, hA0, hA1⟩ := HA.out.hc a rfl k hil
      obtain ⟨zs, hzs⟩ : ∃ zs, zs = xs.getD k [] := ⟨_, rfl⟩
      have HZ : Hid (zs = xs.getD k []) := hzs
      have hjt := joined_take xs k hil
      rw [← hzs] at hc1 hA0 hA1 hjt
      have hjl := joined_take_le xs (k + 1)
      have hbnd : (joined (xs.take k)).length + zs.length ≤ 65536 := by
        rw [hjt, List.length_append] at hjl
        by_cases h0 : k = 0
        · rw [if_pos h0] at hjl; omega
        · rw [if_neg h0, List.length_cons] at hjl; omega
      obtain ⟨cur, hcur⟩ : ∃ cur, cur = joined (xs.take k) := ⟨_, rfl⟩
      have HJT : Hid (joined (xs.take (k + 1)) = cur ++ (if k = 0 then zs else 32 :: zs)) := by show _ = _; rw [hjt, hcur]
      have HOc : Hid (Own w.heap.size wr u3 cur) := by show Own _ _ _ _; rw [hcur]; exact HO.out
      rw [← hcur] at hbnd
      have HA1 : Hid (∀ a', A = some a' → ∀ j, j < zs.length → w.cell? (a'.add j) = some (.int .u8 (zs.getD j 0)) ∧ (a'.add j).block < w.heap.size) := hA1
      have HA0 : Hid (A = none → zs = [] ∧ C = 0) := hA0
      clear hzs hcur hA0 hA1 HO hjt hjl
      obtain ⟨m, hm⟩ : ∃ m, m = zs.length := ⟨_, rfl⟩
      have HMm : Hid (m = zs.length) := hm
      rw [← hm] at hc1 hbnd
      clear hm
      have HC1 : Hid (∀ wx, Keep [] w wx → wx.cell? (a.add k) = some (.slice A m C)) := fun wx hx => (hx.old.cell hb1).trans hc1
      clear hc1 hb1
      by_cases hk0 : k = 0
      · have hk0' : ¬ (0 : Int) < (k : Int) := by omega
        have hca := HC1.out wr HK.out
        have HK0 : Hid (k = 0) := hk0
        clear hk0
        go_wp2_with (at_builtin; refine wpList_append_bytes _ rfl (.tmp 29) (.tmp 33) rfl w.heap.size _ cur rfl HOc.out A m C zs rfl HMm.out.symm (fun h => ⟨by rw [HMm.out, (HA0.out h).1]; rfl, (HA0.out h).2⟩) (fun ad had j hj => by rw [HMm.out] at hj; exact (HK.out.old.cell (HA1.out ad had j hj).2).trans (HA1.out ad had j hj).1) (by omega) hsr ?_; intro vd wd hownd hkd; have HOd : Hid (Own w.heap.size wd vd (cur ++ zs)) := hownd; have HKd : Hid (Keep [] w wd) := HK.out.own' HOc.out hkd; clear hownd hkd)
        go_roundg (n - (k + 1))
        case measure => omega
        case rel => exact ⟨k + 1, by go_num, by omega, rfl, by rw [HJT.out, if_pos HK0.out]; exact HOd.out, HKd.out⟩
      · have hk0' : (0 : Int) < (k : Int) := by omega
        go_wp2_with (first
          | (at_builtin; refine wpList_append_bytes _ rfl (.tmp 26) (.tmp 27) rfl w.heap.size _ cur rfl (HOc.out.alloc _) _ 1 1 [32] rfl rfl (fun h => by cases h) (new1 wr 32) (by omega) (by simp; omega) ?_; intro v1 w1 hown1 hk1; have HO1 : Hid (Own w.heap.size w1 v1 (cur ++ [32])) := hown1; have HK1 : Hid (Keep [] w w1) := HK.out.own HOc.out hk1; have hs1 : w.heap.size ≤ w1.heap.size := HK1.out.size; have hca1 := HC1.out w1 HK1.out; clear hown1 hk1)
          | (at_builtin; refine wpList_append_bytes _ rfl (.tmp 29) (.tmp 33) rfl w.heap.size _ (cur ++ [32]) rfl HO1.out A m C zs rfl HMm.out.symm (fun h => ⟨by rw [HMm.out, (HA0.out h).1]; rfl, (HA0.out h).2⟩) (fun ad had j hj => by rw [HMm.out] at hj; exact (HK1.out.old.cell (HA1.out ad had j hj).2).trans (HA1.out ad had j hj).1) (by rw [List.length_append]; simp; omega) hs1 ?_; intro vd wd hownd hkd; have HOd : Hid (Own w.heap.size wd vd (cur ++ [32] ++ zs)) := hownd; have HKd : Hid (Keep [] w wd) := HK1.out.own' HO1.out hkd; clear hownd hkd))
        go_roundg (n - (k + 1))
        case measure => omega
        case rel => exact ⟨k + 1, by go_num, by omega, rfl, by rw [HJT.out, if_neg hk0]; have := HOd.out; rwa [List.append_assoc] at this, HKd.out⟩
    · obtain rfl : k = n := by omega
      have hlt' : ¬ (k : Int) < (k : Int) := by omega
      have HOJ : Hid (Own w.heap.size wr u3 (joined xs)) := by have := HO.out; rwa [HN.out, List.take_length] at this
      have hjb : (joined xs).length ≤ 65534 := by omega
      clear HO
      go_wp2_with (at_builtin; refine wpList_append_bytes _ rfl (.tmp 35) (.tmp 36) rfl w.heap.size _ (joined xs) rfl (HOJ.out.alloc _) _ 2 2 [13, 10] rfl rfl (fun h => by cases h) (new2 wr 13 10) (by omega) (by simp; omega) ?_; intro v3 w3 hown3 hk3; have HO3 : Hid (Own w.heap.size w3 v3 (joined xs ++ [13, 10])) := hown3; have HK3 : Hid (Keep [] w w3) := HK.out.own HOJ.out hk3; clear hown3 hk3)
      obtain ⟨g, cap, f, rfl, hg, hrow, hlc, hcm, hf⟩ := HO3.out.row (by simp)
      obtain ⟨M, hM⟩ : ∃ M, M = (joined xs ++ [13, 10]).length := ⟨_, rfl⟩
      rw [← hM] at hlc hf ⊢
      have HM : Hid (M = (joined xs ++ [13, 10]).length) := hM
      have hMb : M ≤ 65536 := by rw [hM, List.length_append]; simp; omega
      clear hM HO3
      obtain ⟨L, hL⟩ : ∃ L : Lay, L = { B := w.heap.size, bb := w3.heap.size + 1, bf := w3.heap.size + 2, rb := w3.heap.size, sb := g, so := 0, n := M, scap := cap, src := joined xs ++ [13, 10] } := ⟨_, rfl⟩
      have hLn : L.n = M := by rw [hL]
      have hLs : L.src = joined xs ++ [13, 10] := by rw [hL]
      have hLB : L.B = w.heap.size := by rw [hL]
      have hsrc : Src L w3 := by
        rw [hL]
        exact ⟨hrow.lt, fun j hj => by show w3.cell? ⟨g, 0 + j, none⟩ = some (Value.int .u8 ((joined xs ++ [13, 10]).getD j 0)); rw [Nat.zero_add, hrow.cell (i := j) (by show j < cap; have : j < M := hj; omega), hf j hj]⟩
      have hnew := newReader L w3 (by rw [hLB]; exact HK3.out.size) (by rw [hL]) (by rw [hL]) (by rw [hL]) hsrc (by rw [hL]; exact hlc) (by rw [hLn]; omega) (by rw [hLn, hLs, HM.out]) (by rw [hLs]; exact ((joined_bytes xs HX8.out).append crlf_bytes).getD)
      have hsl : (.slice (some ⟨L.sb, L.so, none⟩) L.n L.scap : Value) = .slice (some ⟨g, 0, none⟩) M cap := by rw [hL]
      rw [hsl] at hnew
      have HNEW : Hid (Calls Tryd.prog 19 #[.slice (some ⟨g, 0, none⟩) M cap] w3 fun e w' => e = .returned (.pointer (some ⟨w3.heap.size + 3, 0, none⟩)) ∧ Rdr L (w3.heap.size + 3) w' 0 ∧ Keep [] w3 w' ∧ w'.heap.size = w3.heap.size + 4) := hnew
      have hAt : At L 0 (joined xs ++ [13, 10]) := ⟨by rw [hLn, HM.out]; omega, fun j _ => by rw [hLs, Nat.zero_add]⟩
      have HLB : Hid (L.B = w.heap.size) := hLB
      have HINL : Hid (Inl L 0 xs) := ⟨hAt, by rw [hLn, HM.out, List.length_append]; simp, HD.out.2.2, by rw [← HN.out]; exact hn1, HD.out.1⟩
      clear hnew hsl hsrc hL hLs hLn hLB hrow hf hAt hg
      go_wp2_with fail
      refine HNEW.out.mono ?_
      rintro e w4 ⟨rfl, hR4, hk4, hs4⟩
      obtain ⟨X, hX⟩ : ∃ X, X = w3.heap.size + 3 := ⟨_, rfl⟩
      rw [← hX] at hR4 ⊢
      have HK4 : Hid (Keep [] w w4) := HK3.out.then hk4
      have HR4 : Hid (Rdr L X w4 0) := hR4
      have HAP : Hid (Apart L ∧ L.B ≤ X) := ⟨hR4.rd.ap, hR4.hx⟩
      clear HNEW hR4 hk4 hs4 HK3 hX
      go_wp2_with fail
      by_cases hx0 : xs = []
      · have HX0 : Hid (xs = []) := hx0
        obtain rfl : k = 0 := by rw [HN.out, hx0]; rfl
        clear hx0
        refine (cmd_blank L X w4 0 e0 e1 e3 (HK4.out.env HE.out HLB.out) HR4.out (by have := HINL.out; rwa [HX0.out] at this)).mono ?_
        rintro e w9 ⟨rfl, hk9⟩
        have HK9 : Hid (Keep [] w w9) := HK4.out.lownX hk9 HAP.out.1 HLB.out HAP.out.2
        have hnil := Lib.run_eql_slice_nil (P := Tryd.prog) w9 35 24 none 0 0 0 0 Tryd.underlying35
        clear hk9 HR4 HK4
        go_wp2_with fail
        refine (errCode_eof w9 (HE.out.below HK9.out.old)).mono ?_
        rintro e w9' ⟨rfl, hw⟩
        obtain rfl := hw.symm
        go_wp2_with fail
        go_ret
        exact ⟨rfl, HK9.out.old⟩
      · have hn0 : 0 < k := by rw [HN.out]; exact List.length_pos_iff.2 hx0
        have hn0' : ¬ (k : Int) = 0 := by omega
        have hfirst : L.src.getD 0 0 = (xs.getD 0 []).getD 0 0 := by
          have hxl : 0 < xs.length := List.length_pos_iff.2 hx0
          have hp0 := HD.out.1 0 hxl
          have h1 := HINL.out.at_.left.2 0 (by
            have h2 := (wordAt xs 0 hxl).fit
            have h3 := (wordAt xs 0 hxl).next
            have h4 : 0 < (xs.getD 0 []).length := List.length_pos_iff.2 hp0.1
            omega)
          have h2 := (wordAt xs 0 hxl).word 0 (List.length_pos_iff.2 hp0.1)
          rw [Nat.zero_add] at h1
          rw [h1, ← h2]; rfl
        refine (cmd_inline L X w4 0 xs e0 e1 e3 (HK4.out.env HE.out HLB.out) HR4.out HINL.out hx0 _ hfirst (HD.out.2.1 hx0)).mono ?_
        rintro e w5 ⟨v5, rfl, B5, hG5, hR5, hc5, hk5⟩
        have HK5 : Hid (Keep [] w w5) := HK4.out.lownX hk5 HAP.out.1 HLB.out HAP.out.2
        have HR5 : Hid (Rd L w5 L.n ∧ w5.cell? ⟨X, 0, none⟩ = some (.pointer (some ⟨L.bb, 0, none⟩))) := ⟨hR5, hc5⟩
        have HSA : Hid (Calls Tryd.prog 23 #[v5, .slice ao k c] w5 fun e w' => e = .returned (.bool true) ∧ ∃ n, w' = w5.drewN n) := sameArgs _ _ v5 ao c k xs w5 HN.out hG5 (HA.out.below HK5.out.old) HSX.out (by rw [HN.out]; exact hG5.form)
        clear hG5 hR5 hk5 hc5 HR4 HK4 hx0 hfirst
        go_wp2_with fail
        refine HSA.out.mono ?_
        rintro e w6 ⟨rfl, n6, rfl⟩
        obtain ⟨w6, hw6⟩ : ∃ w6, w6 = w5.drewN n6 := ⟨_, rfl⟩
        have HK6 : Hid (Keep [] w w6) := by show Keep [] w w6; rw [hw6]; exact HK5.out.drewN n6
        have HR6 : Hid (Rd L w6 L.n ∧ w6.cell? ⟨X, 0, none⟩ = some (.pointer (some ⟨L.bb, 0, none⟩))) := by show Rd L w6 _ ∧ _; rw [hw6]; exact ⟨HR5.out.1.keep ((Keep.refl [] w5).drewN n6) (by simp), HR5.out.2⟩
        rw [← hw6]
        clear hw6 HSA HR5 HK5
        go_wp2_with fail
        refine (cmd_eof_raw L X w6 e0 e1 e3 (HK6.out.env HE.out HLB.out) HR6.out.1 HR6.out.2).mono ?_
        rintro e w9 ⟨rfl, hk9⟩
        have HK9 : Hid (Keep [] w w9) := HK6.out.lown hk9 HAP.out.1 HLB.out
        have hnil := Lib.run_eql_slice_nil (P := Tryd.prog) w9 35 24 none 0 0 0 0 Tryd.underlying35
        clear hk9 HR6 HK6
        go_wp2_with fail
        refine (errCode_eof w9 (HE.out.below HK9.out.old)).mono ?_
        rintro e w9' ⟨rfl, hw⟩
        obtain rfl := hw.symm
        go_wp2_with fail
        go_ret
        exact ⟨rfl, HK9.out.old⟩
end Go.Proofs.Qxb6616140aDoor
