/- isSpace; wordsInDomain. -/
import Derived.Test.Qxb6616140aDoorSame
namespace Go.Proofs.Qxb6616140aDoor
open Go.RowKit

set_option maxRecDepth 100000 in
theorem isSpace_yes (w : World) : Calls Tryd.prog 66 #[.int .u8 32] w fun e w' => e = .returned (.bool true) ∧ w' = w := by
  go_enter Tryd.func66, Tryd.ntmps66
  go_wp2_with fail
  go_ret
  exact ⟨rfl, rfl⟩

set_option maxRecDepth 100000 in
theorem isSpace_no (z : Int) (w : World) (h1 : (z == 32) = false) (h2 : (z == 9) = false) (h3 : (z == 13) = false) (h4 : (z == 11) = false) (h5 : (z == 12) = false) : Calls Tryd.prog 66 #[.int .u8 z] w fun e w' => e = .returned (.bool false) ∧ w' = w := by
  go_enter Tryd.func66, Tryd.ntmps66
  go_wp2_with fail
  go_ret
  exact ⟨rfl, rfl⟩

/-- a byte that neither parts words nor quotes -/
structure Good (z : Int) : Prop where
  n32 : (z == 32) = false
  n9 : (z == 9) = false
  n13 : (z == 13) = false
  n11 : (z == 11) = false
  n12 : (z == 12) = false
  n10 : (z == 10) = false
  n34 : (z == 34) = false
  n39 : (z == 39) = false

/-- a word -/
def Plain (zs : List Int) : Prop := zs ≠ [] ∧ ∀ j, j < zs.length → Good (zs.getD j 0)

/-- the words with a space between each two -/
def joined : List (List Int) → List Int
  | [] => []
  | u :: us => u ++ us.flatMap (fun v => 32 :: v)

theorem joined_snoc (us : List (List Int)) (v : List Int) : joined (us ++ [v]) = joined us ++ (if us = [] then v else 32 :: v) := by
  cases us with
  | nil => simp [joined]
  | cons a us => simp [joined]

theorem take_snoc2 (zss : List (List Int)) (k : Nat) (hk : k < zss.length) : zss.take (k + 1) = zss.take k ++ [zss.getD k []] := by
  rw [List.take_add_one, List.getElem?_eq_getElem hk]
  simp [List.getD, List.getElem?_eq_getElem hk]

theorem joined_take (zss : List (List Int)) (k : Nat) (hk : k < zss.length) : joined (zss.take (k + 1)) = joined (zss.take k) ++ (if k = 0 then zss.getD k [] else 32 :: zss.getD k []) := by
  rw [take_snoc2 zss k hk, joined_snoc]
  by_cases h : k = 0
  · subst h; simp
  · have : zss.take k ≠ [] := by
      intro e
      have := congrArg List.length e
      rw [List.length_take, List.length_nil] at this
      omega
    rw [if_neg this, if_neg h]

theorem joined_le (zss : List (List Int)) : (joined zss).length ≤ total zss + zss.length := by
  cases zss with
  | nil => simp [joined]
  | cons a us =>
    have : ∀ us : List (List Int), (us.flatMap (fun v => (32 : Int) :: v)).length ≤ total us + us.length := by
      intro us
      induction us with
      | nil => simp
      | cons b us ih => simp only [List.flatMap_cons, List.length_append, List.length_cons, total, List.map_cons, List.sum_cons] at ih ⊢; omega
    have h := this us
    simp only [joined, List.length_append, List.length_cons, total, List.map_cons, List.sum_cons] at h ⊢
    omega

def DomAns (e : Ending) (zss : List (List Int)) : Prop := e = .returned (.bool false) ∨ (e = .returned (.bool true) ∧ (∀ i, i < zss.length → Plain (zss.getD i [])) ∧ (zss ≠ [] → (zss.getD 0 []).getD 0 0 ≠ 42) ∧ (joined zss).length + 2 ≤ 65536)

set_option maxRecDepth 100000 in
set_option maxHeartbeats 1600000 in
theorem wordsInDomain (B : Nat) (ao : Option Addr) (c n : Nat) (zss : List (List Int)) (w : World) (hn : n = zss.length) (hM : Mat B w ao zss) (hS : Small zss) (ht : total zss ≤ 1048576) :
    Calls Tryd.prog 25 #[.slice ao n c] w fun e w' => DomAns e zss ∧ w' = w := by
  have HM : Hid (Mat B w ao zss) := hM
  have HS : Hid (Small zss) := hS
  have HN : Hid (n = zss.length) := hn
  have hnb : n ≤ 1048576 := by rw [hn]; exact hS.1
  have HJ : Hid (∀ k, k ≤ n → (joined (zss.take k)).length ≤ 2097152) := fun k hk => by
    have h1 := joined_le (zss.take k)
    have h2 : total (zss.take k) ≤ total zss := by
      have : total zss = total (zss.take k) + total (zss.drop k) := by rw [total, total, total, ← List.sum_append, ← List.map_append, List.take_append_drop]
      omega
    have h3 : (zss.take k).length ≤ n := by rw [hn, List.length_take]; omega
    omega
  clear hM hS hn ht
  go_enter Tryd.func25, Tryd.ntmps25
  go_wp2_with fail
  go_loopg [3, 4] n (fun gk s3 s4 wr => ∃ k T : Nat, s3 = .int .i64 (T : Int) ∧ s4 = .int .i64 k ∧ k ≤ n ∧ gk = n - k ∧ T = 2 + (joined (zss.take k)).length ∧ (∀ i, i < k → Plain (zss.getD i [])) ∧ wr = w)
  case atStart => exact ⟨0, 2, rfl, rfl, by omega, rfl, by simp [joined], fun i hi => by omega, rfl⟩
  case round =>
    obtain ⟨k, T, rfl, rfl, hk, hgk, hT, hpl, rfl⟩ := hrel
    have HPL : Hid (∀ i, i < k → Plain (zss.getD i [])) := hpl
    have HT : Hid (T = 2 + (joined (zss.take k)).length) := hT
    have hTb : T ≤ 2097154 := by have := HJ.out k hk; omega
    clear hpl hT
    by_cases hlt : k < n
    · have hlt' : (k : Int) < (n : Int) := by omega
      have hkz : k < zss.length := by rw [← HN.out]; exact hlt
      cases ao with
      | none => have := HM.out.h0 rfl; rw [this] at hkz; simp at hkz
      | some a =>
      obtain ⟨A, C, hc1, hb1, hA0, hA1⟩ := HM.out.hc a rfl k hkz
      obtain ⟨zs, hzs⟩ : ∃ zs, zs = zss.getD k [] := ⟨_, rfl⟩
      obtain ⟨l, hl⟩ : ∃ l, l = zs.length := ⟨_, rfl⟩
      have hlb : l ≤ 1048576 := by rw [hl, hzs]; exact HS.out.2 k hkz
      rw [← hzs] at hc1 hA0 hA1
      rw [← hl] at hc1
      have HZ : Hid (zs = zss.getD k []) := hzs
      have HL : Hid (l = zs.length) := hl
      have HA0 : Hid (A = none → zs = [] ∧ C = 0) := hA0
      have HA1 : Hid (∀ a', A = some a' → ∀ j, j < zs.length → wr.cell? (a'.add j) = some (.int .u8 (zs.getD j 0)) ∧ (a'.add j).block < B) := hA1
      clear hzs hl hA0 hA1 hb1
      by_cases hl0 : l = 0
      · subst hl0
        go_wp2_with fail
        go_ret
        exact ⟨.inl rfl, rfl⟩
      have hl0' : ¬ (l : Int) = 0 := by omega
      cases A with
      | none => have h1 := (HA0.out rfl).1; have h2 := HL.out; rw [h1] at h2; exact absurd h2 hl0
      | some a1 =>
      have HC : Hid (∀ j, j < l → wr.cell? (a1.add j) = some (.int .u8 (zs.getD j 0))) := fun j hj => (HA1.out a1 rfl j (by rw [← HL.out]; exact hj)).1
      clear HA0 HA1
      obtain ⟨w0, hw0⟩ : ∃ w0, w0 = wr := ⟨_, rfl⟩
      have HGK : Hid (gk = n - k) := hgk
      clear hgk
      go_wp2_with fail
      go_loopg [6] l (fun gk2 s6 w2 => ∃ j : Nat, s6 = .int .i64 j ∧ j ≤ l ∧ gk2 = l - j ∧ (∀ i, i < j → Good (zs.getD i 0)) ∧ w2 = w0)
      case atStart => exact ⟨0, rfl, by omega, rfl, fun i hi => by omega, hw0.symm⟩
      case round =>
        obtain ⟨j, rfl, hj, hgj, hgd, hw2⟩ := hrel
        rw [hw0] at hw2
        subst hw2
        have HGD : Hid (∀ i, i < j → Good (zs.getD i 0)) := hgd
        clear hgd
        by_cases hjl : j < l
        · have hjl' : (j : Int) < (l : Int) := by omega
          have cz := HC.out j hjl
          obtain ⟨z, hz⟩ : ∃ z, z = zs.getD j 0 := ⟨_, rfl⟩
          have HZj : Hid (z = zs.getD j 0) := hz
          rw [← hz] at cz
          clear hz
          by_cases hbad : z = 32 ∨ z = 9 ∨ z = 13 ∨ z = 11 ∨ z = 12 ∨ z = 10 ∨ z = 34 ∨ z = 39
          · clear HZj
            rcases hbad with rfl | rfl | rfl | rfl | rfl | rfl | rfl | rfl
            all_goals
              go_wp2_with fail
              go_ret
              exact ⟨.inl rfl, rfl⟩
          · have b1 : (z == 32) = false := beq_eq_false_iff_ne.2 fun e => hbad (by simp [e])
            have b2 : (z == 9) = false := beq_eq_false_iff_ne.2 fun e => hbad (by simp [e])
            have b3 : (z == 13) = false := beq_eq_false_iff_ne.2 fun e => hbad (by simp [e])
            have b4 : (z == 11) = false := beq_eq_false_iff_ne.2 fun e => hbad (by simp [e])
            have b5 : (z == 12) = false := beq_eq_false_iff_ne.2 fun e => hbad (by simp [e])
            have b6 : (z == 10) = false := beq_eq_false_iff_ne.2 fun e => hbad (by simp [e])
            have b7 : (z == 34) = false := beq_eq_false_iff_ne.2 fun e => hbad (by simp [e])
            have b8 : (z == 39) = false := beq_eq_false_iff_ne.2 fun e => hbad (by simp [e])
            clear hbad
            go_wp2_with fail
            go_roundg (l - (j + 1))
            case measure => omega
            case rel =>
              refine ⟨j + 1, by go_num, by omega, rfl, fun i hi => ?_, hw0.symm⟩
              by_cases e : i = j
              · subst e; rw [← HZj.out]; exact ⟨b1, b2, b3, b4, b5, b6, b7, b8⟩
              · exact HGD.out i (by omega)
        · obtain rfl : j = l := by omega
          have hjl' : ¬ (j : Int) < (j : Int) := by omega
          have hpk : Plain (zss.getD k []) := by
            rw [← HZ.out]
            exact ⟨fun e => hl0 (by rw [HL.out, e]; rfl), fun i hi => HGD.out i (by rw [HL.out]; exact hi)⟩
          have hjt := joined_take zss k hkz
          rw [← HZ.out] at hjt
          by_cases hk0 : k = 0
          · subst hk0
            go_wp2_with fail
            go_roundg (n - 1)
            case measure => rw [HGK.out]; omega
            case rel =>
              refine ⟨1, T + j, by go_num, by go_num, by omega, rfl, ?_, fun i hi => ?_, rfl⟩
              · rw [hjt, HT.out, HL.out]; simp; omega
              · obtain rfl : i = 0 := by omega
                exact hpk
          · have hk0' : (0 : Int) < (k : Int) := by omega
            go_wp2_with fail
            go_roundg (n - (k + 1))
            case measure => rw [HGK.out]; omega
            case rel =>
              refine ⟨k + 1, T + j + 1, by go_num, by go_num, by omega, rfl, ?_, fun i hi => ?_, rfl⟩
              · rw [hjt, HT.out, HL.out, if_neg hk0]; simp; omega
              · by_cases e : i = k
                · subst e; exact hpk
                · exact HPL.out i (by omega)
    · obtain rfl : k = n := by omega
      have hlt' : ¬ (k : Int) < (k : Int) := by omega
      have hall : ∀ i, i < zss.length → Plain (zss.getD i []) := fun i hi => HPL.out i (by rw [HN.out]; exact hi)
      have hlen : T = 2 + (joined zss).length := by have := HT.out; rwa [HN.out, List.take_length] at this
      have HF : Hid ((∀ i, i < zss.length → Plain (zss.getD i [])) ∧ T = 2 + (joined zss).length) := ⟨hall, hlen⟩
      clear hall hlen
      by_cases hk0 : k = 0
      · subst hk0
        have hz0 : zss = [] := List.eq_nil_of_length_eq_zero HN.out.symm
        have HZ0 : Hid (zss = []) := hz0
        have hT2 : T = 2 := by have := HF.out.2; rw [hz0] at this; simpa [joined] using this
        subst hT2
        clear hz0
        go_wp2_with fail
        go_ret
        exact ⟨.inr ⟨rfl, HF.out.1, fun h => absurd HZ0.out h, by rw [HZ0.out]; simp [joined]⟩, rfl⟩
      · have hk0' : (0 : Int) < (k : Int) := by omega
        have hkz : 0 < zss.length := by rw [← HN.out]; omega
        cases ao with
        | none => have := HM.out.h0 rfl; rw [this] at hkz; simp at hkz
        | some a =>
        obtain ⟨A, C, hc1, hb1, hA0, hA1⟩ := HM.out.hc a rfl 0 hkz
        have hp0 := HF.out.1 0 hkz
        have hl0 : 0 < (zss.getD 0 []).length := List.length_pos_iff.2 hp0.1
        cases A with
        | none => exact absurd (hA0 rfl).1 hp0.1
        | some a1 =>
        have cz := (hA1 a1 rfl 0 hl0).1
        rw [Addr.add_zero'] at cz hc1
        obtain ⟨z, hz⟩ : ∃ z, z = (zss.getD 0 []).getD 0 0 := ⟨_, rfl⟩
        have HZj : Hid (z = (zss.getD 0 []).getD 0 0) := hz
        rw [← hz] at cz
        obtain ⟨l, hl⟩ : ∃ l, l = (zss.getD 0 []).length := ⟨_, rfl⟩
        rw [← hl] at hl0 hc1
        have hl0' : (0 : Int) < (l : Int) := by omega
        clear hz hA0 hA1 hb1 hp0 hl
        by_cases hstar : z = 42
        · subst hstar
          go_wp2_with fail
          go_ret
          exact ⟨.inl rfl, rfl⟩
        · by_cases hbig : T ≤ 65536
          · have hbig' : (T : Int) ≤ 65536 := by omega
            go_wp2_with fail
            go_ret
            exact ⟨.inr ⟨rfl, HF.out.1, fun _ => by rw [← HZj.out]; exact hstar, by have := HF.out.2; omega⟩, rfl⟩
          · have hbig' : ¬ (T : Int) ≤ 65536 := by omega
            go_wp2_with fail
            go_ret
            exact ⟨.inl rfl, rfl⟩
end Go.Proofs.Qxb6616140aDoor
