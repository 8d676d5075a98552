/- bytesEqual, sameArgs, argsTooBig. -/
import Derived.Test.Qxb6616140aDoorArr
namespace Go.Proofs.Qxb6616140aDoor
open Go.RowKit

def RowIn (w : World) (ao : Option Addr) (zs : List Int) : Prop := zs = [] ∨ ∃ a, ao = some a ∧ ∀ j, j < zs.length → w.cell? (a.add j) = some (.int .u8 (zs.getD j 0))

theorem RowIn.drewN {w : World} {ao : Option Addr} {zs : List Int} (h : RowIn w ao zs) (n : Nat) : RowIn (w.drewN n) ao zs := h

set_option maxRecDepth 100000 in
set_option maxHeartbeats 800000 in
theorem bytesEqual (ao bo : Option Addr) (c d l : Nat) (zs : List Int) (w : World) (hl : l = zs.length) (ha : RowIn w ao zs) (hb : RowIn w bo zs) (hz : l ≤ 1048576) :
    Calls Tryd.prog 16 #[.slice ao l c, .slice bo l d] w fun e w' => e = .returned (.bool true) ∧ ∃ n, w' = w.drewN n := by
  rcases ha with rfl | ⟨a, rfl, ha⟩
  · subst hl
    go_enter Tryd.func16, Tryd.ntmps16
    go_wp2
    refine wp_loop_rounds 1 ?_
    rw [rounds_succ]
    go_wp2
    go_ret
    exact ⟨rfl, 0, rfl⟩
  · by_cases hzs : zs = []
    · subst hzs; subst hl
      go_enter Tryd.func16, Tryd.ntmps16
      go_wp2
      refine wp_loop_rounds 1 ?_
      rw [rounds_succ]
      go_wp2
      go_ret
      exact ⟨rfl, 0, rfl⟩
    · rcases hb with rfl | ⟨b, rfl, hb⟩
      · exact absurd rfl hzs
      · have HA : Hid (∀ j, j < l → w.cell? (a.add j) = some (.int .u8 (zs.getD j 0))) := by rw [hl]; exact ha
        have HB : Hid (∀ j, j < l → w.cell? (b.add j) = some (.int .u8 (zs.getD j 0))) := by rw [hl]; exact hb
        clear ha hb hl
        go_enter Tryd.func16, Tryd.ntmps16
        go_wp2
        go_loopg [5] l (fun gk s5 wr => ∃ k n : Nat, s5 = .int .i64 k ∧ k ≤ l ∧ gk = l - k ∧ wr = w.drewN n)
        case atStart => exact ⟨0, 0, rfl, by omega, rfl, rfl⟩
        case round =>
          obtain ⟨k, n, rfl, hk, hgk, rfl⟩ := hrel
          by_cases hlt : k < l
          · have hlt' : (k : Int) < (l : Int) := by omega
            have c1 := HA.out k hlt
            have c2 := HB.out k hlt
            obtain ⟨y, hy⟩ : ∃ y, y = zs.getD k 0 := ⟨_, rfl⟩
            rw [← hy] at c1 c2
            clear hy
            go_wp2_with fail
            go_quiet (fail)
            go_wp2_with fail
            go_roundg (l - (k + 1))
            case measure => omega
            case rel => exact ⟨k + 1, n + nq, by go_num, by omega, rfl, by simp⟩
          · have hlt' : ¬ (k : Int) < (l : Int) := by omega
            go_wp2_with fail
            go_ret
            exact ⟨rfl, n, rfl⟩

/-- every row's length is bounded, and their number. -/
def Small (zss : List (List Int)) : Prop := zss.length ≤ 1048576 ∧ ∀ i, i < zss.length → (zss.getD i []).length ≤ 1048576

theorem Got.cellAt {B : Nat} {w : World} {v : Value} {zss : List (List Int)} (h : Got B w v zss) (hz : zss ≠ []) :
    ∃ g cap, v = .slice (some ⟨g, 0, none⟩) zss.length cap ∧ ∀ i, i < zss.length → ∃ h N, w.cell? ⟨g, i, none⟩ = some (.slice (some ⟨h, 0, none⟩) (zss.getD i []).length N) ∧ ∀ j, j < (zss.getD i []).length → w.cell? ⟨h, j, none⟩ = some (.int .u8 ((zss.getD i []).getD j 0)) := by
  obtain ⟨vs, h1, h2⟩ := h
  rcases h1.2 with ⟨_, h0⟩ | ⟨g, cap, cur, rfl, hb, hg, hn, hcm, hcs, htake⟩
  · exact absurd (List.eq_nil_of_length_eq_zero h0) hz
  · refine ⟨g, cap, rfl, fun i hi => ?_⟩
    obtain ⟨h, N, f, e1, e2, e3, e4, e5⟩ := h2 i hi
    refine ⟨h, N, ?_, fun j hj => ?_⟩
    · rw [← htake, List.getElem?_take_of_lt (by omega), Array.getElem?_toList] at e1
      rw [cell_of_row w g i cur 24 (0, 0) hg, e1]
    · rw [e3.cell (i := j) (by omega), e5 j hj]

set_option maxRecDepth 100000 in
set_option maxHeartbeats 800000 in
theorem sameArgs (B B2 : Nat) (v : Value) (ao : Option Addr) (c n : Nat) (zss : List (List Int)) (w : World) (hn : n = zss.length) (hG : Got B w v zss) (hM : Mat B2 w ao zss) (hS : Small zss) (hv : ∃ a k, v = .slice a n k) :
    Calls Tryd.prog 23 #[v, .slice ao n c] w fun e w' => e = .returned (.bool true) ∧ ∃ n, w' = w.drewN n := by
  by_cases hz : zss = []
  · obtain ⟨a, k, rfl⟩ := hv
    subst hz; subst hn
    go_enter Tryd.func23, Tryd.ntmps23
    go_wp2
    refine wp_loop_rounds 1 ?_
    rw [rounds_succ]
    go_wp2
    go_ret
    exact ⟨rfl, 0, rfl⟩
  · obtain ⟨g, cap, rfl, hc⟩ := hG.cellAt hz
    rw [← hn]
    cases ao with
    | none => exact absurd (hM.h0 rfl) hz
    | some a =>
    have HM := hM.hc a rfl
    have HC : Hid (∀ i, i < n → ∃ h N A C, w.cell? ⟨g, i, none⟩ = some (.slice (some ⟨h, 0, none⟩) (zss.getD i []).length N) ∧ w.cell? (a.add i) = some (.slice A (zss.getD i []).length C) ∧ RowIn w (some ⟨h, 0, none⟩) (zss.getD i []) ∧ RowIn w A (zss.getD i []) ∧ (zss.getD i []).length ≤ 1048576) := by
      intro i hi
      rw [hn] at hi
      obtain ⟨h, N, e1, e2⟩ := hc i hi
      obtain ⟨A, C, f1, _, f2, f3⟩ := HM i hi
      refine ⟨h, N, A, C, e1, f1, .inr ⟨_, rfl, fun j hj => by rw [WideShapes.add_plain, Nat.zero_add]; exact e2 j hj⟩, ?_, hS.2 i hi⟩
      cases A with
      | none => exact .inl (f2 rfl).1
      | some a' => exact .inr ⟨a', rfl, fun j hj => (f3 a' rfl j hj).1⟩
    have hnb : n ≤ 1048576 := by rw [hn]; exact hS.1
    clear HM hc hG hM hS hn hv
    go_enter Tryd.func23, Tryd.ntmps23
    go_wp2
    go_loopg [5] n (fun gk s5 wr => ∃ k m : Nat, s5 = .int .i64 k ∧ k ≤ n ∧ gk = n - k ∧ wr = w.drewN m)
    case atStart => exact ⟨0, 0, rfl, by omega, rfl, rfl⟩
    case round =>
      obtain ⟨k, m, rfl, hk, hgk, hwr⟩ := hrel
      have HWR : Hid (wr = w.drewN m) := hwr
      by_cases hlt : k < n
      · have hlt' : (k : Int) < (n : Int) := by omega
        obtain ⟨h, N, A, C, e1, e2, r1, r2, hl⟩ := HC.out k hlt
        obtain ⟨zs, hzs⟩ : ∃ zs, zs = zss.getD k [] := ⟨_, rfl⟩
        rw [← hzs] at e1 e2 r1 r2 hl
        obtain ⟨l, hll⟩ : ∃ l, l = zs.length := ⟨_, rfl⟩
        rw [← hll] at e1 e2 hl
        replace e1 : wr.cell? ⟨g, k, none⟩ = some (.slice (some ⟨h, 0, none⟩) l N) := by rw [hwr]; exact e1
        replace e2 : wr.cell? (a.add k) = some (.slice A l C) := by rw [hwr]; exact e2
        replace r1 : RowIn wr (some ⟨h, 0, none⟩) zs := by rw [hwr]; exact r1
        replace r2 : RowIn wr A zs := by rw [hwr]; exact r2
        have HEQ : Hid (∀ r, Calls Tryd.prog 16 #[.slice (some ⟨h, 0, none⟩) l N, .slice A l C] (wr.drewN r) fun e w' => e = .returned (.bool true) ∧ ∃ n, w' = (wr.drewN r).drewN n) := fun r => bytesEqual _ _ N C l zs (wr.drewN r) hll r1 r2 hl
        clear r1 r2 hll hzs hl hwr
        go_wp2_with fail
        go_quiet ((go_at_call 16; exact Calls.quiet_of (HEQ.out _)))
        go_wp2_with fail
        go_roundg (n - (k + 1))
        case measure => omega
        case rel => exact ⟨k + 1, m + nq, by go_num, by omega, rfl, by rw [HWR.out]; simp⟩
      · have hlt' : ¬ (k : Int) < (n : Int) := by omega
        go_wp2_with fail
        go_ret
        exact ⟨rfl, m, rfl⟩

/-- all bytes of the rows -/
def total (zss : List (List Int)) : Nat := (zss.map List.length).sum

theorem total_snoc (zss : List (List Int)) (k : Nat) (hk : k < zss.length) : total (zss.take (k + 1)) = total (zss.take k) + (zss.getD k []).length := by
  have e : zss.take (k + 1) = zss.take k ++ [zss.getD k []] := by
    rw [List.take_add_one, List.getElem?_eq_getElem hk]
    simp [List.getD, List.getElem?_eq_getElem hk]
  rw [total, total, e, List.map_append, List.sum_append]
  simp

theorem Mat.row {B : Nat} {w : World} {ao : Option Addr} {zss : List (List Int)} (h : Mat B w ao zss) (k : Nat) (hk : k < zss.length) : ∃ a A C, ao = some a ∧ w.cell? (a.add k) = some (.slice A (zss.getD k []).length C) := by
  cases ao with
  | none => have := h.h0 rfl; rw [this] at hk; simp at hk
  | some a => obtain ⟨A, C, h1, _⟩ := h.hc a rfl k hk; exact ⟨a, A, C, rfl, h1⟩

/-- what argsTooBig answers: too big; or the bounds. -/
def BigAns (e : Ending) (n lim : Nat) (zss : List (List Int)) : Prop := e = .returned (.bool true) ∨ (e = .returned (.bool false) ∧ n ≤ 65536 ∧ 8 * n + total zss ≤ lim)

set_option maxRecDepth 100000 in
set_option maxHeartbeats 800000 in
theorem argsTooBig (B : Nat) (ao : Option Addr) (c n lim : Nat) (zss : List (List Int)) (w : World) (hn : n = zss.length) (hM : Mat B w ao zss) (hS : Small zss) (hlim : lim ≤ 1048576) :
    Calls Tryd.prog 18 #[.slice ao n c, .int .i64 lim] w fun e w' => BigAns e n lim zss ∧ w' = w := by
  have HM : Hid (Mat B w ao zss) := hM
  have HS : Hid (Small zss) := hS
  have HN : Hid (n = zss.length) := hn
  have hnb : n ≤ 1048576 := by rw [hn]; exact hS.1
  clear hM hS hn
  by_cases hbig : 65536 < n
  · go_enter Tryd.func18, Tryd.ntmps18
    go_wp2
    go_ret
    exact ⟨.inl rfl, rfl⟩
  · have hbig' : ¬ (65536 : Int) < (n : Int) := by omega
    go_enter Tryd.func18, Tryd.ntmps18
    go_wp2
    go_loopg [5, 6] n (fun gk s5 s6 wr => ∃ k : Nat, s5 = .int .i64 ((8 * n + total (zss.take k) : Nat) : Int) ∧ s6 = .int .i64 k ∧ k ≤ n ∧ gk = n - k ∧ 8 * n + total (zss.take k) ≤ 2097152 ∧ wr = w)
    case atStart => exact ⟨0, by simp [total], rfl, by omega, rfl, by simp [total]; omega, rfl⟩
    case round =>
      obtain ⟨k, rfl, rfl, hk, hgk, hb, rfl⟩ := hrel
      obtain ⟨T, hT⟩ : ∃ T, T = 8 * n + total (zss.take k) := ⟨_, rfl⟩
      rw [← hT] at hb ⊢
      by_cases hlt : k < n
      · have hlt' : (k : Int) < (n : Int) := by omega
        have hkz : k < zss.length := by rw [← HN.out]; exact hlt
        obtain ⟨a, A, C, rfl, hc⟩ := HM.out.row k hkz
        have hz := HS.out.2 k hkz
        have hsn := total_snoc zss k hkz
        obtain ⟨l, hl⟩ : ∃ l, l = (zss.getD k []).length := ⟨_, rfl⟩
        rw [← hl] at hc hz hsn
        have HT : Hid (T + l = 8 * n + total (zss.take (k + 1))) := by show _ = _; omega
        clear hsn hl hT
        by_cases hov : T + l ≤ lim
        · have hov' : ¬ (lim : Int) < (T : Int) + (l : Int) := by omega
          go_wp2_with fail
          go_roundg (n - (k + 1))
          case measure => omega
          case rel => exact ⟨k + 1, by rw [← HT.out]; go_num, by go_num, by omega, rfl, by rw [← HT.out]; omega, rfl⟩
        · have hov' : (lim : Int) < (T : Int) + (l : Int) := by omega
          go_wp2_with fail
          go_ret
          exact ⟨.inl rfl, rfl⟩
      · obtain rfl : k = n := by omega
        have hT2 : T = 8 * k + total zss := by rw [hT, HN.out, List.take_length]
        have HT2 : Hid (T = 8 * k + total zss) := hT2
        clear hT hT2
        by_cases hov : T ≤ lim
        · have hov' : ¬ (lim : Int) < (T : Int) := by omega
          go_wp2_with fail
          go_ret
          exact ⟨.inr ⟨rfl, by omega, by rw [← HT2.out]; exact hov⟩, rfl⟩
        · have hov' : (lim : Int) < (T : Int) := by omega
          go_wp2_with fail
          go_ret
          exact ⟨.inl rfl, rfl⟩
end Go.Proofs.Qxb6616140aDoor
