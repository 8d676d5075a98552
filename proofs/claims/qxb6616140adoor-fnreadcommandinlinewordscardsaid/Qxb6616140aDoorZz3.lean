/- zzBytes_* of the laws on ReadCommand. -/
import Derived.Test.Qxb6616140aDoorZz2
namespace Go.Proofs.Qxb6616140aDoor
open Go.RowKit

set_option maxRecDepth 100000 in
set_option maxHeartbeats 800000 in
theorem zzOne (B : Nat) (ao : Option Addr) (c n : Nat) (xs : List (List Int)) (w : World) (hn : n = xs.length) (hA : Mat B w ao xs) (hnb : n ≤ 9223372036854775807)
    (hnr : ∀ i, i < xs.length → (xs.getD i []).length ≤ 9223372036854775807) :
    Calls Tryd.prog 17 #[.slice ao n c] w fun e w' => ZzAns e xs [] ∧ w' = w := by
  have HA : Hid (Mat B w ao xs) := hA
  have HN : Hid (n = xs.length) := hn
  have HNR : Hid (∀ i, i < xs.length → (xs.getD i []).length ≤ 9223372036854775807) := hnr
  clear hA hn hnr
  by_cases hbig : 1048576 < n
  · go_enter Tryd.func17, Tryd.ntmps17
    go_wp2
    go_ret
    exact ⟨.inl rfl, rfl⟩
  · have hbig' : ¬ (1048576 : Int) < (n : Int) := by omega
    go_enter Tryd.func17, Tryd.ntmps17
    go_wp2
    go_loopg [3, 4] n (fun gk s5 s6 wr => ∃ k T : Nat, s5 = .int .i64 (T : Int) ∧ s6 = .int .i64 k ∧ k ≤ n ∧ gk = n - k ∧ T ≤ 1048576 ∧ (∀ i, i < k → (xs.getD i []).length ≤ 1048576) ∧ wr = w)
    case atStart => exact ⟨0, n, rfl, rfl, by omega, rfl, by omega, fun i hi => by omega, rfl⟩
    case round =>
      obtain ⟨k, T, rfl, rfl, hk, hgk, hT, hsm, rfl⟩ := hrel
      have HSM : Hid (∀ i, i < k → (xs.getD i []).length ≤ 1048576) := hsm
      clear hsm
      by_cases hlt : k < n
      · have hlt' : (k : Int) < (n : Int) := by omega
        have hkz : k < xs.length := by rw [← HN.out]; exact hlt
        obtain ⟨a, A, C, rfl, hc⟩ := HA.out.row k hkz
        obtain ⟨l, hl⟩ : ∃ l, l = (xs.getD k []).length := ⟨_, rfl⟩
        have hlr := HNR.out k hkz
        rw [← hl] at hc hlr
        have HL : Hid (l = (xs.getD k []).length) := hl
        clear hl
        by_cases h1 : 1048576 < l
        · have h1' : (1048576 : Int) < (l : Int) := by omega
          go_wp2_with fail
          go_ret
          exact ⟨.inl rfl, rfl⟩
        · have h1' : ¬ (1048576 : Int) < (l : Int) := by omega
          by_cases h2 : 1048576 < T + l
          · have h2' : (1048576 : Int) < (T : Int) + (l : Int) := by omega
            go_wp2_with fail
            go_ret
            exact ⟨.inl rfl, rfl⟩
          · have h2' : ¬ (1048576 : Int) < (T : Int) + (l : Int) := by omega
            go_wp2_with fail
            go_roundg (n - (k + 1))
            case measure => omega
            case rel => exact ⟨k + 1, T + l, by go_num, by go_num, by omega, rfl, by omega, fun i hi => by by_cases e : i = k; subst e; rw [← HL.out]; omega; exact HSM.out i (by omega), rfl⟩
      · obtain rfl : k = n := by omega
        have hs1 : Small xs := ⟨by rw [← HN.out]; omega, fun i hi => HSM.out i (by rw [HN.out]; exact hi)⟩
        have hlt' : ¬ (k : Int) < (k : Int) := by omega
        go_wp2_with fail
        go_ret
        exact ⟨.inr ⟨rfl, hs1, ⟨by simp, fun i hi => by simp at hi⟩⟩, rfl⟩

set_option maxRecDepth 100000 in
set_option maxHeartbeats 800000 in
theorem zzWords (B : Nat) (ao : Option Addr) (c n : Nat) (xs : List (List Int)) (w : World) (hn : n = xs.length) (hA : Mat B w ao xs) (hnb : n ≤ 9223372036854775807)
    (hnr : ∀ i, i < xs.length → (xs.getD i []).length ≤ 9223372036854775807) :
    Calls Tryd.prog 24 #[.slice ao n c] w fun e w' => ZzAns e xs [] ∧ w' = w := by
  have HA : Hid (Mat B w ao xs) := hA
  have HN : Hid (n = xs.length) := hn
  have HNR : Hid (∀ i, i < xs.length → (xs.getD i []).length ≤ 9223372036854775807) := hnr
  clear hA hn hnr
  by_cases hbig : 1048576 < n
  · go_enter Tryd.func24, Tryd.ntmps24
    go_wp2
    go_ret
    exact ⟨.inl rfl, rfl⟩
  · have hbig' : ¬ (1048576 : Int) < (n : Int) := by omega
    go_enter Tryd.func24, Tryd.ntmps24
    go_wp2
    go_loopg [3, 4] n (fun gk s5 s6 wr => ∃ k T : Nat, s5 = .int .i64 (T : Int) ∧ s6 = .int .i64 k ∧ k ≤ n ∧ gk = n - k ∧ T ≤ 1048576 ∧ (∀ i, i < k → (xs.getD i []).length ≤ 1048576) ∧ wr = w)
    case atStart => exact ⟨0, n, rfl, rfl, by omega, rfl, by omega, fun i hi => by omega, rfl⟩
    case round =>
      obtain ⟨k, T, rfl, rfl, hk, hgk, hT, hsm, rfl⟩ := hrel
      have HSM : Hid (∀ i, i < k → (xs.getD i []).length ≤ 1048576) := hsm
      clear hsm
      by_cases hlt : k < n
      · have hlt' : (k : Int) < (n : Int) := by omega
        have hkz : k < xs.length := by rw [← HN.out]; exact hlt
        obtain ⟨a, A, C, rfl, hc⟩ := HA.out.row k hkz
        obtain ⟨l, hl⟩ : ∃ l, l = (xs.getD k []).length := ⟨_, rfl⟩
        have hlr := HNR.out k hkz
        rw [← hl] at hc hlr
        have HL : Hid (l = (xs.getD k []).length) := hl
        clear hl
        by_cases h1 : 1048576 < l
        · have h1' : (1048576 : Int) < (l : Int) := by omega
          go_wp2_with fail
          go_ret
          exact ⟨.inl rfl, rfl⟩
        · have h1' : ¬ (1048576 : Int) < (l : Int) := by omega
          by_cases h2 : 1048576 < T + l
          · have h2' : (1048576 : Int) < (T : Int) + (l : Int) := by omega
            go_wp2_with fail
            go_ret
            exact ⟨.inl rfl, rfl⟩
          · have h2' : ¬ (1048576 : Int) < (T : Int) + (l : Int) := by omega
            go_wp2_with fail
            go_roundg (n - (k + 1))
            case measure => omega
            case rel => exact ⟨k + 1, T + l, by go_num, by go_num, by omega, rfl, by omega, fun i hi => by by_cases e : i = k; subst e; rw [← HL.out]; omega; exact HSM.out i (by omega), rfl⟩
      · obtain rfl : k = n := by omega
        have hs1 : Small xs := ⟨by rw [← HN.out]; omega, fun i hi => HSM.out i (by rw [HN.out]; exact hi)⟩
        have hlt' : ¬ (k : Int) < (k : Int) := by omega
        go_wp2_with fail
        go_ret
        exact ⟨.inr ⟨rfl, hs1, ⟨by simp, fun i hi => by simp at hi⟩⟩, rfl⟩

set_option maxRecDepth 100000 in
set_option maxHeartbeats 800000 in
theorem zzThree (cv : Value) (B : Nat) (ao bo : Option Addr) (c d n m : Nat) (xs ys : List (List Int)) (w : World) (hn : n = xs.length) (hm : m = ys.length) (hA : Mat B w ao xs) (hB : Mat B w bo ys) (hnb : n ≤ 9223372036854775807) (hmb : m ≤ 9223372036854775807)
    (hnr : ∀ i, i < xs.length → (xs.getD i []).length ≤ 9223372036854775807) (hmr : ∀ i, i < ys.length → (ys.getD i []).length ≤ 9223372036854775807) :
    Calls Tryd.prog 30 #[.slice ao n c, .slice bo m d, cv] w fun e w' => ZzAns e xs ys ∧ w' = w := by
  have HA : Hid (Mat B w ao xs) := hA
  have HB : Hid (Mat B w bo ys) := hB
  have HN : Hid (n = xs.length) := hn
  have HMm : Hid (m = ys.length) := hm
  have HNR : Hid (∀ i, i < xs.length → (xs.getD i []).length ≤ 9223372036854775807) := hnr
  have HMR : Hid (∀ i, i < ys.length → (ys.getD i []).length ≤ 9223372036854775807) := hmr
  clear hA hB hn hm hnr hmr
  by_cases hbig : 1048576 < n
  · go_enter Tryd.func30, Tryd.ntmps30
    go_wp2
    go_ret
    exact ⟨.inl rfl, rfl⟩
  · have hbig' : ¬ (1048576 : Int) < (n : Int) := by omega
    go_enter Tryd.func30, Tryd.ntmps30
    go_wp2
    go_loopg [7, 8] n (fun gk s5 s6 wr => ∃ k T : Nat, s5 = .int .i64 (T : Int) ∧ s6 = .int .i64 k ∧ k ≤ n ∧ gk = n - k ∧ T ≤ 1048576 ∧ (∀ i, i < k → (xs.getD i []).length ≤ 1048576) ∧ wr = w)
    case atStart => exact ⟨0, n, rfl, rfl, by omega, rfl, by omega, fun i hi => by omega, rfl⟩
    case round =>
      obtain ⟨k, T, rfl, rfl, hk, hgk, hT, hsm, rfl⟩ := hrel
      have HSM : Hid (∀ i, i < k → (xs.getD i []).length ≤ 1048576) := hsm
      clear hsm
      by_cases hlt : k < n
      · have hlt' : (k : Int) < (n : Int) := by omega
        have hkz : k < xs.length := by rw [← HN.out]; exact hlt
        obtain ⟨a, A, C, rfl, hc⟩ := HA.out.row k hkz
        obtain ⟨l, hl⟩ : ∃ l, l = (xs.getD k []).length := ⟨_, rfl⟩
        have hlr := HNR.out k hkz
        rw [← hl] at hc hlr
        have HL : Hid (l = (xs.getD k []).length) := hl
        clear hl
        by_cases h1 : 1048576 < l
        · have h1' : (1048576 : Int) < (l : Int) := by omega
          go_wp2_with fail
          go_ret
          exact ⟨.inl rfl, rfl⟩
        · have h1' : ¬ (1048576 : Int) < (l : Int) := by omega
          by_cases h2 : 1048576 < T + l
          · have h2' : (1048576 : Int) < (T : Int) + (l : Int) := by omega
            go_wp2_with fail
            go_ret
            exact ⟨.inl rfl, rfl⟩
          · have h2' : ¬ (1048576 : Int) < (T : Int) + (l : Int) := by omega
            go_wp2_with fail
            go_roundg (n - (k + 1))
            case measure => omega
            case rel => exact ⟨k + 1, T + l, by go_num, by go_num, by omega, rfl, by omega, fun i hi => by by_cases e : i = k; subst e; rw [← HL.out]; omega; exact HSM.out i (by omega), rfl⟩
      · obtain rfl : k = n := by omega
        have hs1 : Small xs := ⟨by rw [← HN.out]; omega, fun i hi => HSM.out i (by rw [HN.out]; exact hi)⟩
        by_cases hbig2 : 1048576 < m
        · have hb' : (1048576 : Int) < (m : Int) := by omega
          go_wp2_with fail
          go_ret
          exact ⟨.inl rfl, rfl⟩
        · have hb' : ¬ (1048576 : Int) < (m : Int) := by omega
          by_cases hb2 : 1048576 < T + m
          · have hb2' : (1048576 : Int) < (T : Int) + (m : Int) := by omega
            go_wp2_with fail
            go_ret
            exact ⟨.inl rfl, rfl⟩
          · have hb2' : ¬ (1048576 : Int) < (T : Int) + (m : Int) := by omega
            obtain ⟨w0, rfl⟩ : ∃ w0, w0 = wr := ⟨_, rfl⟩
            go_wp2_with fail
            go_loopg [7, 9] m (fun gk s5 s7 wr => ∃ j T : Nat, s5 = .int .i64 (T : Int) ∧ s7 = .int .i64 j ∧ j ≤ m ∧ gk = m - j ∧ T ≤ 1048576 ∧ (∀ i, i < j → (ys.getD i []).length ≤ 1048576) ∧ wr = w0)
            case atStart => exact ⟨0, T + m, by go_num, rfl, by omega, rfl, by omega, fun i hi => by omega, rfl⟩
            case round =>
              obtain ⟨j, T2, rfl, rfl, hj, hgj, hT2, hsm, rfl⟩ := hrel
              have HSM2 : Hid (∀ i, i < j → (ys.getD i []).length ≤ 1048576) := hsm
              clear hsm
              by_cases hlt : j < m
              · have hlt' : (j : Int) < (m : Int) := by omega
                have hkz : j < ys.length := by rw [← HMm.out]; exact hlt
                obtain ⟨a, A, C, rfl, hc⟩ := HB.out.row j hkz
                obtain ⟨l, hl⟩ : ∃ l, l = (ys.getD j []).length := ⟨_, rfl⟩
                have hlr := HMR.out j hkz
                rw [← hl] at hc hlr
                have HL : Hid (l = (ys.getD j []).length) := hl
                clear hl
                by_cases h1 : 1048576 < l
                · have h1' : (1048576 : Int) < (l : Int) := by omega
                  go_wp2_with fail
                  go_ret
                  exact ⟨.inl rfl, rfl⟩
                · have h1' : ¬ (1048576 : Int) < (l : Int) := by omega
                  by_cases h2 : 1048576 < T2 + l
                  · have h2' : (1048576 : Int) < (T2 : Int) + (l : Int) := by omega
                    go_wp2_with fail
                    go_ret
                    exact ⟨.inl rfl, rfl⟩
                  · have h2' : ¬ (1048576 : Int) < (T2 : Int) + (l : Int) := by omega
                    go_wp2_with fail
                    go_roundg (m - (j + 1))
                    case measure => omega
                    case rel => exact ⟨j + 1, T2 + l, by go_num, by go_num, by omega, rfl, by omega, fun i hi => by by_cases e : i = j; subst e; rw [← HL.out]; omega; exact HSM2.out i (by omega), rfl⟩
              · obtain rfl : j = m := by omega
                have hlt' : ¬ (j : Int) < (j : Int) := by omega
                go_wp2_with fail
                go_ret
                exact ⟨.inr ⟨rfl, hs1, ⟨by rw [← HMm.out]; omega, fun i hi => HSM2.out i (by rw [HMm.out]; exact hi)⟩⟩, rfl⟩
end Go.Proofs.Qxb6616140aDoor
