/- The walk of FnSkipLiteralStopsAtFirstDelimiter. -/
import Derived.Test.Qxb6616787aClone
import Derived.OpenShut
namespace Go.Proofs.Qxb6616787a
open Go.ChangeShapes Go.WideShapes Go.ChangeAt Go.RowKit

theorem cells_of {w : World} {a : Option Addr} {len cap : Nat} {zs : List Int}
    (h : (a = none ∧ len = 0 ∧ cap = 0 ∧ zs = []) ∨ ∃ x, a = some x ∧ len ≤ cap ∧ cap ≤ maxLen ∧ zs.length = cap ∧ (∀ i, i < zs.length → w.cell? (x.add i) = some (.int .u8 (zs.getD i 0))) ∧ ∀ n ∈ zs, (Lit.int .u8 n).wf = true) :
    Cells w.heap.size w a len zs ∧ (a = none → len = 0 ∧ cap = 0) ∧ (∀ j : Nat, 0 ≤ zs.getD j 0 ∧ zs.getD j 0 < 256) ∧ len ≤ 9223372036854775807 := by
  rcases h with ⟨rfl, rfl, rfl, rfl⟩ | ⟨x, rfl, hlc, hm, hz, hcell, hwf⟩
  · exact ⟨.inl rfl, fun _ => ⟨rfl, rfl⟩, fun j => by simp, by omega⟩
  · refine ⟨?_, (fun h => by cases h), fun j => ?_, by unfold maxLen at hm; omega⟩
    · by_cases h0 : len = 0
      · exact .inl h0
      · obtain ⟨b, off, spot⟩ := x
        have hspot : spot = none := by simpa [Addr.add] using World.cell?_spot (hcell 0 (by omega))
        subst hspot
        have hcell' : ∀ j, j < zs.length → w.cell? ⟨b, off + j, none⟩ = some (.int .u8 (zs.getD j 0)) := fun j hj => by rw [← add_plain]; exact hcell j hj
        have hlt : b < w.heap.size := by
          have := hcell' 0 (by omega)
          simp only [World.cell?] at this
          by_cases hb : b < w.heap.size
          · exact hb
          · rw [Array.getElem?_eq_none (by omega)] at this; simp at this
        exact .inr ⟨b, off, rfl, hlt, fun j hj => hcell' j (by omega)⟩
    · by_cases hj : j < zs.length
      · have hm := hwf (zs.getD j 0) (by rw [List.getD_eq_getElem?_getD, List.getElem?_eq_getElem hj]; exact List.getElem_mem hj)
        have := bounds_u8 hm
        omega
      · rw [List.getD_eq_getElem?_getD, List.getElem?_eq_none (by omega)]; simp

namespace L5
set_option maxRecDepth 100000 in
set_option maxHeartbeats 400000 in
theorem walk_far (a0 : Option Addr) (len0 cap0 : Nat) (a1 : Int) (w : World) (h : 1048576 < len0) (hm : len0 ≤ 9223372036854775807) :
    Calls Try.prog 5 #[.slice a0 len0 cap0, .int .i64 a1] w fun e w' => e = .returned (.bool true) ∧ Below w.heap.size w w' := by
  have h' : (1048576 : Int) < (len0 : Int) := by omega
  go_enter Try.func5, Try.ntmps5
  go_wp2
  go_ret
  exact ⟨rfl, Below.refl _ _⟩

set_option maxRecDepth 100000 in
set_option maxHeartbeats 400000 in
theorem walk_out (a0 : Option Addr) (len0 cap0 : Nat) (a1 : Int) (w : World) (h : len0 ≤ 1048576) (ho : a1 < 0 ∨ (len0 : Int) < a1) :
    Calls Try.prog 5 #[.slice a0 len0 cap0, .int .i64 a1] w fun e w' => e = .returned (.bool true) ∧ Below w.heap.size w w' := by
  rcases ho with ho | ho
  · go_enter Try.func5, Try.ntmps5
    go_wp2
    go_ret
    exact ⟨rfl, Below.refl _ _⟩
  · have ho' : ¬ a1 < 0 := by omega
    go_enter Try.func5, Try.ntmps5
    go_wp2
    go_ret
    exact ⟨rfl, Below.refl _ _⟩

set_option maxRecDepth 100000 in
set_option maxHeartbeats 400000 in
theorem walk_in (a0 : Option Addr) (len0 cap0 : Nat) (zs : List Int) (at0 : Nat) (w : World) (hlen : len0 ≤ 1048576) (hat : at0 ≤ len0) (hnil : a0 = none → len0 = 0 ∧ cap0 = 0)
    (hc : Cells w.heap.size w a0 len0 zs) (hr : ∀ j : Nat, 0 ≤ zs.getD j 0 ∧ zs.getD j 0 < 256) :
    Calls Try.prog 5 #[.slice a0 len0 cap0, .int .i64 at0] w fun e w' => e = .returned (.bool true) ∧ Below w.heap.size w w' := by
  go_enter Try.func5, Try.ntmps5
  go_wp2_with (go_at_call 16; go_in)
  refine (clone_any a0 len0 cap0 zs w hnil hc hlen).mono ?_
  rintro e w1 ⟨a', c', rfl, hcs, hb1⟩
  go_wp2_with fail
  refine (zzSkip a' len0 c' zs at0 w1 hat (by omega) hcs hr).mono ?_
  rintro e w2 ⟨q, hq, rfl, hb2⟩
  obtain ⟨hq0, hq1, hq2, hq3⟩ := hq
  have hcs2 := hcs.below hb2 hb2.size
  have hA : ¬ q < at0 := by omega
  have hB : ¬ len0 < q := by omega
  go_wp2_with fail
  go_loop [6] (fun i => ∃ k : Nat, at0 ≤ k ∧ k ≤ q ∧ i = .int .i64 k) (fun i => q - (intOf i).toNat)
  case atStart => exact ⟨at0, Nat.le_refl _, hq0, rfl⟩
  case round =>
    obtain ⟨k, hk0, hk, rfl⟩ := hrel
    by_cases hlt : k < q
    · rcases hcs2 with rfl | ⟨b, off, rfl, hb, hcell⟩
      · omega
      · have hck := hcell k (by omega)
        have hd := hq2 k hk0 hlt
        clear hcs hcell hc hnil hr hq2 hq3
        obtain ⟨x, hx⟩ : ∃ x, x = zs.getD k 0 := ⟨_, rfl⟩
        rw [← hx] at hck hd
        clear hx
        go_wp2_with (go_at_call 18; refine (isDelim _ _).mono ?_; rintro e w' ⟨rfl, rfl⟩)
        go_round
        case rel => exact ⟨k + 1, by omega, by omega, by go_num⟩
        case measure => simp [intOf]; omega
    · clear hq2
      obtain rfl : k = q := by omega
      have hfin : ∀ w3, Below w2.heap.size w2 w3 → Below w.heap.size w w3 := fun w3 hb3 =>
        hb1.trans ((hb2.mono hb1.size).trans (hb3.mono (Nat.le_trans hb1.size hb2.size)))
      have again : ∀ q' : Nat, Stop zs len0 k q' → q' = k := by
        rintro q' ⟨h1, h2, h3, h4⟩
        by_cases hlt' : k < len0
        · by_cases e : k < q'
          · have := h3 k (Nat.le_refl _) e
            rw [hq3 hlt'] at this
            cases this
          · omega
        · omega
      by_cases hend : k < len0
      · have hcs3 := hcs2
        rcases hcs2 with rfl | ⟨b, off, rfl, hb, hcell⟩
        · omega
        have hcq := hcell k hend
        have hd := hq3 hend
        obtain ⟨x, hx⟩ : ∃ x, x = zs.getD k 0 := ⟨_, rfl⟩
        rw [← hx] at hcq hd
        clear hx hcell hq3
        go_wp2_with (go_at_call 18; refine (isDelim _ _).mono ?_; rintro e w' ⟨rfl, rfl⟩)
        refine (zzSkip _ len0 c' zs k _ hq1 (by omega) hcs3 hr).mono ?_
        rintro e w3 ⟨q', hq', rfl, hb3⟩
        obtain rfl := again q' hq'
        go_wp2
        go_ret
        exact ⟨by simp, hfin _ hb3⟩
      · have hend' : decide ((k : Int) < (len0 : Int)) = false := decide_eq_false (by omega)
        go_wp2_with fail
        refine (zzSkip _ len0 c' zs k _ hq1 (by omega) hcs2 hr).mono ?_
        rintro e w3 ⟨q', hq', rfl, hb3⟩
        obtain rfl := again q' hq'
        go_wp2
        go_ret
        exact ⟨by simp, hfin _ hb3⟩
end L5
end Go.Proofs.Qxb6616787a
