/- zzInsert: a fresh row with one byte put in. -/
import Derived.Test.Qxb6616787aClone
import Derived.OpenShut
namespace Go.Proofs.Qxb6616787a
open Go.ChangeShapes Go.WideShapes Go.ChangeAt Go.RowKit

def insF (zs : List Int) (k : Nat) (x : Int) (j : Nat) : Int := if j < k then zs.getD j 0 else if j = k then x else zs.getD (j - 1) 0
def insL (zs : List Int) (len k : Nat) (x : Int) : List Int := (List.range (len + 1)).map (insF zs k x)
theorem insL_getD (zs : List Int) (len k : Nat) (x : Int) (j : Nat) (hj : j < len + 1) : (insL zs len k x).getD j 0 = insF zs k x j := by
  unfold insL
  rw [List.getD_eq_getElem?_getD, List.getElem?_map, List.getElem?_range hj]
  rfl
theorem insL_range (zs : List Int) (len k : Nat) (x : Int) (hr : ∀ j : Nat, 0 ≤ zs.getD j 0 ∧ zs.getD j 0 < 256) (hx : 0 ≤ x ∧ x < 256) (j : Nat) : 0 ≤ (insL zs len k x).getD j 0 ∧ (insL zs len k x).getD j 0 < 256 := by
  by_cases hj : j < len + 1
  · rw [insL_getD zs len k x j hj]
    unfold insF
    split
    · exact hr _
    · split
      · exact hx
      · exact hr _
  · rw [List.getD_eq_getElem?_getD, List.getElem?_eq_none (by unfold insL; simp; omega)]; simp

set_option maxRecDepth 100000 in
set_option maxHeartbeats 400000 in
theorem insert_zero (a : Option Addr) (cap : Nat) (x : Int) (W : World) :
    Calls Try.prog 15 #[.slice a 0 cap, .int .i64 0, .int .u8 x] W fun e w' => e = .returned (.slice (some ⟨W.heap.size, 0, none⟩) 1 1) ∧ w'.rowIs W.heap.size 5 1 (fun _ => .int .u8 x) ∧ Below W.heap.size W w' := by
  have hmk : ∀ w : World, (Instr.makeSlice 22 (.int .i64 1) (.int .i64 1)).run Try.prog w = .ok (.slice (some ⟨w.heap.size, 0, none⟩) 1 1) (w.alloc (.cells #[.int .u8 0] 5)) := fun _ => by kernel_rfl
  go_enter Try.func15, Try.ntmps15
  go_wp2
  refine wp_loop_rounds 1 ?_
  rw [rounds_succ]
  go_wp2
  refine wp_loop_rounds 1 ?_
  rw [rounds_succ]
  go_wp2
  go_ret
  refine ⟨rfl, World.rowIs_alloc W #[.int .u8 x] 5 _ ?_, (Below.refl _ _).alloc (Nat.le_refl _) _⟩
  intro i hi
  have : i = 0 := by simpa using hi
  subst this; rfl

set_option maxRecDepth 100000 in
set_option maxHeartbeats 400000 in
theorem insert_cells (b off len cap : Nat) (zs : List Int) (k : Nat) (x : Int) (W : World) (hk : k ≤ len) (hlen : len ≤ 1048576) (hb : b < W.heap.size) (hc : ∀ j, j < len → W.cell? ⟨b, off + j, none⟩ = some (.int .u8 (zs.getD j 0))) :
    Calls Try.prog 15 #[.slice (some ⟨b, off, none⟩) len cap, .int .i64 k, .int .u8 x] W fun e w' => e = .returned (.slice (some ⟨W.heap.size, 0, none⟩) (len + 1) (len + 1)) ∧ w'.rowIs W.heap.size 5 (len + 1) (fun j => .int .u8 (insF zs k x j)) ∧ Below W.heap.size W w' := by
  have hmk : ∀ w : World, (Instr.makeSlice 22 (.int .i64 ((len : Int) + 1)) (.int .i64 ((len : Int) + 1))).run Try.prog w = .ok (.slice (some ⟨w.heap.size, 0, none⟩) (len + 1) (len + 1)) (w.alloc (.cells (madeCells #[.int .u8 0] (len + 1)) 5)) :=
    run_make_row' (P := Try.prog) 22 5 (.int .u8 0) 1 Try.underlying22 info5 rfl .i64 .i64 (len + 1) (by omega) (by omega)
  go_enter Try.func15, Try.ntmps15
  go_wp2
  go_loopw [8] (fun i wr => ∃ m : Nat, m ≤ k ∧ i = .int .i64 m ∧ wr.rowIs W.heap.size 5 (len + 1) (fun j => .int .u8 (if j < m then zs.getD j 0 else 0)) ∧ Below W.heap.size W wr) (fun i _ => k - (intOf i).toNat)
  case atStart =>
    refine ⟨0, Nat.zero_le _, rfl, ?_, (Below.refl _ _).alloc (Nat.le_refl _) _⟩
    exact (World.rowIs_made W (.int .u8 0) (len + 1) 5).congr fun j _ => by simp
  case round =>
    obtain ⟨m, hm, rfl, hrow, hbel⟩ := hrel
    clear hmk
    by_cases hlt : m < k
    · have hcell : wr.cell? ⟨b, off + m, none⟩ = some (.int .u8 (zs.getD m 0)) := (hbel.cell (p := ⟨b, off + m, none⟩) hb).trans (hc m (by omega))
      have hto := hrow.cell (i := m) (by omega)
      have hfz := hrow.frozen m
      clear hc
      go_wp2
      go_roundw
      case rel =>
        refine ⟨m + 1, by omega, by go_num, (hrow.set m _).congr ?_, hbel.setCell (Nat.le_refl _) _⟩
        intro j hj
        by_cases e : j = m
        · subst e; simp
        · simp only [e, if_false]
          by_cases h2 : j < m
          · rw [if_pos h2, if_pos (by omega)]
          · rw [if_neg h2, if_neg (by omega)]
      case measure => simp [intOf]; omega
    · obtain rfl : m = k := by omega
      have hto := hrow.cell (i := m) (by omega)
      have hfz := hrow.frozen m
      go_wp2
      obtain ⟨w1, hw1⟩ : ∃ w1, w1 = wr.setCell ⟨W.heap.size, m, none⟩ (.int .u8 x) := ⟨_, rfl⟩
      have hrow1 : w1.rowIs W.heap.size 5 (len + 1) (fun j => .int .u8 (if j < m then zs.getD j 0 else if j = m then x else 0)) := by
        rw [hw1]
        refine (hrow.set m _).congr fun j hj => ?_
        by_cases e : j = m
        · subst e; simp
        · by_cases h2 : j < m <;> simp [e, h2]
      have hbel1 : Below W.heap.size W w1 := by rw [hw1]; exact hbel.setCell (Nat.le_refl _) _
      rw [← hw1]
      clear hw1 hto hfz hrow hbel
      go_loopw [9] (fun i wr => ∃ m' : Nat, m ≤ m' ∧ m' ≤ len ∧ i = .int .i64 m' ∧ wr.rowIs W.heap.size 5 (len + 1) (fun j => .int .u8 (if j ≤ m' then insF zs m x j else 0)) ∧ Below W.heap.size W wr) (fun i _ => len - (intOf i).toNat)
      case atStart =>
        refine ⟨m, Nat.le_refl _, hk, rfl, hrow1.congr fun j hj => ?_, hbel1⟩
        unfold insF
        by_cases h2 : j < m
        · rw [if_pos h2, if_pos (by omega), if_pos h2]
        · by_cases e : j = m
          · subst e; simp
          · rw [if_neg h2, if_neg e, if_neg (by omega)]
      case round =>
        obtain ⟨m', hm0, hm', rfl, hrow, hbel⟩ := hrel
        clear hrow1 hbel1
        by_cases hlt2 : m' < len
        · have hcell : wr.cell? ⟨b, off + m', none⟩ = some (.int .u8 (zs.getD m' 0)) := (hbel.cell (p := ⟨b, off + m', none⟩) hb).trans (hc m' (by omega))
          have hto := hrow.cell (i := m' + 1) (by omega)
          have hfz := hrow.frozen (m' + 1)
          clear hc
          go_wp2
          go_roundw
          case rel =>
            refine ⟨m' + 1, by omega, by omega, by go_num, (hrow.set (m' + 1) _).congr ?_, hbel.setCell (Nat.le_refl _) _⟩
            intro j hj
            by_cases e : j = m' + 1
            · subst e
              simp only [if_true, Nat.le_refl]
              unfold insF
              rw [if_neg (by omega), if_neg (by omega), Nat.add_sub_cancel, List.getD_eq_getElem?_getD]
            · simp only [e, if_false]
              by_cases h2 : j ≤ m'
              · rw [if_pos h2, if_pos (by omega)]
              · rw [if_neg h2, if_neg (by omega)]
          case measure => simp [intOf]; omega
        · go_wp2
          go_ret
          refine ⟨rfl, hrow.congr fun j hj => ?_, hbel⟩
          rw [if_pos (by omega)]

theorem insert_any (a : Option Addr) (len cap : Nat) (zs : List Int) (k : Nat) (x : Int) (W : World) (hk : k ≤ len) (hlen : len ≤ 1048576) (hc : Cells W.heap.size W a len zs) :
    Calls Try.prog 15 #[.slice a len cap, .int .i64 k, .int .u8 x] W fun e w' => ∃ a' c', e = .returned (.slice a' (len + 1) c') ∧ Cells w'.heap.size w' a' (len + 1) (insL zs len k x) ∧ Below W.heap.size W w' := by
  rcases hc with rfl | ⟨b, off, rfl, hb, hc⟩
  · obtain rfl : k = 0 := by omega
    refine (insert_zero a cap x W).mono fun e w' ⟨he, hrow, hbel⟩ => ⟨_, _, he, Cells.of_row (hrow.congr fun j hj => ?_), hbel⟩
    rw [insL_getD _ _ _ _ _ hj]
    obtain rfl : j = 0 := by omega
    rfl
  · refine (insert_cells b off len cap zs k x W hk hlen hb hc).mono fun e w' ⟨he, hrow, hbel⟩ => ⟨_, _, he, Cells.of_row (hrow.congr fun j hj => ?_), hbel⟩
    rw [insL_getD _ _ _ _ _ hj]

/-! ### The plain law -/
theorem Stop.unique {zs : List Int} {len at0 q q' : Nat} (h : Stop zs len at0 q) (h' : Stop zs len at0 q') : q = q' := by
  obtain ⟨h1, h2, h3, h4⟩ := h
  obtain ⟨k1, k2, k3, k4⟩ := h'
  by_cases e : q < q'
  · have := k3 q h1 e
    rw [h4 (by omega)] at this
    cases this
  · by_cases e' : q' < q
    · have := h3 q' k1 e'
      rw [k4 (by omega)] at this
      cases this
    · omega

theorem stop_insert {zs : List Int} {len at0 k q : Nat} {x : Int} (h : Stop zs len at0 q) (hk0 : at0 ≤ k) (hk : k ≤ len) (hpre : ∀ j, at0 ≤ j → j < k → delimB (zs.getD j 0) = false) (hx : delimB x = false) :
    Stop (insL zs len k x) (len + 1) at0 (q + 1) := by
  obtain ⟨h1, h2, h3, h4⟩ := h
  have hkq : k ≤ q := by
    by_cases e : q < k
    · have := hpre q h1 e
      rw [h4 (by omega)] at this
      cases this
    · omega
  refine ⟨by omega, by omega, fun j hj1 hj2 => ?_, fun hlt => ?_⟩
  · rw [insL_getD _ _ _ _ _ (by omega)]
    unfold insF
    by_cases a : j < k
    · rw [if_pos a]; exact hpre j hj1 a
    · rw [if_neg a]
      by_cases b : j = k
      · rw [if_pos b]; exact hx
      · rw [if_neg b]; exact h3 (j - 1) (by omega) (by omega)
  · rw [insL_getD _ _ _ _ _ hlt]
    unfold insF
    rw [if_neg (by omega), if_neg (by omega), Nat.add_sub_cancel]
    exact h4 (by omega)
end Go.Proofs.Qxb6616787a
