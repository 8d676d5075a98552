/- zzClone, zzInsert. -/
import Derived.Test.Qxb6616787aSkip
import Derived.Deep.OwnRows
namespace Go.Proofs.Qxb6616787a
open Go.ChangeShapes Go.WideShapes Go.ChangeAt Go.RowKit

theorem info5 : (Try.prog.info? 5).map (fun i => (i.zero, i.size, i.bytes)) = some (some (.int .u8 0), 1, 1) := by kernel_rfl

theorem Cells.of_row {w : World} {b len : Nat} {t : TypeId} {zs : List Int} (h : w.rowIs b t len (fun j => .int .u8 (zs.getD j 0))) : Cells w.heap.size w (some ⟨b, 0, none⟩) len zs :=
  .inr ⟨b, 0, rfl, h.lt, fun j hj => by rw [Nat.zero_add]; exact h.cell hj⟩

set_option maxRecDepth 100000 in
set_option maxHeartbeats 400000 in
theorem clone_nil (W : World) : Calls Try.prog 11 #[.slice none 0 0] W fun e w' => e = .returned (.slice none 0 0) ∧ w' = W := by
  have hnil := fun (w : World) (a : Option Addr) (n c : Nat) => Lib.run_eql_slice_nil (P := Try.prog) w 22 5 a n c 0 0 Try.underlying22
  go_enter Try.func11, Try.ntmps11
  go_wp2
  go_ret
  exact ⟨rfl, rfl⟩

set_option maxRecDepth 100000 in
set_option maxHeartbeats 400000 in
theorem clone_zero (x : Addr) (cap : Nat) (zs : List Int) (W : World) :
    Calls Try.prog 11 #[.slice (some x) 0 cap] W fun e w' => e = .returned (.slice (some ⟨W.heap.size, 0, none⟩) 0 0) ∧ w'.rowIs W.heap.size 5 0 (fun j => .int .u8 (zs.getD j 0)) ∧ Below W.heap.size W w' := by
  have hmk : ∀ w : World, (Instr.makeSlice 22 (.int .i64 0) (.int .i64 0)).run Try.prog w = .ok (.slice (some ⟨w.heap.size, 0, none⟩) 0 0) (w.alloc (.cells (madeCells #[.int .u8 0] 0) 5)) := run_make_row' (P := Try.prog) 22 5 (.int .u8 0) 1 Try.underlying22 info5 rfl .i64 .i64 0 (by omega) (by omega)
  have hnil := fun (w : World) (a : Option Addr) (n c : Nat) => Lib.run_eql_slice_nil (P := Try.prog) w 22 5 a n c 0 0 Try.underlying22
  go_enter Try.func11, Try.ntmps11
  go_wp2
  refine wp_loop_rounds 1 ?_
  rw [rounds_succ]
  go_wp2
  go_ret
  exact ⟨rfl, (World.rowIs_made W (.int .u8 0) 0 5).congr fun j hj => by omega, (Below.refl _ _).alloc (Nat.le_refl _) _⟩

set_option maxRecDepth 100000 in
set_option maxHeartbeats 400000 in
theorem clone_cells (b off : Nat) (len cap : Nat) (zs : List Int) (W : World) (hb : b < W.heap.size) (hc : ∀ j, j < len → W.cell? ⟨b, off + j, none⟩ = some (.int .u8 (zs.getD j 0))) (hlen : len ≤ 1048576) :
    Calls Try.prog 11 #[.slice (some ⟨b, off, none⟩) len cap] W fun e w' => e = .returned (.slice (some ⟨W.heap.size, 0, none⟩) len len) ∧ w'.rowIs W.heap.size 5 len (fun j => .int .u8 (zs.getD j 0)) ∧ Below W.heap.size W w' := by
  have hmk := run_make_row' (P := Try.prog) 22 5 (.int .u8 0) 1 Try.underlying22 info5 rfl .i64 .i64 len (by omega) (by omega)
  have hnil := fun (w : World) (a : Option Addr) (n c : Nat) => Lib.run_eql_slice_nil (P := Try.prog) w 22 5 a n c 0 0 Try.underlying22
  go_enter Try.func11, Try.ntmps11
  go_wp2
  go_loopw [4] (fun i wr => ∃ k : Nat, k ≤ len ∧ i = .int .i64 k ∧ wr.rowIs W.heap.size 5 len (fun j => .int .u8 (if j < k then zs.getD j 0 else 0)) ∧ Below W.heap.size W wr) (fun i _ => len - (intOf i).toNat)
  case atStart =>
    refine ⟨0, Nat.zero_le _, rfl, ?_, (Below.refl _ _).alloc (Nat.le_refl _) _⟩
    exact (World.rowIs_made W (.int .u8 0) len 5).congr fun j _ => by simp
  case round =>
    obtain ⟨k, hk, rfl, hrow, hbel⟩ := hrel
    by_cases hlt : k < len
    · have hcell : wr.cell? ⟨b, off + k, none⟩ = some (.int .u8 (zs.getD k 0)) := (hbel.cell (p := ⟨b, off + k, none⟩) hb).trans (hc k hlt)
      have hto := hrow.cell hlt
      have hfz := hrow.frozen k
      clear hnil hmk hc
      go_wp2
      go_roundw
      case rel =>
        refine ⟨k + 1, by omega, by go_num, (hrow.set k _).congr ?_, hbel.setCell (Nat.le_refl _) _⟩
        intro j hj
        by_cases e : j = k
        · subst e; simp
        · simp only [e, if_false]
          by_cases h2 : j < k
          · rw [if_pos h2, if_pos (by omega)]
          · rw [if_neg h2, if_neg (by omega)]
      case measure => simp [intOf]; omega
    · go_wp2
      go_ret
      exact ⟨rfl, hrow.congr fun j hj => by rw [if_pos (by omega)], hbel⟩

theorem clone_some (x : Addr) (len cap : Nat) (zs : List Int) (W : World) (hc : Cells W.heap.size W (some x) len zs) (hlen : len ≤ 1048576) :
    Calls Try.prog 11 #[.slice (some x) len cap] W fun e w' => e = .returned (.slice (some ⟨W.heap.size, 0, none⟩) len len) ∧ w'.rowIs W.heap.size 5 len (fun j => .int .u8 (zs.getD j 0)) ∧ Below W.heap.size W w' := by
  rcases hc with rfl | ⟨b, off, hx, hb, hc⟩
  · exact clone_zero x cap zs W
  · obtain rfl : x = ⟨b, off, none⟩ := by simpa using hx
    exact clone_cells b off len cap zs W hb hc hlen

theorem clone_any (a0 : Option Addr) (len cap : Nat) (zs : List Int) (W : World) (hnil : a0 = none → len = 0 ∧ cap = 0) (hc : Cells W.heap.size W a0 len zs) (hlen : len ≤ 1048576) :
    Calls Try.prog 11 #[.slice a0 len cap] W fun e w' => ∃ a' c', e = .returned (.slice a' len c') ∧ Cells w'.heap.size w' a' len zs ∧ Below W.heap.size W w' := by
  match a0, hnil, hc with
  | none, hnil, _ =>
    obtain ⟨rfl, rfl⟩ := hnil rfl
    refine (clone_nil W).mono fun e w' ⟨he, hw⟩ => ?_
    subst hw
    exact ⟨none, 0, he, .inl rfl, Below.refl _ _⟩
  | some x, _, hc =>
    refine (clone_some x len cap zs W hc hlen).mono fun e w' ⟨he, hrow, hbel⟩ => ?_
    exact ⟨_, _, he, Cells.of_row hrow, hbel⟩
end Go.Proofs.Qxb6616787a
