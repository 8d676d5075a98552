/- Small callees: readErr, Buffered, bytes.IndexByte. -/
import Derived.Test.Qxb6616140aDoorFill
import Derived.Lib.BytesEntry
namespace Go.Proofs.Qxb6616140aDoor
open Go.RowKit

/-! ### bytes.IndexByte, by places -/
theorem ib_none : ∀ (l : List UInt8) (c : UInt8), (∀ x ∈ l, x ≠ c) → Lib.indexByte l c = -1
  | [], _, _ => rfl
  | b :: l, c, h => by
    unfold Lib.indexByte
    have hb : (b == c) = false := beq_eq_false_iff_ne.2 (h b (by simp))
    have hl := ib_none l c fun x hx => h x (by simp [hx])
    simp [hb, hl]
theorem ib_found : ∀ (a b : List UInt8) (c : UInt8), (∀ x ∈ a, x ≠ c) → Lib.indexByte (a ++ c :: b) c = a.length
  | [], b, c, _ => by unfold Lib.indexByte; simp
  | x :: a, b, c, h => by
    have hl := ib_found a b c fun y hy => h y (by simp [hy])
    have hx : (x == c) = false := beq_eq_false_iff_ne.2 (h x (by simp))
    show Lib.indexByte (x :: (a ++ c :: b)) c = _
    unfold Lib.indexByte
    rw [hl]
    simp [hx]

theorem byte_ne {x y : Int} (hx : 0 ≤ x ∧ x < 256) (hy : 0 ≤ y ∧ y < 256) (h : x ≠ y) : x.toNat.toUInt8 ≠ y.toNat.toUInt8 := by
  intro e
  have := congrArg UInt8.toNat e
  simp at this
  omega

theorem idx_none (g : Nat → Int) (n : Nat) (c : Int) (hg : ∀ j, 0 ≤ g j ∧ g j < 256) (hc : 0 ≤ c ∧ c < 256) (h : ∀ j, j < n → g j ≠ c) :
    Lib.indexByte (Lib.bytesOf ((List.range n).map g)) c.toNat.toUInt8 = -1 := by
  refine ib_none _ _ fun x hx => ?_
  simp only [Lib.bytesOf, List.map_map, List.mem_map, List.mem_range] at hx
  obtain ⟨j, hj, rfl⟩ := hx
  exact byte_ne (hg j) hc (h j hj)

theorem idx_found (g : Nat → Int) (n i : Nat) (c : Int) (hg : ∀ j, 0 ≤ g j ∧ g j < 256) (hc : 0 ≤ c ∧ c < 256) (hi : i < n) (he : g i = c) (h : ∀ j, j < i → g j ≠ c) :
    Lib.indexByte (Lib.bytesOf ((List.range n).map g)) c.toNat.toUInt8 = i := by
  have e : Lib.bytesOf ((List.range n).map g) = Lib.bytesOf ((List.range i).map g) ++ c.toNat.toUInt8 :: Lib.bytesOf ((List.range (n - i - 1)).map fun j => g (i + 1 + j)) := by
    obtain ⟨m, rfl⟩ : ∃ m, n = i + 1 + m := ⟨n - i - 1, by omega⟩
    rw [show i + 1 + m - i - 1 = m by omega]
    simp only [Lib.bytesOf, List.range_add, List.map_append, List.map_map, List.append_assoc]
    congr 1
    simp [he]
  rw [e, ib_found]
  · simp [Lib.bytesOf]
  · intro x hx
    simp only [Lib.bytesOf, List.map_map, List.mem_map, List.mem_range] at hx
    obtain ⟨j, hj, rfl⟩ := hx
    exact byte_ne (hg j) hc (h j hj)

set_option maxRecDepth 100000 in
set_option maxHeartbeats 400000 in
theorem indexByte_raw (b o n c : Nat) (xs : List Int) (cv : Int) (w : World) (hx : xs.length = n) (hc : ∀ i, i < n → w.cell? ⟨b, o + i, none⟩ = some (.int .u8 (xs.getD i 0))) :
    Calls Tryd.prog 75 #[.slice (some ⟨b, o, none⟩) n c, .int .u8 cv] w fun e w' => e = .returned (.int .i64 (Lib.indexByte (Lib.bytesOf xs) cv.toNat.toUInt8)) ∧ w' = w := by
  go_enter Tryd.func75, Tryd.ntmps75
  go_wp2
  rw [run_callFunc_extern Tryd.func87 (by kernel_rfl) (by kernel_rfl) (by kernel_rfl) (e := Extern.BytealgIndexByte.indexByte) (by kernel_rfl), Lib.run_indexByteSlice w b o n c xs hx hc cv]
  simp only [Result.andThen]
  rw [Oper.upon_value]
  go_wp2
  go_ret
  exact ⟨rfl, rfl⟩

theorem range_getD (g : Nat → Int) (n i : Nat) (hi : i < n) : ((List.range n).map g).getD i 0 = g i := by
  rw [List.getD_eq_getElem?_getD, List.getElem?_map, List.getElem?_range hi]; rfl

theorem indexByte_found (b o n c : Nat) (g : Nat → Int) (i : Nat) (cv : Int) (w : World) (hc : ∀ i, i < n → w.cell? ⟨b, o + i, none⟩ = some (.int .u8 (g i))) (hg : ∀ j, 0 ≤ g j ∧ g j < 256) (hcv : 0 ≤ cv ∧ cv < 256)
    (hi : i < n) (he : g i = cv) (h : ∀ j, j < i → g j ≠ cv) :
    Calls Tryd.prog 75 #[.slice (some ⟨b, o, none⟩) n c, .int .u8 cv] w fun e w' => e = .returned (.int .i64 i) ∧ w' = w := by
  have := indexByte_raw b o n c ((List.range n).map g) cv w (by simp) (fun j hj => by rw [range_getD g n j hj]; exact hc j hj)
  rw [idx_found g n i cv hg hcv hi he h] at this
  exact this

theorem indexByte_none (b o n c : Nat) (g : Nat → Int) (cv : Int) (w : World) (hc : ∀ i, i < n → w.cell? ⟨b, o + i, none⟩ = some (.int .u8 (g i))) (hg : ∀ j, 0 ≤ g j ∧ g j < 256) (hcv : 0 ≤ cv ∧ cv < 256)
    (h : ∀ j, j < n → g j ≠ cv) :
    Calls Tryd.prog 75 #[.slice (some ⟨b, o, none⟩) n c, .int .u8 cv] w fun e w' => e = .returned (.int .i64 (-1)) ∧ w' = w := by
  have := indexByte_raw b o n c ((List.range n).map g) cv w (by simp) (fun j hj => by rw [range_getD g n j hj]; exact hc j hj)
  rw [idx_none g n cv hg hcv h] at this
  exact this

/-! ### The reader's own struct turned: r moved on, another error cell -/
theorem RdAt.upd {L : Lay} {w w' : World} {p r wi p' r' : Nat} {err err' : Value} (h : RdAt L w p r wi err) (hk : Keep [L.bb] w w')
    (blk' : ∃ lb lr : Int, w'.heap[L.bb]? = some (.cells #[.slice (some ⟨L.bf, 0, none⟩) 4096 4096, .iface 55 (.pointer (some ⟨L.rb, 0, none⟩)), .int .i64 r', .int .i64 wi, err', .int .i64 lb, .int .i64 lr] 74 (0, 0)))
    (hr1 : r ≤ r') (hr2 : r' ≤ wi) (hp' : p' = p + (r' - r)) : RdAt L w' p' r' wi err' := by
  obtain ⟨ap, hr, hw, hp, src, ⟨pr, brd⟩, _, ⟨f, hrow, hf⟩⟩ := h
  refine ⟨ap, hr2, hw, by omega, src.keep hk (by simpa using ap.s1), ⟨pr, ?_⟩, blk', ⟨f, hk.rowIs hrow (by simpa using ap.h1.symm), fun i h1 h2 => ?_⟩⟩
  · rw [hk.block L.rb (lt_blk brd) (by simpa using ap.h2.symm), brd, show p' + (wi - r') = p + (wi - r) by omega]
  · rw [hf i (by omega) h2, show p' + (i - r') = p + (i - r) by omega]

/-! ### readErr, Buffered -/
set_option maxRecDepth 100000 in
set_option maxHeartbeats 400000 in
theorem readErr (L : Lay) (w : World) (p r wi : Nat) (err : Value) (h : RdAt L w p r wi err) :
    Calls Tryd.prog 47 #[.pointer (some ⟨L.bb, 0, none⟩)] w fun e w' => e = .returned err ∧ RdAt L w' p r wi .nilIface ∧ Keep [L.bb] w w' ∧ w'.heap.size = w.heap.size := by
  have HR : Hid (RdAt L w p r wi err) := h
  obtain ⟨lb, lr, blk⟩ := h.blk
  obtain ⟨_, _, _, _, c4, _, _⟩ := cells7 blk
  have z4 := frozen_blk blk 4
  have HB : Hid (w.heap[L.bb]? = some (.cells #[.slice (some ⟨L.bf, 0, none⟩) 4096 4096, .iface 55 (.pointer (some ⟨L.rb, 0, none⟩)), .int .i64 r, .int .i64 wi, err, .int .i64 lb, .int .i64 lr] 74 (0, 0))) := blk
  clear blk h
  go_enter Tryd.func47, Tryd.ntmps47
  go_wp2
  go_ret
  have hk : Keep [L.bb] w (w.setCell ⟨L.bb, 4, none⟩ .nilIface) := (Keep.refl _ w).setCell (.inl (by simp)) _
  refine ⟨rfl, HR.out.upd hk ⟨lb, lr, ?_⟩ (Nat.le_refl _) HR.out.hr (by omega), hk, by simp⟩
  exact blk_setCell HB.out 4 _

set_option maxRecDepth 100000 in
set_option maxHeartbeats 400000 in
theorem buffered (L : Lay) (w : World) (p r wi : Nat) (err : Value) (h : RdAt L w p r wi err) :
    Calls Tryd.prog 76 #[.pointer (some ⟨L.bb, 0, none⟩)] w fun e w' => e = .returned (.int .i64 ((wi - r : Nat) : Int)) ∧ ∃ n, w' = w.drewN n := by
  have hr := h.hr
  have hw := h.hw
  obtain ⟨lb, lr, blk⟩ := h.blk
  obtain ⟨_, _, c2, c3, _, _, _⟩ := cells7 blk
  clear blk h
  go_enter Tryd.func76, Tryd.ntmps76
  go_wp2
  go_quiet (fail)
  go_wp2
  go_ret
  have e : ((wi : Int) - (r : Int)) = ((wi - r : Nat) : Int) := by omega
  exact ⟨by rw [← e]; rfl, _, rfl⟩
end Go.Proofs.Qxb6616140aDoor
