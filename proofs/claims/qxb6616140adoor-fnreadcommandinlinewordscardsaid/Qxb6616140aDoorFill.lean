/- (*bufio.Reader).fill. -/
import Derived.Test.Qxb6616140aDoorSrc
namespace Go.Proofs.Qxb6616140aDoor
open Go.RowKit

theorem nilAhead_read (a : Addr) (w : World) : (nilAhead 291 55 (.pointer (some a)) "Read").run Tryd.prog w = .ok (some false) w := by kernel_rfl
theorem method_read (a : Addr) (w : World) : (Go.method 291 55 (.pointer (some a)) "Read").run Tryd.prog w = .ok (115, .pointer (some a)) w := by kernel_rfl

/-- The buffer slid to its head: b.r > 0. -/
theorem slid {L : Lay} {w w2 w3 : World} {p r wi : Nat} (h : RdAt L w p r wi .nilIface) (hk2 : Keep [L.bf] w w2) (hsz : w2.heap.size = w.heap.size) {f : Nat → Value}
    (hrow2 : w2.rowIs L.bf 5 4096 (fun j => if 0 ≤ j ∧ j < 0 + (wi - r) then L.at (p + (j - 0)) else f j)) (hw3 : w3 = ((w2.setCell ⟨L.bb, 3, none⟩ (.int .i64 ((wi : Int) - (r : Int)))).setCell ⟨L.bb, 2, none⟩ (.int .i64 0)).drew) :
    RdAt L w3 p 0 (wi - r) .nilIface ∧ Keep L.own w w3 ∧ w3.heap.size = w.heap.size := by
  obtain ⟨ap, hr, hw, hp, src, ⟨pr, brd⟩, ⟨lb, lr, blk⟩, _⟩ := h
  have hne1 : L.bb ≠ L.bf := ap.h1
  have blk2 := (hk2.block L.bb (lt_blk blk) (by simpa using hne1)).trans blk
  have brd2 := (hk2.block L.rb (lt_blk brd) (by simpa using ap.h3.symm)).trans brd
  have hk3 : Keep L.own w w3 := by
    rw [hw3]
    exact (((hk2.mono (O' := L.own) (by simp [Lay.own])).setCell (.inl (by simp [Lay.own])) _).setCell (.inl (by simp [Lay.own])) _).drew
  refine ⟨⟨ap, Nat.zero_le _, by omega, by omega, src.keep hk3 (by simp [Lay.own, ap.s1, ap.s2, ap.s3]), ⟨pr, ?_⟩, ⟨lb, lr, ?_⟩, ⟨fun j => if 0 ≤ j ∧ j < 0 + (wi - r) then L.at (p + (j - 0)) else f j, ?_, fun i h0 hi => ?_⟩⟩, hk3, ?_⟩
  · rw [hw3]
    show ((w2.setCell ⟨L.bb, 3, none⟩ (.int .i64 ((wi : Int) - (r : Int)))).setCell ⟨L.bb, 2, none⟩ (.int .i64 0)).heap[L.rb]? = _
    rw [blk_setCell_ne (by show L.rb ≠ L.bb; exact ap.h2.symm), blk_setCell_ne (by show L.rb ≠ L.bb; exact ap.h2.symm), brd2]
    rfl
  · rw [hw3]
    show ((w2.setCell ⟨L.bb, 3, none⟩ (.int .i64 ((wi : Int) - (r : Int)))).setCell ⟨L.bb, 2, none⟩ (.int .i64 0)).heap[L.bb]? = _
    rw [blk_setCell (cs := (#[.slice (some ⟨L.bf, 0, none⟩) 4096 4096, .iface 55 (.pointer (some ⟨L.rb, 0, none⟩)), .int .i64 r, .int .i64 ((wi - r : Nat) : Int), .nilIface, .int .i64 lb, .int .i64 lr])) (t := 74) _ 2 _]
    · rfl
    · rw [blk_setCell blk2 3 _]
      have e : ((wi : Int) - (r : Int)) = ((wi - r : Nat) : Int) := by omega
      rw [e]; rfl
  · rw [hw3]
    exact ((hrow2.setOther (by show L.bf ≠ L.bb; exact hne1.symm) _)).setOther (by show L.bf ≠ L.bb; exact hne1.symm) _
  · show (if 0 ≤ i ∧ i < 0 + (wi - r) then L.at (p + (i - 0)) else f i) = L.at (p + (i - 0))
    rw [if_pos (by omega)]
  · rw [hw3]; simp [hsz]

/-- Behind the read: c bytes more lie in the buffer. -/
theorem filled {L : Lay} {w3 w4 w5 : World} {p k c : Nat} (h : RdAt L w3 p 0 k .nilIface) (hk4 : Keep [L.bf, L.rb] w3 w4) (hsz : w4.heap.size = w3.heap.size) {f3 : Nat → Value} (hf3 : ∀ i, 0 ≤ i → i < k → f3 i = L.at (p + (i - 0)))
    (hrow4 : w4.rowIs L.bf 5 4096 (fun j => if k ≤ j ∧ j < k + c then L.at (p + k + (j - k)) else f3 j)) (hb4 : BRd L w4 (p + k + c)) (hc1 : c ≤ 4096 - k) (hc2 : c ≤ L.n - (p + k)) (hw5 : w5 = w4.setCell ⟨L.bb, 3, none⟩ (.int .i64 ((k : Int) + (c : Int)))) :
    RdAt L w5 p 0 (k + c) .nilIface ∧ Keep L.own w3 w5 ∧ w5.heap.size = w3.heap.size := by
  obtain ⟨ap, hr, hw, hp, src, _, ⟨lb, lr, blk⟩, _⟩ := h
  have hne1 : L.bb ≠ L.bf := ap.h1
  have blk4 := (hk4.block L.bb (lt_blk blk) (by simp [hne1, ap.h2])).trans blk
  have hk5 : Keep L.own w3 w5 := by
    rw [hw5]
    exact (hk4.mono (O' := L.own) (by simp [Lay.own])).setCell (.inl (by simp [Lay.own])) _
  refine ⟨⟨ap, Nat.zero_le _, by omega, by omega, src.keep hk5 (by simp [Lay.own, ap.s1, ap.s2, ap.s3]), ?_, ⟨lb, lr, ?_⟩, ⟨fun j => if k ≤ j ∧ j < k + c then L.at (p + k + (j - k)) else f3 j, ?_, fun i h0 hi => ?_⟩⟩, hk5, ?_⟩
  · obtain ⟨pr, e⟩ := hb4
    refine ⟨pr, ?_⟩
    rw [hw5, blk_setCell_ne (by show L.rb ≠ L.bb; exact ap.h2.symm), e, Nat.sub_zero, Nat.add_assoc]
  · rw [hw5, blk_setCell blk4 3 _]
    have e : ((k : Int) + (c : Int)) = ((k + c : Nat) : Int) := by omega
    rw [e]; rfl
  · rw [hw5]
    exact hrow4.setOther (by show L.bf ≠ L.bb; exact hne1.symm) _
  · show (if k ≤ i ∧ i < k + c then L.at (p + k + (i - k)) else f3 i) = L.at (p + (i - 0))
    by_cases hik : k ≤ i
    · rw [if_pos ⟨hik, hi⟩]; congr 1; omega
    · rw [if_neg (by omega)]; exact hf3 i (Nat.zero_le _) (by omega)
  · rw [hw5]; simp [hsz]

theorem eofed {L : Lay} {w3 w5 : World} {p k n : Nat} {e0 : Addr} (h : RdAt L w3 p 0 k .nilIface) (hw5 : w5 = (((w3.drewN n).setCell ⟨L.bb, 3, none⟩ (.int .i64 (k : Int))).setCell ⟨L.bb, 4, none⟩ (.iface 126 (.pointer (some e0))))) :
    RdAt L w5 p 0 k (.iface 126 (.pointer (some e0))) ∧ Keep L.own w3 w5 ∧ w5.heap.size = w3.heap.size := by
  obtain ⟨ap, hr, hw, hp, src, ⟨pr, brd⟩, ⟨lb, lr, blk⟩, ⟨f, hrow, hf⟩⟩ := h
  have hk5 : Keep L.own w3 w5 := by
    rw [hw5]
    exact (((Keep.refl _ w3).drewN n).setCell (.inl (by simp [Lay.own])) _).setCell (.inl (by simp [Lay.own])) _
  refine ⟨⟨ap, hr, hw, hp, src.keep hk5 (by simp [Lay.own, ap.s1, ap.s2, ap.s3]), ⟨pr, ?_⟩, ⟨lb, lr, ?_⟩, ⟨f, ?_, hf⟩⟩, hk5, ?_⟩
  · rw [hw5, blk_setCell_ne (by show L.rb ≠ L.bb; exact ap.h2.symm), blk_setCell_ne (by show L.rb ≠ L.bb; exact ap.h2.symm), blk_drewN, brd]
  · rw [hw5, blk_setCell (cs := #[.slice (some ⟨L.bf, 0, none⟩) 4096 4096, .iface 55 (.pointer (some ⟨L.rb, 0, none⟩)), .int .i64 (0 : Nat), .int .i64 (k : Int), .nilIface, .int .i64 lb, .int .i64 lr]) (t := 74) _ 4 _]
    · rfl
    · rw [blk_setCell (w := w3.drewN n) blk 3 _]; rfl
  · rw [hw5]
    exact World.rowIs.setOther (World.rowIs.setOther (w := w3.drewN n) hrow (by show L.bf ≠ L.bb; exact ap.h1.symm) _) (by show L.bf ≠ L.bb; exact ap.h1.symm) _
  · rw [hw5]; simp

set_option maxRecDepth 100000 in
set_option maxHeartbeats 800000 in
theorem fill_more_slid (L : Lay) (w : World) (p r wi : Nat) (h : RdAt L w p r wi .nilIface) (hroom : wi - r < 4096) (hmore : p + (wi - r) < L.n) (hr0 : 0 < r) (hr4 : r < 4096) :
    Calls Tryd.prog 46 #[.pointer (some ⟨L.bb, 0, none⟩)] w fun e w' => e = .returned (.tuple #[]) ∧ RdAt L w' p 0 (min 4096 (L.n - p)) .nilIface ∧ Keep L.own w w' ∧ w'.heap.size = w.heap.size := by
  have HR : Hid (RdAt L w p r wi .nilIface) := h
  obtain ⟨ap, hr, hw, hp, src, brd, ⟨lb, lr, blk⟩, ⟨f, hrow, hf⟩⟩ := h
  have hne4 : ¬ 4096 = r := by omega
  obtain ⟨c0, _, c2, c3, _, _, _⟩ := cells7 blk
  have HB : Hid (w.heap[L.bb]? = some (.cells #[.slice (some ⟨L.bf, 0, none⟩) 4096 4096, .iface 55 (.pointer (some ⟨L.rb, 0, none⟩)), .int .i64 r, .int .i64 wi, .nilIface, .int .i64 lb, .int .i64 lr] 74 (0, 0))) := blk
  have hne1 : L.bb ≠ L.bf := ap.h1
  clear blk
  have hr0' : (0 : Int) < (r : Int) := by omega
  have hrw : (r : Int) ≤ (wi : Int) := by omega
  have hw4 : (wi : Int) ≤ 4096 := by omega
  have hcn : wi - r = Nat.min (wi - r) 4096 := (Nat.min_eq_left (by omega)).symm
  have HCN : Hid (wi - r = Nat.min (wi - r) 4096) := hcn
  clear hcn
  have hcell : ∀ j, j < wi - r → w.drew.cell? ((⟨L.bf, r, none⟩ : Addr).add j) = some (L.at (p + j)) := fun j hj => by
    rw [WideShapes.add_plain]; exact (hrow.cell (by omega)).trans (by rw [hf (r + j) (by omega) (by omega), Nat.add_sub_cancel_left])
  have HCell : Hid (∀ j, j < wi - r → w.drew.cell? ((⟨L.bf, r, none⟩ : Addr).add j) = some (L.at (p + j))) := hcell
  clear hcell
  go_enter Tryd.func46, Tryd.ntmps46
  go_wp2
  go_region_held3 (fun w' => w'.cell? ⟨L.bb, 0, none⟩ = some (.slice (some ⟨L.bf, 0, none⟩) 4096 4096) ∧ w'.cell? ⟨L.bb, 2, none⟩ = some (.int .i64 r) ∧ w'.cell? ⟨L.bb, 3, none⟩ = some (.int .i64 wi))
    (first | go_keep | exact ⟨(hk2.cell (p := ⟨L.bb, 0, none⟩) (lt_of_cell c0) (by simpa using hne1)).trans c0, (hk2.cell (p := ⟨L.bb, 2, none⟩) (lt_of_cell c2) (by simpa using hne1)).trans c2, (hk2.cell (p := ⟨L.bb, 3, none⟩) (lt_of_cell c3) (by simpa using hne1)).trans c3⟩)
    ((refine step_copy_fn (by rfl) (.tmp 13) (.tmp 26) 24 24 (by rfl) 5 Tryd.underlying24 size5 _ _ _ _ _ _ (by rfl) (by rfl) L.bf 0 4096 5 f hrow (wi - r) HCN.out (fun j => L.at (p + j)) (fun hpos => ⟨by rfl, ⟨L.bf, r, none⟩, by rfl, HCell.out⟩) (by omega) (fun _ => rfl) ?_; intro w2 hrow2 hk2 hsz2))
  have hblk2 : w2.heap[L.bb]? = some (.cells #[.slice (some ⟨L.bf, 0, none⟩) 4096 4096, .iface 55 (.pointer (some ⟨L.rb, 0, none⟩)), .int .i64 r, .int .i64 wi, .nilIface, .int .i64 lb, .int .i64 lr] 74 (0, 0)) := (hk2.block L.bb (lt_blk (w := w) HB.out) (by simpa using hne1)).trans HB.out
  have HB2 : Hid (w2.heap[L.bb]? = some (.cells #[.slice (some ⟨L.bf, 0, none⟩) 4096 4096, .iface 55 (.pointer (some ⟨L.rb, 0, none⟩)), .int .i64 r, .int .i64 wi, .nilIface, .int .i64 lb, .int .i64 lr] 74 (0, 0))) := hblk2
  obtain ⟨_, _, d2, d3, _, _, _⟩ := cells7 hblk2
  have z2 := frozen_blk hblk2 2
  have z3 := frozen_blk hblk2 3
  clear hblk2 c0 c2 c3
  go_wp2
  have HR2 : Hid (w2.rowIs L.bf 5 4096 (fun j => if 0 ≤ j ∧ j < 0 + (wi - r) then L.at (p + (j - 0)) else f j)) := hrow2
  have HK2 : Hid (Keep [L.bf] w w2 ∧ w2.heap.size = w.heap.size) := ⟨hk2.of_drew, hsz2⟩
  clear hrow2 hk2 hsz2
  go_region
  go_wp2
  obtain ⟨w3, hw3⟩ : ∃ w3, w3 = ((w2.setCell ⟨L.bb, 3, none⟩ (.int .i64 ((wi : Int) - (r : Int)))).setCell ⟨L.bb, 2, none⟩ (.int .i64 0)).drew := ⟨_, rfl⟩
  obtain ⟨hR3, hk3, hs3⟩ := slid HR.out HK2.out.1 HK2.out.2 HR2.out hw3
  rw [← hw3]
  clear hw3 HR2 HK2 HB2 d2 d3 z2 z3 HCell HCN HB hrow hf src brd HR
  obtain ⟨k, hk⟩ : ∃ k, k = wi - r := ⟨_, rfl⟩
  rw [← hk] at hR3 hmore hroom
  clear hp
  have HK3 : Hid (Keep L.own w w3 ∧ w3.heap.size = w.heap.size) := ⟨hk3, hs3⟩
  clear hk3 hs3 hk
  have H3 : Hid (RdAt L w3 p 0 k .nilIface) := hR3
  obtain ⟨_, _, hkw, hkp, src3, brd3, ⟨lb3, lr3, blk3⟩, ⟨f3, hrow3, hf3⟩⟩ := hR3
  obtain ⟨c0, c1, _, c3, _, _, _⟩ := cells7 blk3
  have z3 := frozen_blk blk3 3
  have HF3 : Hid (∀ i, 0 ≤ i → i < k → f3 i = L.at (p + (i - 0))) := hf3
  clear hf3 blk3
  have hk4 : ¬ (4096 : Int) ≤ (k : Int) := by omega
  have hk4' : (k : Int) ≤ 4096 := by omega
  have hk4'' : ¬ 4096 = k := by omega
  go_quiet (fail)
  go_wp2
  refine wp_loop_rounds 1 ?_
  rw [rounds_succ]
  go_wp2
  have nA := nilAhead_read
  have mR := method_read
  have hne1' : L.bb ≠ L.rb := ap.h2
  have hne3 : L.bf ≠ L.rb := ap.h3
  obtain ⟨c, hc⟩ : ∃ c, c = min (L.n - (p + k)) (4096 - k) := ⟨_, rfl⟩
  have HC : Hid (c = min (L.n - (p + k)) (4096 - k)) := hc
  have hc0 : 0 < c := by omega
  have hc1 : c ≤ 4096 - k := by omega
  have hc2 : c ≤ L.n - (p + k) := by omega
  clear hc
  have hb3 : BRd L w3 (p + k) := brd3
  clear brd3
  go_region_held3 (fun w' => w'.cell? ⟨L.bb, 0, none⟩ = some (.slice (some ⟨L.bf, 0, none⟩) 4096 4096) ∧ w'.cell? ⟨L.bb, 1, none⟩ = some (.iface 55 (.pointer (some ⟨L.rb, 0, none⟩))) ∧ w'.cell? ⟨L.bb, 3, none⟩ = some (.int .i64 k))
    (first | go_keep | exact ⟨(hk4.cell (p := ⟨L.bb, 0, none⟩) (lt_of_cell c0) (by simp [hne1, hne1'])).trans c0, (hk4.cell (p := ⟨L.bb, 1, none⟩) (lt_of_cell c1) (by simp [hne1, hne1'])).trans c1, (hk4.cell (p := ⟨L.bb, 3, none⟩) (lt_of_cell c3) (by simp [hne1, hne1'])).trans c3⟩)
    (first | (go_at_call 115; refine (srcRead L ap L.bf k 4096 (4096 - k) (4096 - k) f3 _ (p + k) c hmore (by exact hb3) (by exact src3) (by exact hrow3) hne3 (by omega) HC.out).mono ?_; rintro e w4 ⟨rfl, hrow4, hb4, hk4, hsz4⟩))
  have e3 : w4.cell? ⟨L.bb, 3, none⟩ = some (.int .i64 k) := (hk4.cell (p := ⟨L.bb, 3, none⟩) (lt_of_cell c3) (by simp [hne1, hne1'])).trans c3
  have ez3 : w4.frozen? ⟨L.bb, 3, none⟩ = false := (hk4.frozen (p := ⟨L.bb, 3, none⟩) (lt_of_cell c3) (by simp [hne1, hne1'])).trans z3
  have HK4 : Hid (Keep [L.bf, L.rb] w3 w4 ∧ w4.heap.size = w3.heap.size) := ⟨hk4.of_drewN, hsz4⟩
  have HR4 : Hid (w4.rowIs L.bf 5 4096 (fun j => if k ≤ j ∧ j < k + c then L.at (p + k + (j - k)) else f3 j) ∧ BRd L w4 (p + k + c)) := ⟨hrow4, hb4⟩
  clear hk4 hsz4 hrow4 hb4 c0 c1 c3 z3 hrow3 src3 hb3 nA mR
  go_wp2
  refine bodyPost_ret (results_none rfl _ _ _) rfl ?_
  obtain ⟨hR5, hk5, hs5⟩ := filled H3.out HK4.out.1 HK4.out.2 HF3.out HR4.out.1 HR4.out.2 hc1 hc2 rfl
  refine ⟨rfl, ?_, (HK3.out.1).then hk5, hs5.trans HK3.out.2⟩
  have e : k + c = min 4096 (L.n - p) := by have := HC.out; omega
  rw [← e]; exact hR5
set_option maxRecDepth 100000 in
set_option maxHeartbeats 800000 in
theorem fill_eof_slid (L : Lay) (w : World) (p r wi : Nat) (e0 : Addr) (h : RdAt L w p r wi .nilIface) (hroom : wi - r < 4096) (hmore : p + (wi - r) = L.n) (hB : 0 < L.B) (g0 : w.cell? ⟨0, 0, none⟩ = some (.iface 126 (.pointer (some e0)))) (hr0 : 0 < r) (hr4 : r < 4096) :
    Calls Tryd.prog 46 #[.pointer (some ⟨L.bb, 0, none⟩)] w fun e w' => e = .returned (.tuple #[]) ∧ RdAt L w' p 0 (wi - r) (.iface 126 (.pointer (some e0))) ∧ Keep L.own w w' ∧ w'.heap.size = w.heap.size := by
  have HR : Hid (RdAt L w p r wi .nilIface) := h
  obtain ⟨ap, hr, hw, hp, src, brd, ⟨lb, lr, blk⟩, ⟨f, hrow, hf⟩⟩ := h
  have hne4 : ¬ 4096 = r := by omega
  obtain ⟨c0, _, c2, c3, _, _, _⟩ := cells7 blk
  have HB : Hid (w.heap[L.bb]? = some (.cells #[.slice (some ⟨L.bf, 0, none⟩) 4096 4096, .iface 55 (.pointer (some ⟨L.rb, 0, none⟩)), .int .i64 r, .int .i64 wi, .nilIface, .int .i64 lb, .int .i64 lr] 74 (0, 0))) := blk
  have hne1 : L.bb ≠ L.bf := ap.h1
  clear blk
  have hr0' : (0 : Int) < (r : Int) := by omega
  have hrw : (r : Int) ≤ (wi : Int) := by omega
  have hw4 : (wi : Int) ≤ 4096 := by omega
  have hcn : wi - r = Nat.min (wi - r) 4096 := (Nat.min_eq_left (by omega)).symm
  have HCN : Hid (wi - r = Nat.min (wi - r) 4096) := hcn
  clear hcn
  have hcell : ∀ j, j < wi - r → w.drew.cell? ((⟨L.bf, r, none⟩ : Addr).add j) = some (L.at (p + j)) := fun j hj => by
    rw [WideShapes.add_plain]; exact (hrow.cell (by omega)).trans (by rw [hf (r + j) (by omega) (by omega), Nat.add_sub_cancel_left])
  have HCell : Hid (∀ j, j < wi - r → w.drew.cell? ((⟨L.bf, r, none⟩ : Addr).add j) = some (L.at (p + j))) := hcell
  clear hcell
  go_enter Tryd.func46, Tryd.ntmps46
  go_wp2
  go_region_held3 (fun w' => w'.cell? ⟨L.bb, 0, none⟩ = some (.slice (some ⟨L.bf, 0, none⟩) 4096 4096) ∧ w'.cell? ⟨L.bb, 2, none⟩ = some (.int .i64 r) ∧ w'.cell? ⟨L.bb, 3, none⟩ = some (.int .i64 wi))
    (first | go_keep | exact ⟨(hk2.cell (p := ⟨L.bb, 0, none⟩) (lt_of_cell c0) (by simpa using hne1)).trans c0, (hk2.cell (p := ⟨L.bb, 2, none⟩) (lt_of_cell c2) (by simpa using hne1)).trans c2, (hk2.cell (p := ⟨L.bb, 3, none⟩) (lt_of_cell c3) (by simpa using hne1)).trans c3⟩)
    ((refine step_copy_fn (by rfl) (.tmp 13) (.tmp 26) 24 24 (by rfl) 5 Tryd.underlying24 size5 _ _ _ _ _ _ (by rfl) (by rfl) L.bf 0 4096 5 f hrow (wi - r) HCN.out (fun j => L.at (p + j)) (fun hpos => ⟨by rfl, ⟨L.bf, r, none⟩, by rfl, HCell.out⟩) (by omega) (fun _ => rfl) ?_; intro w2 hrow2 hk2 hsz2))
  have hblk2 : w2.heap[L.bb]? = some (.cells #[.slice (some ⟨L.bf, 0, none⟩) 4096 4096, .iface 55 (.pointer (some ⟨L.rb, 0, none⟩)), .int .i64 r, .int .i64 wi, .nilIface, .int .i64 lb, .int .i64 lr] 74 (0, 0)) := (hk2.block L.bb (lt_blk (w := w) HB.out) (by simpa using hne1)).trans HB.out
  have HB2 : Hid (w2.heap[L.bb]? = some (.cells #[.slice (some ⟨L.bf, 0, none⟩) 4096 4096, .iface 55 (.pointer (some ⟨L.rb, 0, none⟩)), .int .i64 r, .int .i64 wi, .nilIface, .int .i64 lb, .int .i64 lr] 74 (0, 0))) := hblk2
  obtain ⟨_, _, d2, d3, _, _, _⟩ := cells7 hblk2
  have z2 := frozen_blk hblk2 2
  have z3 := frozen_blk hblk2 3
  clear hblk2 c0 c2 c3
  go_wp2
  have HR2 : Hid (w2.rowIs L.bf 5 4096 (fun j => if 0 ≤ j ∧ j < 0 + (wi - r) then L.at (p + (j - 0)) else f j)) := hrow2
  have HK2 : Hid (Keep [L.bf] w w2 ∧ w2.heap.size = w.heap.size) := ⟨hk2.of_drew, hsz2⟩
  clear hrow2 hk2 hsz2
  go_region
  go_wp2
  obtain ⟨w3, hw3⟩ : ∃ w3, w3 = ((w2.setCell ⟨L.bb, 3, none⟩ (.int .i64 ((wi : Int) - (r : Int)))).setCell ⟨L.bb, 2, none⟩ (.int .i64 0)).drew := ⟨_, rfl⟩
  obtain ⟨hR3, hk3, hs3⟩ := slid HR.out HK2.out.1 HK2.out.2 HR2.out hw3
  rw [← hw3]
  clear hw3 HR2 HK2 HB2 d2 d3 z2 z3 HCell HCN HB hrow hf src brd HR
  obtain ⟨k, hk⟩ : ∃ k, k = wi - r := ⟨_, rfl⟩
  rw [← hk] at hR3 hmore hroom
  clear hp
  have g0' : w3.cell? ⟨0, 0, none⟩ = some (.iface 126 (.pointer (some e0))) := (hk3.cell (p := ⟨0, 0, none⟩) (lt_of_cell g0) (by have h1 := ap.B1; have h2 := ap.B2; have h3 := ap.B3; simp [Lay.own]; omega)).trans g0
  have HKK : Hid (k = wi - r) := hk
  have HK3 : Hid (Keep L.own w w3 ∧ w3.heap.size = w.heap.size) := ⟨hk3, hs3⟩
  clear hk3 hs3 hk
  have H3 : Hid (RdAt L w3 p 0 k .nilIface) := hR3
  obtain ⟨_, _, hkw, hkp, src3, brd3, ⟨lb3, lr3, blk3⟩, ⟨f3, hrow3, hf3⟩⟩ := hR3
  obtain ⟨c0, c1, _, c3, c4, _, _⟩ := cells7 blk3
  have z3 := frozen_blk blk3 3
  have z4 := frozen_blk blk3 4
  clear hf3 blk3
  have hk4 : ¬ (4096 : Int) ≤ (k : Int) := by omega
  have hk4' : (k : Int) ≤ 4096 := by omega
  have hk4'' : ¬ 4096 = k := by omega
  go_quiet (fail)
  go_wp2
  refine wp_loop_rounds 1 ?_
  rw [rounds_succ]
  go_wp2
  have nA := nilAhead_read
  have mR := method_read
  have hb3 : BRd L w3 (p + k) := brd3
  clear brd3
  go_region_held3 (fun w' => w'.cell? ⟨L.bb, 0, none⟩ = some (.slice (some ⟨L.bf, 0, none⟩) 4096 4096) ∧ w'.cell? ⟨L.bb, 1, none⟩ = some (.iface 55 (.pointer (some ⟨L.rb, 0, none⟩))) ∧ w'.cell? ⟨L.bb, 3, none⟩ = some (.int .i64 k))
    (go_keep)
    (first | (go_at_call 115; refine (srcRead_eof L _ _ _ _ (p + k) e0 (by omega) (by exact hb3) (by exact g0')).mono ?_; rintro e w4 ⟨rfl, n, rfl⟩))
  clear hrow3 src3 hb3 nA mR
  go_wp2
  refine bodyPost_ret (results_none rfl _ _ _) rfl ?_
  obtain ⟨hR5, hk5, hs5⟩ := eofed (n := nq + 1 + n) (e0 := e0) H3.out rfl
  rw [← HKK.out]
  exact ⟨rfl, hR5, (HK3.out.1).then hk5, hs5.trans HK3.out.2⟩

set_option maxRecDepth 100000 in
set_option maxHeartbeats 800000 in
theorem fill_more_end (L : Lay) (w : World) (p r wi : Nat) (h : RdAt L w p r wi .nilIface) (hroom : wi - r < 4096) (hmore : p + (wi - r) < L.n) (hr4 : r = 4096) :
    Calls Tryd.prog 46 #[.pointer (some ⟨L.bb, 0, none⟩)] w fun e w' => e = .returned (.tuple #[]) ∧ RdAt L w' p 0 (min 4096 (L.n - p)) .nilIface ∧ Keep L.own w w' ∧ w'.heap.size = w.heap.size := by
  obtain rfl : r = 4096 := hr4
  obtain rfl : wi = 4096 := by have := h.hr; have := h.hw; omega
  have HR : Hid (RdAt L w p 4096 4096 .nilIface) := h
  obtain ⟨ap, hr, hw, hp, src, brd, ⟨lb, lr, blk⟩, ⟨f, hrow, hf⟩⟩ := h
  obtain ⟨c0, _, c2, c3, _, _, _⟩ := cells7 blk
  have HB : Hid (w.heap[L.bb]? = some (.cells #[.slice (some ⟨L.bf, 0, none⟩) 4096 4096, .iface 55 (.pointer (some ⟨L.rb, 0, none⟩)), .int .i64 (4096 : Nat), .int .i64 (4096 : Nat), .nilIface, .int .i64 lb, .int .i64 lr] 74 (0, 0))) := blk
  have hne1 : L.bb ≠ L.bf := ap.h1
  clear blk
  go_enter Tryd.func46, Tryd.ntmps46
  go_wp2
  go_region_held3 (fun w' => w'.cell? ⟨L.bb, 0, none⟩ = some (.slice (some ⟨L.bf, 0, none⟩) 4096 4096) ∧ w'.cell? ⟨L.bb, 2, none⟩ = some (.int .i64 4096) ∧ w'.cell? ⟨L.bb, 3, none⟩ = some (.int .i64 4096))
    (first | go_keep | exact ⟨(hk2.cell (p := ⟨L.bb, 0, none⟩) (lt_of_cell c0) (by simpa using hne1)).trans c0, (hk2.cell (p := ⟨L.bb, 2, none⟩) (lt_of_cell c2) (by simpa using hne1)).trans c2, (hk2.cell (p := ⟨L.bb, 3, none⟩) (lt_of_cell c3) (by simpa using hne1)).trans c3⟩)
    ((refine step_copy_fn (by rfl) (.tmp 13) (.tmp 26) 24 24 (by rfl) 5 Tryd.underlying24 size5 _ _ _ _ _ _ (by rfl) (by rfl) L.bf 0 4096 5 f hrow 0 (by rfl) (fun j => L.at (p + j)) (fun hpos => absurd hpos (by omega)) (by omega) (fun _ => rfl) ?_; intro w2 hrow2 hk2 hsz2))
  have hblk2 : w2.heap[L.bb]? = some (.cells #[.slice (some ⟨L.bf, 0, none⟩) 4096 4096, .iface 55 (.pointer (some ⟨L.rb, 0, none⟩)), .int .i64 (4096 : Nat), .int .i64 (4096 : Nat), .nilIface, .int .i64 lb, .int .i64 lr] 74 (0, 0)) := (hk2.block L.bb (lt_blk (w := w) HB.out) (by simpa using hne1)).trans HB.out
  obtain ⟨_, _, d2, d3, _, _, _⟩ := cells7 hblk2
  have z2 := frozen_blk hblk2 2
  have z3 := frozen_blk hblk2 3
  clear hblk2 c0 c2 c3
  have HR2 : Hid (w2.rowIs L.bf 5 4096 (fun j => if 0 ≤ j ∧ j < 0 + (4096 - 4096) then L.at (p + (j - 0)) else f j)) := hrow2
  have HK2 : Hid (Keep [L.bf] w w2 ∧ w2.heap.size = w.heap.size) := ⟨hk2.of_drew, hsz2⟩
  clear hrow2 hk2 hsz2
  go_wp2
  go_region
  go_wp2
  obtain ⟨w3, hw3⟩ : ∃ w3, w3 = ((w2.setCell ⟨L.bb, 3, none⟩ (.int .i64 0)).setCell ⟨L.bb, 2, none⟩ (.int .i64 0)).drew := ⟨_, rfl⟩
  obtain ⟨hR3, hk3, hs3⟩ := slid HR.out HK2.out.1 HK2.out.2 HR2.out (w3 := w3) (by rw [hw3]; rfl)
  rw [← hw3]
  clear hw3 HR2 HK2 d2 d3 z2 z3 HB hrow hf src brd HR
  obtain ⟨k, hk⟩ : ∃ k, k = 4096 - 4096 := ⟨_, rfl⟩
  rw [← hk] at hR3 hmore hroom
  clear hp
  have HK3 : Hid (Keep L.own w w3 ∧ w3.heap.size = w.heap.size) := ⟨hk3, hs3⟩
  clear hk3 hs3 hk
  have H3 : Hid (RdAt L w3 p 0 k .nilIface) := hR3
  obtain ⟨_, _, hkw, hkp, src3, brd3, ⟨lb3, lr3, blk3⟩, ⟨f3, hrow3, hf3⟩⟩ := hR3
  obtain ⟨c0, c1, _, c3, _, _, _⟩ := cells7 blk3
  have z3 := frozen_blk blk3 3
  have HF3 : Hid (∀ i, 0 ≤ i → i < k → f3 i = L.at (p + (i - 0))) := hf3
  clear hf3 blk3
  have hk4 : ¬ (4096 : Int) ≤ (k : Int) := by omega
  have hk4' : (k : Int) ≤ 4096 := by omega
  have hk4'' : ¬ 4096 = k := by omega
  go_quiet (fail)
  go_wp2
  refine wp_loop_rounds 1 ?_
  rw [rounds_succ]
  go_wp2
  have nA := nilAhead_read
  have mR := method_read
  have hne1' : L.bb ≠ L.rb := ap.h2
  have hne3 : L.bf ≠ L.rb := ap.h3
  obtain ⟨c, hc⟩ : ∃ c, c = min (L.n - (p + k)) (4096 - k) := ⟨_, rfl⟩
  have HC : Hid (c = min (L.n - (p + k)) (4096 - k)) := hc
  have hc0 : 0 < c := by omega
  have hc1 : c ≤ 4096 - k := by omega
  have hc2 : c ≤ L.n - (p + k) := by omega
  clear hc
  have hb3 : BRd L w3 (p + k) := brd3
  clear brd3
  go_region_held3 (fun w' => w'.cell? ⟨L.bb, 0, none⟩ = some (.slice (some ⟨L.bf, 0, none⟩) 4096 4096) ∧ w'.cell? ⟨L.bb, 1, none⟩ = some (.iface 55 (.pointer (some ⟨L.rb, 0, none⟩))) ∧ w'.cell? ⟨L.bb, 3, none⟩ = some (.int .i64 k))
    (first | go_keep | exact ⟨(hk4.cell (p := ⟨L.bb, 0, none⟩) (lt_of_cell c0) (by simp [hne1, hne1'])).trans c0, (hk4.cell (p := ⟨L.bb, 1, none⟩) (lt_of_cell c1) (by simp [hne1, hne1'])).trans c1, (hk4.cell (p := ⟨L.bb, 3, none⟩) (lt_of_cell c3) (by simp [hne1, hne1'])).trans c3⟩)
    (first | (go_at_call 115; refine (srcRead L ap L.bf k 4096 (4096 - k) (4096 - k) f3 _ (p + k) c hmore (by exact hb3) (by exact src3) (by exact hrow3) hne3 (by omega) HC.out).mono ?_; rintro e w4 ⟨rfl, hrow4, hb4, hk4, hsz4⟩))
  have e3 : w4.cell? ⟨L.bb, 3, none⟩ = some (.int .i64 k) := (hk4.cell (p := ⟨L.bb, 3, none⟩) (lt_of_cell c3) (by simp [hne1, hne1'])).trans c3
  have ez3 : w4.frozen? ⟨L.bb, 3, none⟩ = false := (hk4.frozen (p := ⟨L.bb, 3, none⟩) (lt_of_cell c3) (by simp [hne1, hne1'])).trans z3
  have HK4 : Hid (Keep [L.bf, L.rb] w3 w4 ∧ w4.heap.size = w3.heap.size) := ⟨hk4.of_drewN, hsz4⟩
  have HR4 : Hid (w4.rowIs L.bf 5 4096 (fun j => if k ≤ j ∧ j < k + c then L.at (p + k + (j - k)) else f3 j) ∧ BRd L w4 (p + k + c)) := ⟨hrow4, hb4⟩
  clear hk4 hsz4 hrow4 hb4 c0 c1 c3 z3 hrow3 src3 hb3 nA mR
  go_wp2
  refine bodyPost_ret (results_none rfl _ _ _) rfl ?_
  obtain ⟨hR5, hk5, hs5⟩ := filled H3.out HK4.out.1 HK4.out.2 HF3.out HR4.out.1 HR4.out.2 hc1 hc2 rfl
  refine ⟨rfl, ?_, (HK3.out.1).then hk5, hs5.trans HK3.out.2⟩
  have e : k + c = min 4096 (L.n - p) := by have := HC.out; omega
  rw [← e]; exact hR5
set_option maxRecDepth 100000 in
set_option maxHeartbeats 800000 in
theorem fill_eof_end (L : Lay) (w : World) (p r wi : Nat) (e0 : Addr) (h : RdAt L w p r wi .nilIface) (hroom : wi - r < 4096) (hmore : p + (wi - r) = L.n) (hB : 0 < L.B) (g0 : w.cell? ⟨0, 0, none⟩ = some (.iface 126 (.pointer (some e0)))) (hr4 : r = 4096) :
    Calls Tryd.prog 46 #[.pointer (some ⟨L.bb, 0, none⟩)] w fun e w' => e = .returned (.tuple #[]) ∧ RdAt L w' p 0 (wi - r) (.iface 126 (.pointer (some e0))) ∧ Keep L.own w w' ∧ w'.heap.size = w.heap.size := by
  obtain rfl : r = 4096 := hr4
  obtain rfl : wi = 4096 := by have := h.hr; have := h.hw; omega
  have HR : Hid (RdAt L w p 4096 4096 .nilIface) := h
  obtain ⟨ap, hr, hw, hp, src, brd, ⟨lb, lr, blk⟩, ⟨f, hrow, hf⟩⟩ := h
  obtain ⟨c0, _, c2, c3, _, _, _⟩ := cells7 blk
  have HB : Hid (w.heap[L.bb]? = some (.cells #[.slice (some ⟨L.bf, 0, none⟩) 4096 4096, .iface 55 (.pointer (some ⟨L.rb, 0, none⟩)), .int .i64 (4096 : Nat), .int .i64 (4096 : Nat), .nilIface, .int .i64 lb, .int .i64 lr] 74 (0, 0))) := blk
  have hne1 : L.bb ≠ L.bf := ap.h1
  clear blk
  go_enter Tryd.func46, Tryd.ntmps46
  go_wp2
  go_region_held3 (fun w' => w'.cell? ⟨L.bb, 0, none⟩ = some (.slice (some ⟨L.bf, 0, none⟩) 4096 4096) ∧ w'.cell? ⟨L.bb, 2, none⟩ = some (.int .i64 4096) ∧ w'.cell? ⟨L.bb, 3, none⟩ = some (.int .i64 4096))
    (first | go_keep | exact ⟨(hk2.cell (p := ⟨L.bb, 0, none⟩) (lt_of_cell c0) (by simpa using hne1)).trans c0, (hk2.cell (p := ⟨L.bb, 2, none⟩) (lt_of_cell c2) (by simpa using hne1)).trans c2, (hk2.cell (p := ⟨L.bb, 3, none⟩) (lt_of_cell c3) (by simpa using hne1)).trans c3⟩)
    ((refine step_copy_fn (by rfl) (.tmp 13) (.tmp 26) 24 24 (by rfl) 5 Tryd.underlying24 size5 _ _ _ _ _ _ (by rfl) (by rfl) L.bf 0 4096 5 f hrow 0 (by rfl) (fun j => L.at (p + j)) (fun hpos => absurd hpos (by omega)) (by omega) (fun _ => rfl) ?_; intro w2 hrow2 hk2 hsz2))
  have hblk2 : w2.heap[L.bb]? = some (.cells #[.slice (some ⟨L.bf, 0, none⟩) 4096 4096, .iface 55 (.pointer (some ⟨L.rb, 0, none⟩)), .int .i64 (4096 : Nat), .int .i64 (4096 : Nat), .nilIface, .int .i64 lb, .int .i64 lr] 74 (0, 0)) := (hk2.block L.bb (lt_blk (w := w) HB.out) (by simpa using hne1)).trans HB.out
  obtain ⟨_, _, d2, d3, _, _, _⟩ := cells7 hblk2
  have z2 := frozen_blk hblk2 2
  have z3 := frozen_blk hblk2 3
  clear hblk2 c0 c2 c3
  have HR2 : Hid (w2.rowIs L.bf 5 4096 (fun j => if 0 ≤ j ∧ j < 0 + (4096 - 4096) then L.at (p + (j - 0)) else f j)) := hrow2
  have HK2 : Hid (Keep [L.bf] w w2 ∧ w2.heap.size = w.heap.size) := ⟨hk2.of_drew, hsz2⟩
  clear hrow2 hk2 hsz2
  go_wp2
  go_region
  go_wp2
  obtain ⟨w3, hw3⟩ : ∃ w3, w3 = ((w2.setCell ⟨L.bb, 3, none⟩ (.int .i64 0)).setCell ⟨L.bb, 2, none⟩ (.int .i64 0)).drew := ⟨_, rfl⟩
  obtain ⟨hR3, hk3, hs3⟩ := slid HR.out HK2.out.1 HK2.out.2 HR2.out (w3 := w3) (by rw [hw3]; rfl)
  rw [← hw3]
  clear hw3 HR2 HK2 d2 d3 z2 z3 HB hrow hf src brd HR
  obtain ⟨k, hk⟩ : ∃ k, k = 4096 - 4096 := ⟨_, rfl⟩
  rw [← hk] at hR3 hmore hroom
  clear hp
  have g0' : w3.cell? ⟨0, 0, none⟩ = some (.iface 126 (.pointer (some e0))) := (hk3.cell (p := ⟨0, 0, none⟩) (lt_of_cell g0) (by have h1 := ap.B1; have h2 := ap.B2; have h3 := ap.B3; simp [Lay.own]; omega)).trans g0
  have HKK : Hid (k = 4096 - 4096) := hk
  have HK3 : Hid (Keep L.own w w3 ∧ w3.heap.size = w.heap.size) := ⟨hk3, hs3⟩
  clear hk3 hs3 hk
  have H3 : Hid (RdAt L w3 p 0 k .nilIface) := hR3
  obtain ⟨_, _, hkw, hkp, src3, brd3, ⟨lb3, lr3, blk3⟩, ⟨f3, hrow3, hf3⟩⟩ := hR3
  obtain ⟨c0, c1, _, c3, c4, _, _⟩ := cells7 blk3
  have z3 := frozen_blk blk3 3
  have z4 := frozen_blk blk3 4
  clear hf3 blk3
  have hk4 : ¬ (4096 : Int) ≤ (k : Int) := by omega
  have hk4' : (k : Int) ≤ 4096 := by omega
  have hk4'' : ¬ 4096 = k := by omega
  go_quiet (fail)
  go_wp2
  refine wp_loop_rounds 1 ?_
  rw [rounds_succ]
  go_wp2
  have nA := nilAhead_read
  have mR := method_read
  have hb3 : BRd L w3 (p + k) := brd3
  clear brd3
  go_region_held3 (fun w' => w'.cell? ⟨L.bb, 0, none⟩ = some (.slice (some ⟨L.bf, 0, none⟩) 4096 4096) ∧ w'.cell? ⟨L.bb, 1, none⟩ = some (.iface 55 (.pointer (some ⟨L.rb, 0, none⟩))) ∧ w'.cell? ⟨L.bb, 3, none⟩ = some (.int .i64 k))
    (go_keep)
    (first | (go_at_call 115; refine (srcRead_eof L _ _ _ _ (p + k) e0 (by omega) (by exact hb3) (by exact g0')).mono ?_; rintro e w4 ⟨rfl, n, rfl⟩))
  clear hrow3 src3 hb3 nA mR
  go_wp2
  refine bodyPost_ret (results_none rfl _ _ _) rfl ?_
  obtain ⟨hR5, hk5, hs5⟩ := eofed (n := nq + 1 + n) (e0 := e0) H3.out rfl
  have hk0 : k = 0 := HKK.out
  subst hk0
  exact ⟨rfl, hR5, (HK3.out.1).then hk5, hs5.trans HK3.out.2⟩

set_option maxRecDepth 100000 in
set_option maxHeartbeats 800000 in
theorem fill_more_zero (L : Lay) (w : World) (p r wi : Nat) (h : RdAt L w p r wi .nilIface) (hroom : wi - r < 4096) (hmore : p + (wi - r) < L.n) (hr0 : r = 0) :
    Calls Tryd.prog 46 #[.pointer (some ⟨L.bb, 0, none⟩)] w fun e w' => e = .returned (.tuple #[]) ∧ RdAt L w' p 0 (min 4096 (L.n - p)) .nilIface ∧ Keep L.own w w' ∧ w'.heap.size = w.heap.size := by
  obtain rfl : r = 0 := hr0
  have ap := h.ap
  have hne1 : L.bb ≠ L.bf := ap.h1
  obtain ⟨k, hk⟩ : ∃ k, k = wi - 0 := ⟨_, rfl⟩
  have hkw : k = wi := hk
  subst hkw
  rw [Nat.sub_zero] at hmore hroom
  have hR3 := h
  have hk3 : Keep L.own w w := Keep.refl _ _
  have d2 : w.cell? ⟨L.bb, 2, none⟩ = some (.int .i64 (0 : Nat)) := by obtain ⟨lb, lr, e⟩ := h.blk; exact (cells7 e).2.2.1
  go_enter Tryd.func46, Tryd.ntmps46
  go_wp2
  clear d2 h
  have HK3 : Hid (Keep L.own w w) := hk3
  clear hk3 hk
  have H3 : Hid (RdAt L w p 0 k .nilIface) := hR3
  obtain ⟨_, _, hkw, hkp, src3, brd3, ⟨lb3, lr3, blk3⟩, ⟨f3, hrow, hf3⟩⟩ := hR3
  obtain ⟨c0, c1, _, c3, _, _, _⟩ := cells7 blk3
  have z3 := frozen_blk blk3 3
  have HF3 : Hid (∀ i, 0 ≤ i → i < k → f3 i = L.at (p + (i - 0))) := hf3
  clear hf3 blk3
  have hk4 : ¬ (4096 : Int) ≤ (k : Int) := by omega
  have hk4' : (k : Int) ≤ 4096 := by omega
  have hk4'' : ¬ 4096 = k := by omega
  go_quiet (fail)
  go_wp2
  refine wp_loop_rounds 1 ?_
  rw [rounds_succ]
  go_wp2
  have nA := nilAhead_read
  have mR := method_read
  have hne1' : L.bb ≠ L.rb := ap.h2
  have hne3 : L.bf ≠ L.rb := ap.h3
  obtain ⟨c, hc⟩ : ∃ c, c = min (L.n - (p + k)) (4096 - k) := ⟨_, rfl⟩
  have HC : Hid (c = min (L.n - (p + k)) (4096 - k)) := hc
  have hc0 : 0 < c := by omega
  have hc1 : c ≤ 4096 - k := by omega
  have hc2 : c ≤ L.n - (p + k) := by omega
  clear hc
  have hb3 : BRd L w (p + k) := brd3
  clear brd3
  go_region_held3 (fun w' => w'.cell? ⟨L.bb, 0, none⟩ = some (.slice (some ⟨L.bf, 0, none⟩) 4096 4096) ∧ w'.cell? ⟨L.bb, 1, none⟩ = some (.iface 55 (.pointer (some ⟨L.rb, 0, none⟩))) ∧ w'.cell? ⟨L.bb, 3, none⟩ = some (.int .i64 k))
    (first | go_keep | exact ⟨(hk4.cell (p := ⟨L.bb, 0, none⟩) (lt_of_cell c0) (by simp [hne1, hne1'])).trans c0, (hk4.cell (p := ⟨L.bb, 1, none⟩) (lt_of_cell c1) (by simp [hne1, hne1'])).trans c1, (hk4.cell (p := ⟨L.bb, 3, none⟩) (lt_of_cell c3) (by simp [hne1, hne1'])).trans c3⟩)
    (first | (go_at_call 115; refine (srcRead L ap L.bf k 4096 (4096 - k) (4096 - k) f3 _ (p + k) c hmore (by exact hb3) (by exact src3) (by exact hrow) hne3 (by omega) HC.out).mono ?_; rintro e w4 ⟨rfl, hrow4, hb4, hk4, hsz4⟩))
  have e3 : w4.cell? ⟨L.bb, 3, none⟩ = some (.int .i64 k) := (hk4.cell (p := ⟨L.bb, 3, none⟩) (lt_of_cell c3) (by simp [hne1, hne1'])).trans c3
  have ez3 : w4.frozen? ⟨L.bb, 3, none⟩ = false := (hk4.frozen (p := ⟨L.bb, 3, none⟩) (lt_of_cell c3) (by simp [hne1, hne1'])).trans z3
  have HK4 : Hid (Keep [L.bf, L.rb] w w4 ∧ w4.heap.size = w.heap.size) := ⟨hk4.of_drewN, hsz4⟩
  have HR4 : Hid (w4.rowIs L.bf 5 4096 (fun j => if k ≤ j ∧ j < k + c then L.at (p + k + (j - k)) else f3 j) ∧ BRd L w4 (p + k + c)) := ⟨hrow4, hb4⟩
  clear hk4 hsz4 hrow4 hb4 c0 c1 c3 z3 hrow src3 hb3 nA mR
  go_wp2
  refine bodyPost_ret (results_none rfl _ _ _) rfl ?_
  obtain ⟨hR5, hk5, hs5⟩ := filled H3.out HK4.out.1 HK4.out.2 HF3.out HR4.out.1 HR4.out.2 hc1 hc2 rfl
  refine ⟨rfl, ?_, hk5, hs5⟩
  have e : k + c = min 4096 (L.n - p) := by have := HC.out; omega
  rw [← e]; exact hR5
set_option maxRecDepth 100000 in
set_option maxHeartbeats 800000 in
theorem fill_eof_zero (L : Lay) (w : World) (p r wi : Nat) (e0 : Addr) (h : RdAt L w p r wi .nilIface) (hroom : wi - r < 4096) (hmore : p + (wi - r) = L.n) (hB : 0 < L.B) (g0 : w.cell? ⟨0, 0, none⟩ = some (.iface 126 (.pointer (some e0)))) (hr0 : r = 0) :
    Calls Tryd.prog 46 #[.pointer (some ⟨L.bb, 0, none⟩)] w fun e w' => e = .returned (.tuple #[]) ∧ RdAt L w' p 0 (wi - r) (.iface 126 (.pointer (some e0))) ∧ Keep L.own w w' ∧ w'.heap.size = w.heap.size := by
  obtain rfl : r = 0 := hr0
  have ap := h.ap
  have hne1 : L.bb ≠ L.bf := ap.h1
  obtain ⟨k, hk⟩ : ∃ k, k = wi - 0 := ⟨_, rfl⟩
  have hkw : k = wi := hk
  subst hkw
  rw [Nat.sub_zero] at hmore hroom
  have hR3 := h
  have hk3 : Keep L.own w w := Keep.refl _ _
  have d2 : w.cell? ⟨L.bb, 2, none⟩ = some (.int .i64 (0 : Nat)) := by obtain ⟨lb, lr, e⟩ := h.blk; exact (cells7 e).2.2.1
  go_enter Tryd.func46, Tryd.ntmps46
  go_wp2
  clear d2 h
  have g0' : w.cell? ⟨0, 0, none⟩ = some (.iface 126 (.pointer (some e0))) := (hk3.cell (p := ⟨0, 0, none⟩) (lt_of_cell g0) (by have h1 := ap.B1; have h2 := ap.B2; have h3 := ap.B3; simp [Lay.own]; omega)).trans g0
  have HK3 : Hid (Keep L.own w w) := hk3
  clear hk3 hk
  have H3 : Hid (RdAt L w p 0 k .nilIface) := hR3
  obtain ⟨_, _, hkw, hkp, src3, brd3, ⟨lb3, lr3, blk3⟩, ⟨f3, hrow, hf3⟩⟩ := hR3
  obtain ⟨c0, c1, _, c3, c4, _, _⟩ := cells7 blk3
  have z3 := frozen_blk blk3 3
  have z4 := frozen_blk blk3 4
  clear hf3 blk3
  have hk4 : ¬ (4096 : Int) ≤ (k : Int) := by omega
  have hk4' : (k : Int) ≤ 4096 := by omega
  have hk4'' : ¬ 4096 = k := by omega
  go_quiet (fail)
  go_wp2
  refine wp_loop_rounds 1 ?_
  rw [rounds_succ]
  go_wp2
  have nA := nilAhead_read
  have mR := method_read
  have hb3 : BRd L w (p + k) := brd3
  clear brd3
  go_region_held3 (fun w' => w'.cell? ⟨L.bb, 0, none⟩ = some (.slice (some ⟨L.bf, 0, none⟩) 4096 4096) ∧ w'.cell? ⟨L.bb, 1, none⟩ = some (.iface 55 (.pointer (some ⟨L.rb, 0, none⟩))) ∧ w'.cell? ⟨L.bb, 3, none⟩ = some (.int .i64 k))
    (go_keep)
    (first | (go_at_call 115; refine (srcRead_eof L _ _ _ _ (p + k) e0 (by omega) (by exact hb3) (by exact g0')).mono ?_; rintro e w4 ⟨rfl, n, rfl⟩))
  clear hrow src3 hb3 nA mR
  go_wp2
  refine bodyPost_ret (results_none rfl _ _ _) rfl ?_
  obtain ⟨hR5, hk5, hs5⟩ := eofed (n := nq + 1 + n) (e0 := e0) H3.out rfl
  exact ⟨rfl, hR5, hk5, hs5⟩

theorem fill_more (L : Lay) (w : World) (p r wi : Nat) (h : RdAt L w p r wi .nilIface) (hroom : wi - r < 4096) (hmore : p + (wi - r) < L.n) :
    Calls Tryd.prog 46 #[.pointer (some ⟨L.bb, 0, none⟩)] w fun e w' => e = .returned (.tuple #[]) ∧ RdAt L w' p 0 (min 4096 (L.n - p)) .nilIface ∧ Keep L.own w w' ∧ w'.heap.size = w.heap.size := by
  by_cases h0 : r = 0
  · exact fill_more_zero L w p r wi h hroom hmore h0
  by_cases h4 : r = 4096
  · exact fill_more_end L w p r wi h hroom hmore h4
  · exact fill_more_slid L w p r wi h hroom hmore (by omega) (by have := h.hr; have := h.hw; omega)

theorem fill_eof (L : Lay) (w : World) (p r wi : Nat) (e0 : Addr) (h : RdAt L w p r wi .nilIface) (hroom : wi - r < 4096) (hmore : p + (wi - r) = L.n) (hB : 0 < L.B) (g0 : w.cell? ⟨0, 0, none⟩ = some (.iface 126 (.pointer (some e0)))) :
    Calls Tryd.prog 46 #[.pointer (some ⟨L.bb, 0, none⟩)] w fun e w' => e = .returned (.tuple #[]) ∧ RdAt L w' p 0 (wi - r) (.iface 126 (.pointer (some e0))) ∧ Keep L.own w w' ∧ w'.heap.size = w.heap.size := by
  by_cases h0 : r = 0
  · exact fill_eof_zero L w p r wi e0 h hroom hmore hB g0 h0
  by_cases h4 : r = 4096
  · exact fill_eof_end L w p r wi e0 h hroom hmore hB g0 h4
  · exact fill_eof_slid L w p r wi e0 h hroom hmore hB g0 (by omega) (by have := h.hr; have := h.hw; omega)
end Go.Proofs.Qxb6616140aDoor
