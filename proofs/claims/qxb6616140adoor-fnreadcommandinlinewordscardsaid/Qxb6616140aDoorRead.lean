/- (*bufio.Reader).Read. -/
import Derived.Test.Qxb6616140aDoorSliceE
namespace Go.Proofs.Qxb6616140aDoor
open Go.RowKit

theorem set_drew_ne {w : World} {a b : Addr} {v u : Value} (h : w.cell? b = some u) (hne : a ≠ b) : (w.setCell a v).drew.cell? b = some u := (World.cell?_setCell_other w a b v hne).trans h

/-- Where a read may lay its bytes: a row of another block than the reader's own. -/
structure Dest (L : Lay) (w : World) (g off dl N : Nat) (t : TypeId) (f : Nat → Value) : Prop where
  row : w.rowIs g t N f
  fit : off + dl ≤ N
  nbb : g ≠ L.bb
  nbf : g ≠ L.bf
  nrb : g ≠ L.rb
  nsb : g ≠ L.sb

/-- What has been read, laid into the row. -/
def laid (L : Lay) (p off c : Nat) (f : Nat → Value) : Nat → Value := fun j => if off ≤ j ∧ j < off + c then L.at (p + (j - off)) else f j

theorem readDone {L : Lay} {w2 w3 w5 : World} {p r wi c : Nat} {x : Int} (h : RdAt L w2 p r wi .nilIface) (hc : c ≤ wi - r) (hw3 : w3 = w2.setCell ⟨L.bb, 2, none⟩ (.int .i64 ((r : Int) + (c : Int))))
    (hw5 : w5 = ((w3.setCell ⟨L.bb, 5, none⟩ (.int .i64 x)).setCell ⟨L.bb, 6, none⟩ (.int .i64 (-1))).drew) :
    RdAt L w5 (p + c) (r + c) wi .nilIface ∧ Keep [L.bb] w2 w5 ∧ w5.heap.size = w2.heap.size := by
  have hk : Keep [L.bb] w2 w5 := by
    rw [hw5, hw3]
    exact ((((Keep.refl _ w2).setCell (.inl (by simp)) _).setCell (.inl (by simp)) _).setCell (.inl (by simp)) _).drew
  obtain ⟨lb, lr, blk⟩ := h.blk
  have hrw := h.hr
  refine ⟨h.upd hk ⟨x, -1, ?_⟩ (by omega) (by omega) (by omega), hk, by rw [hw5, hw3]; simp⟩
  have e : ((r : Int) + (c : Int)) = ((r + c : Nat) : Int) := by omega
  rw [hw5, hw3, e]
  exact blk_setCell (blk_setCell (blk_setCell blk 2 _) 5 _) 6 _

set_option maxRecDepth 100000 in
set_option maxHeartbeats 800000 in
theorem read_buf (L : Lay) (w : World) (p r wi g off dl dc N c : Nat) (t : TypeId) (f : Nat → Value) (h : RdAt L w p r wi .nilIface) (hd : Dest L w g off dl N t f) (hdl : 0 < dl) (hrw : r < wi) (hc : c = min (wi - r) dl) (hNb : dl ≤ 1152921504606846976) :
    Calls Tryd.prog 116 #[.pointer (some ⟨L.bb, 0, none⟩), .slice (some ⟨g, off, none⟩) dl dc] w fun e w' => e = .returned (.tuple #[.int .i64 c, .nilIface]) ∧
      Rd L w' (p + c) ∧ w'.rowIs g t N (laid L p off c f) ∧ Keep (g :: L.own) w w' ∧ w'.heap.size = w.heap.size := by
  have HR : Hid (RdAt L w p r wi .nilIface) := h
  have ap := h.ap
  have hw := h.hw
  have hfit := hd.fit
  obtain ⟨lb, lr, blk⟩ := h.blk
  obtain ⟨c0, _, c2, c3, c4, c5, c6⟩ := cells7 blk
  have HC : Hid (c = Nat.min (wi - r) dl) := hc
  have hc1 : c ≤ wi - r := by omega
  have hc2 : c ≤ dl := by omega
  have hc3 : 0 < c := by omega
  have hrow := hd.row
  have hdl' : ((dl : Int) == 0) = false := by simp; omega
  have hne : ((r : Int) == (wi : Int)) = false := by simp; omega
  have hn4 : ¬ 4096 = r := by omega
  have hA : (r : Int) ≤ (wi : Int) := by omega
  have hB : (wi : Int) ≤ 4096 := by omega
  have hcell : ∀ j, j < c → w.cell? ((⟨L.bf, r, none⟩ : Addr).add j) = some (L.at (p + j)) := fun j hj => by
    rw [WideShapes.add_plain]
    have := h.bufCell (r + j) (by omega) (by omega)
    rw [show p + (r + j - r) = p + j by omega] at this
    exact this
  have HCell : Hid (∀ j, j < c → w.cell? ((⟨L.bf, r, none⟩ : Addr).add j) = some (L.at (p + j))) := hcell
  have nbb : ¬ L.bb = g := fun h => hd.nbb h.symm
  clear hc blk h hcell
  go_enter Tryd.func116, Tryd.ntmps116
  go_wp2_with fail
  go_quiet (fail)
  go_wp2_with fail
  obtain ⟨m1, hm1⟩ : ∃ m1, m1 = nq := ⟨_, rfl⟩
  rw [← hm1]
  clear hm1
  go_region_held3 (fun w' => w'.cell? ⟨L.bb, 0, none⟩ = some (.slice (some ⟨L.bf, 0, none⟩) 4096 4096) ∧ w'.cell? ⟨L.bb, 2, none⟩ = some (.int .i64 r) ∧ w'.cell? ⟨L.bb, 3, none⟩ = some (.int .i64 wi))
    (first | go_keep | exact ⟨(hk2.cell (p := ⟨L.bb, 0, none⟩) (lt_of_cell c0) (by simpa using nbb)).trans c0, (hk2.cell (p := ⟨L.bb, 2, none⟩) (lt_of_cell c2) (by simpa using nbb)).trans c2, (hk2.cell (p := ⟨L.bb, 3, none⟩) (lt_of_cell c3) (by simpa using nbb)).trans c3⟩)
    ((refine step_copy_fn (by rfl) (.tmp 109) (.tmp 122) 24 24 (by rfl) 5 Tryd.underlying24 size5 _ _ _ _ _ _ (by rfl) (by rfl) g off N t f hrow c HC.out (fun j => L.at (p + j)) (fun hpos => ⟨by rfl, ⟨L.bf, r, none⟩, by rfl, HCell.out⟩) (by omega) (fun _ => rfl) ?_; intro w2 hrow2 hk2 hsz2))
  have hR2 : RdAt L w2 p r wi .nilIface := HR.out.keep hk2.of_drew.of_drewN (by simp [hd.nbb, hd.nbf, hd.nrb, hd.nsb])
  have HR2 : Hid (RdAt L w2 p r wi .nilIface) := hR2
  have HK2 : Hid (Keep [g] w w2 ∧ w2.heap.size = w.heap.size) := ⟨hk2.of_drew.of_drewN, hsz2⟩
  have HW2 : Hid (w2.rowIs g t N (laid L p off c f)) := hrow2
  obtain ⟨lb2, lr2, blk2⟩ := hR2.blk
  have hlast := hR2.bufCell (r + c - 1) (by omega) (by omega)
  rw [show p + (r + c - 1 - r) = p + c - 1 by omega] at hlast
  clear hk2 hsz2 hrow2 c0 c2 c3 c4 c5 c6 HCell hR2
  obtain ⟨d0, _, d2, _, _, d5, d6⟩ := cells7 blk2
  have z2 := frozen_blk blk2 2
  have z5 := frozen_blk blk2 5
  have z6 := frozen_blk blk2 6
  clear blk2
  have hne1 : ¬ L.bb = L.bf := ap.h1
  have hne2 : ¬ L.bf = L.bb := fun h => ap.h1 h.symm
  obtain ⟨x, hx⟩ : ∃ x, x = L.src.getD (p + c - 1) 0 := ⟨_, rfl⟩
  have hxr := ap.hr (p + c - 1)
  rw [← hx] at hlast hxr
  clear hx
  go_wp2
  obtain ⟨w3, hw3⟩ : ∃ w3, w3 = w2.setCell ⟨L.bb, 2, none⟩ (.int .i64 ((r : Int) + (c : Int))) := ⟨_, rfl⟩
  have f0 : w3.cell? ⟨L.bb, 0, none⟩ = some (.slice (some ⟨L.bf, 0, none⟩) 4096 4096) := by rw [hw3]; exact (World.cell?_setCell_other _ _ _ _ (by simp)).trans d0
  have f2 : w3.cell? ⟨L.bb, 2, none⟩ = some (.int .i64 ((r : Int) + (c : Int))) := by rw [hw3]; exact World.cell?_setCell_same _ _ _ d2
  have f5 : w3.cell? ⟨L.bb, 5, none⟩ = some (.int .i64 lb2) := by rw [hw3]; exact (World.cell?_setCell_other _ _ _ _ (by simp)).trans d5
  have f6 : w3.cell? ⟨L.bb, 6, none⟩ = some (.int .i64 lr2) := by rw [hw3]; exact (World.cell?_setCell_other _ _ _ _ (by simp)).trans d6
  have fl : w3.cell? ⟨L.bf, r + c - 1, none⟩ = some (.int .u8 x) := by rw [hw3]; exact (World.cell?_setCell_other _ _ _ _ (by simp)).trans hlast
  have y5 : w3.frozen? ⟨L.bb, 5, none⟩ = false := by rw [hw3]; simpa using z5
  have y6 : w3.frozen? ⟨L.bb, 6, none⟩ = false := by rw [hw3]; simpa using z6
  rw [← hw3]
  have HW3 : Hid (w3 = w2.setCell ⟨L.bb, 2, none⟩ (.int .i64 ((r : Int) + (c : Int)))) := hw3
  clear hw3 d0 d2 d5 d6 hlast z2 z5 z6
  obtain ⟨k, hk⟩ : ∃ k, k + 1 = r + c := ⟨r + c - 1, by omega⟩
  have e1 : (r : Int) + (c : Int) - 1 = (k : Int) := by omega
  have e2 : IntKind.i64.wrap (k : Int) = (k : Int) := wrap_ok _ (by omega) (by omega)
  have e4 : (0 : Int) ≤ (k : Int) := by omega
  have e5 : IntKind.i64.wrap x = x := wrap_ok _ (by omega) (by omega)
  have e3 : (k : Int) < 4096 := by omega
  rw [show r + c - 1 = k by omega] at fl
  go_region
  go_wp2
  go_ret2
  obtain ⟨hR5, hk5, hs5⟩ := readDone (x := x) HR2.out hc1 HW3.out rfl
  refine ⟨rfl, ⟨_, _, hR5⟩, ?_, ?_, hs5.trans HK2.out.2⟩
  · exact hk5.rowIs HW2.out (by simpa using hd.nbb)
  · exact (HK2.out.1.mono (O' := g :: L.own) (by simp)).trans hk5 (by simp [Lay.own])
end Go.Proofs.Qxb6616140aDoor
