/- (*bufio.Reader).Read through an empty buffer. -/
import Derived.Test.Qxb6616140aDoorReadD
namespace Go.Proofs.Qxb6616140aDoor
open Go.RowKit

/-- The empty buffer filled by one read. -/
theorem refilled {L : Lay} {w3 w4 w5 : World} {p m : Nat} {v : Int} (h : RdAt L w3 p 0 0 .nilIface) (hk4 : Keep [L.bf, L.rb] w3 w4) (hsz : w4.heap.size = w3.heap.size) {f3 : Nat → Value}
    (hrow4 : w4.rowIs L.bf 5 4096 (fun j => if 0 ≤ j ∧ j < 0 + m then L.at (p + (j - 0)) else f3 j)) (hb4 : BRd L w4 (p + m)) (hm : m = min (L.n - p) 4096) (hv : v = (m : Int)) (hw5 : w5 = (w4.setCell ⟨L.bb, 4, none⟩ .nilIface).setCell ⟨L.bb, 3, none⟩ (.int .i64 v)) :
    RdAt L w5 p 0 m .nilIface ∧ Keep L.own w3 w5 ∧ w5.heap.size = w3.heap.size := by
  subst hv
  obtain ⟨ap, hr, hw, hp, src, _, ⟨lb, lr, blk⟩, _⟩ := h
  have hne1 : L.bb ≠ L.bf := ap.h1
  have blk4 := (hk4.block L.bb (lt_blk blk) (by simp [hne1, ap.h2])).trans blk
  have hk45 : Keep [L.bb] w4 w5 := by
    rw [hw5]
    exact ((Keep.refl _ w4).setCell (.inl (by simp)) _).setCell (.inl (by simp)) _
  have hk5 : Keep L.own w3 w5 := (hk4.mono (O' := L.own) (by simp [Lay.own])).trans hk45 (by simp [Lay.own])
  refine ⟨⟨ap, Nat.zero_le _, by omega, by omega, src.keep hk5 (by simp [Lay.own, ap.s1, ap.s2, ap.s3]), ?_, ⟨lb, lr, ?_⟩, ⟨_, hk45.rowIs hrow4 (by simpa using hne1.symm), fun i h0 hi => ?_⟩⟩, hk5, by rw [hw5]; simpa using hsz⟩
  · obtain ⟨pr, e⟩ := hb4
    exact ⟨pr, by rw [hk45.block L.rb (lt_blk e) (by simpa using ap.h2.symm), e, Nat.sub_zero]⟩
  · rw [hw5]
    exact blk_setCell (blk_setCell blk4 4 _) 3 _
  · exact if_pos (by omega)

set_option maxRecDepth 100000 in
set_option maxHeartbeats 800000 in
theorem read_fill (L : Lay) (w : World) (p r g off dl dc N c : Nat) (t : TypeId) (f : Nat → Value) (h : RdAt L w p r r .nilIface) (hd : Dest L w g off dl N t f) (hdl : 0 < dl) (hd4 : dl < 4096) (hp : p < L.n) (hc : c = min (min 4096 (L.n - p)) dl) :
    Calls Tryd.prog 116 #[.pointer (some ⟨L.bb, 0, none⟩), .slice (some ⟨g, off, none⟩) dl dc] w fun e w' => e = .returned (.tuple #[.int .i64 c, .nilIface]) ∧
      Rd L w' (p + c) ∧ w'.rowIs g t N (laid L p off c f) ∧ Keep (g :: L.own) w w' ∧ w'.heap.size = w.heap.size := by
  have HR : Hid (RdAt L w p r r .nilIface) := h
  have ap := h.ap
  have hw := h.hw
  have hfit := hd.fit
  obtain ⟨lb, lr, blk⟩ := h.blk
  obtain ⟨c0, c1, c2, c3, c4, c5, c6⟩ := cells7 blk
  have z2 := frozen_blk blk 2
  have z3 := frozen_blk blk 3
  have hdl' : ((dl : Int) == 0) = false := by simp; omega
  have hdl4 : ¬ (4096 : Int) ≤ (dl : Int) := by omega
  clear blk h
  go_enter Tryd.func116, Tryd.ntmps116
  go_wp2_with fail
  go_quiet (fail)
  go_wp2_with fail
  obtain ⟨w3, hw3⟩ : ∃ w3, w3 = ((w.drewN nq).setCell ⟨L.bb, 2, none⟩ (.int .i64 0)).setCell ⟨L.bb, 3, none⟩ (.int .i64 0) := ⟨_, rfl⟩
  obtain ⟨hR3, hk3, hs3⟩ := zeroed HR.out hw3
  rw [← hw3]
  clear hw3 c0 c1 c2 c3 c4 c5 c6 z2 z3
  have HR3 : Hid (RdAt L w3 p 0 0 .nilIface) := hR3
  have HK3 : Hid (Keep [L.bb] w w3 ∧ w3.heap.size = w.heap.size) := ⟨hk3, hs3⟩
  have src := hR3.src
  have brd : BRd L w3 p := hR3.brd
  obtain ⟨f3, hrow3, _⟩ := hR3.buf
  obtain ⟨lb3, lr3, blk3⟩ := hR3.blk
  obtain ⟨c0, c1, c2, c3, c4, c5, c6⟩ := cells7 blk3
  have z4 := frozen_blk blk3 4
  have HZ3 : Hid (w3.frozen? ⟨L.bb, 3, none⟩ = false) := frozen_blk blk3 3
  clear blk3 hk3 hs3 hR3
  obtain ⟨m, hm⟩ : ∃ m, m = min (L.n - p) 4096 := ⟨_, rfl⟩
  have HM : Hid (m = min (L.n - p) 4096) := hm
  have hm1 : m ≤ 4096 := by omega
  have hm2 : 0 < m := by omega
  clear hm
  have nrb : L.bb ≠ L.rb := ap.h2
  have nbf : L.bb ≠ L.bf := ap.h1
  have mR := method_read
  go_region_held3 (fun w' => w'.cell? ⟨L.bb, 0, none⟩ = some (.slice (some ⟨L.bf, 0, none⟩) 4096 4096) ∧ w'.cell? ⟨L.bb, 1, none⟩ = some (.iface 55 (.pointer (some ⟨L.rb, 0, none⟩))) ∧ w'.cell? ⟨L.bb, 4, none⟩ = some .nilIface)
    (first | go_keep | exact ⟨q0, q1, q4⟩ | exact ⟨set_ne q0 (by simp), set_ne q1 (by simp), World.cell?_setCell_same _ _ _ q4⟩)
    (first | (go_at_call 115; refine (srcRead L ap L.bf 0 4096 4096 4096 f3 _ p m hp (by exact brd) (by exact src) (by exact hrow3) ap.h3 (by omega) HM.out).mono ?_; rintro e w4 ⟨rfl, hrow4, hb4, hk4, hsz4⟩; have q0 := (hk4.cell (p := ⟨L.bb, 0, none⟩) (lt_of_cell (w := w3) c0) (by simp [nbf, nrb])).trans c0; have q1 := (hk4.cell (p := ⟨L.bb, 1, none⟩) (lt_of_cell (w := w3) c1) (by simp [nbf, nrb])).trans c1; have q4 := (hk4.cell (p := ⟨L.bb, 4, none⟩) (lt_of_cell (w := w3) c4) (by simp [nbf, nrb])).trans c4; have y4 : w4.frozen? ⟨L.bb, 4, none⟩ = false := (hk4.frozen (p := ⟨L.bb, 4, none⟩) (lt_of_cell (w := w3) c4) (by simp [nbf, nrb])).trans z4))
  have HR4 : Hid (Keep [L.bf, L.rb] w3 w4) := hk4.of_drew
  have HS4 : Hid (w4.heap.size = w3.heap.size) := hsz4
  have HB4 : Hid (BRd L w4 (p + m)) := hb4
  have HW4 : Hid (w4.rowIs L.bf 5 4096 (fun j => if 0 ≤ j ∧ j < 0 + m then L.at (p + (j - 0)) else f3 j)) := hrow4
  have q3 := (hk4.cell (p := ⟨L.bb, 3, none⟩) (lt_of_cell (w := w3) c3) (by simp [nbf, nrb])).trans c3
  have z3 : w3.frozen? ⟨L.bb, 3, none⟩ = false := HZ3.out
  have y3 : w4.frozen? ⟨L.bb, 3, none⟩ = false := (hk4.frozen (p := ⟨L.bb, 3, none⟩) (lt_of_cell (w := w3) c3) (by simp [nbf, nrb])).trans z3
  have hm0 : ((m : Int) == 0) = false := by simp; omega
  have hm00 : ¬ (m : Int) < 0 := by omega
  have em : IntKind.i64.wrap (m : Int) = (m : Int) := wrap_ok _ (by omega) (by omega)
  have m3 : (w4.setCell ⟨L.bb, 4, none⟩ .nilIface).cell? ⟨L.bb, 3, none⟩ = some (.int .i64 0) := set_ne q3 (by simp)
  have x3 : (w4.setCell ⟨L.bb, 4, none⟩ .nilIface).frozen? ⟨L.bb, 3, none⟩ = false := by simpa using y3
  clear hk4 hsz4 hb4 hrow4 q3 y3 q0 q1 q4 y4 z3 z4 c0 c1 c2 c3 c4 c5 c6 brd src hrow3 mR
  go_wp2_with fail
  obtain ⟨w5, hw5⟩ : ∃ w5, w5 = (w4.setCell ⟨L.bb, 4, none⟩ .nilIface).setCell ⟨L.bb, 3, none⟩ (.int .i64 (m : Int)) := ⟨_, rfl⟩
  obtain ⟨hR5', hk5, hs5⟩ := refilled HR3.out HR4.out HS4.out HW4.out HB4.out HM.out rfl hw5
  rw [← hw5]
  clear hw5
  have HK5 : Hid (Keep (g :: L.own) w w5 ∧ w5.heap.size = w.heap.size) := ⟨(HK3.out.1.mono (O' := g :: L.own) (by simp [Lay.own])).then (hk5.mono (by simp [Lay.own])), hs5.trans HK3.out.2⟩
  have hrow5 : w5.rowIs g t N f := ((HK3.out.1.mono (O' := L.own) (by simp [Lay.own])).then hk5).rowIs hd.row (by simp [Lay.own, hd.nbb, hd.nbf, hd.nrb])
  clear hk5 hs5 HR3 HR4 HS4 HW4 HB4 m3 x3 HR
  obtain ⟨r0, hr0⟩ : ∃ r0 : Nat, r0 = 0 := ⟨_, rfl⟩
  have hR5 : RdAt L w5 p r0 m .nilIface := by rw [hr0]; exact hR5'
  clear hR5'
  have HR5 : Hid (RdAt L w5 p r0 m .nilIface) := hR5
  have HC : Hid (c = Nat.min (m - r0) dl) := by
    have := HM.out
    show c = min (m - r0) dl
    omega
  have hm3 := HM.out
  have hc1 : c ≤ m - r0 := by omega
  have hc2 : c ≤ dl := by omega
  have hc3 : 0 < c := by omega
  have hne : ((r0 : Int) == (m : Int)) = false := by simp; omega
  have hn4 : ¬ 4096 = r0 := by omega
  have hA : (r0 : Int) ≤ (m : Int) := by omega
  have hB : (m : Int) ≤ 4096 := by omega
  have hcell : ∀ j, j < c → w5.cell? ((⟨L.bf, r0, none⟩ : Addr).add j) = some (L.at (p + j)) := fun j hj => by
    rw [WideShapes.add_plain]
    have := hR5.bufCell (r0 + j) (by omega) (by omega)
    rw [show p + (r0 + j - r0) = p + j by omega] at this
    exact this
  have HCell : Hid (∀ j, j < c → w5.cell? ((⟨L.bf, r0, none⟩ : Addr).add j) = some (L.at (p + j))) := hcell
  have nbb : ¬ L.bb = g := fun h => hd.nbb h.symm
  have hr0b : r0 ≤ 4096 := by omega
  have HR0 : Hid (r0 = 0) := hr0
  obtain ⟨lb5, lr5, blk5⟩ := hR5.blk
  obtain ⟨c0, _, c2, c3, c4, c5, c6⟩ := cells7 blk5
  clear hcell hR5 hr0 blk5 hm3 hc HM
  go_region_held3 (fun w' => w'.cell? ⟨L.bb, 0, none⟩ = some (.slice (some ⟨L.bf, 0, none⟩) 4096 4096) ∧ w'.cell? ⟨L.bb, 2, none⟩ = some (.int .i64 r0) ∧ w'.cell? ⟨L.bb, 3, none⟩ = some (.int .i64 m))
    (first | go_keep | exact ⟨(hk2.cell (p := ⟨L.bb, 0, none⟩) (lt_of_cell c0) (by simpa using nbb)).trans c0, (hk2.cell (p := ⟨L.bb, 2, none⟩) (lt_of_cell c2) (by simpa using nbb)).trans c2, (hk2.cell (p := ⟨L.bb, 3, none⟩) (lt_of_cell c3) (by simpa using nbb)).trans c3⟩)
    ((refine step_copy_fn (by rfl) (.tmp 109) (.tmp 122) 24 24 (by rfl) 5 Tryd.underlying24 size5 _ _ _ _ _ _ (by rfl) (by rfl) g off N t f hrow5 c HC.out (fun j => L.at (p + j)) (fun hpos => ⟨by rfl, ⟨L.bf, r0, none⟩, by rfl, HCell.out⟩) (by omega) (fun _ => rfl) ?_; intro w2 hrow2 hk2 hsz2))
  have hR2 : RdAt L w2 p r0 m .nilIface := HR5.out.keep hk2.of_drew (by simp [hd.nbb, hd.nbf, hd.nrb, hd.nsb])
  have HR2 : Hid (RdAt L w2 p r0 m .nilIface) := hR2
  have HK2 : Hid (Keep (g :: L.own) w w2 ∧ w2.heap.size = w.heap.size) := ⟨HK5.out.1.trans hk2.of_drew (by simp), hsz2.trans HK5.out.2⟩
  have HW2 : Hid (w2.rowIs g t N (laid L p off c f)) := hrow2
  obtain ⟨lb2, lr2, blk2⟩ := hR2.blk
  have hlast := hR2.bufCell (r0 + c - 1) (by omega) (by omega)
  rw [show p + (r0 + c - 1 - r0) = p + c - 1 by omega] at hlast
  clear hk2 hsz2 hrow2 c0 c2 c3 c4 c5 c6 HCell hR2
  obtain ⟨d0, _, d2, _, _, d5, d6⟩ := cells7 blk2
  have z2 := frozen_blk blk2 2
  have z5 := frozen_blk blk2 5
  have z6 := frozen_blk blk2 6
  clear blk2
  have hne1 : ¬ L.bb = L.bf := ap.h1
  have hne2 : ¬ L.bf = L.bb := fun h => ap.h1 h.symm
  obtain ⟨x, hx⟩ : ∃ x, x = L.src.getD (p + c - 1) 0 := ⟨_, rfl⟩
  have hxr := ap.hr (p + c - 1)
  rw [← hx] at hlast hxr
  clear hx
  go_wp2
  obtain ⟨w3, hw3⟩ : ∃ w3, w3 = w2.setCell ⟨L.bb, 2, none⟩ (.int .i64 ((r0 : Int) + (c : Int))) := ⟨_, rfl⟩
  have f0 : w3.cell? ⟨L.bb, 0, none⟩ = some (.slice (some ⟨L.bf, 0, none⟩) 4096 4096) := by rw [hw3]; exact (World.cell?_setCell_other _ _ _ _ (by simp)).trans d0
  have f2 : w3.cell? ⟨L.bb, 2, none⟩ = some (.int .i64 ((r0 : Int) + (c : Int))) := by rw [hw3]; exact World.cell?_setCell_same _ _ _ d2
  have f5 : w3.cell? ⟨L.bb, 5, none⟩ = some (.int .i64 lb2) := by rw [hw3]; exact (World.cell?_setCell_other _ _ _ _ (by simp)).trans d5
  have f6 : w3.cell? ⟨L.bb, 6, none⟩ = some (.int .i64 lr2) := by rw [hw3]; exact (World.cell?_setCell_other _ _ _ _ (by simp)).trans d6
  have fl : w3.cell? ⟨L.bf, r0 + c - 1, none⟩ = some (.int .u8 x) := by rw [hw3]; exact (World.cell?_setCell_other _ _ _ _ (by simp)).trans hlast
  have y5 : w3.frozen? ⟨L.bb, 5, none⟩ = false := by rw [hw3]; simpa using z5
  have y6 : w3.frozen? ⟨L.bb, 6, none⟩ = false := by rw [hw3]; simpa using z6
  rw [← hw3]
  have HW3 : Hid (w3 = w2.setCell ⟨L.bb, 2, none⟩ (.int .i64 ((r0 : Int) + (c : Int)))) := hw3
  clear hw3 d0 d2 d5 d6 hlast z2 z5 z6
  obtain ⟨k, hk⟩ : ∃ k, k + 1 = r0 + c := ⟨r0 + c - 1, by omega⟩
  have e1 : (r0 : Int) + (c : Int) - 1 = (k : Int) := by omega
  have e2 : IntKind.i64.wrap (k : Int) = (k : Int) := wrap_ok _ (by omega) (by omega)
  have e4 : (0 : Int) ≤ (k : Int) := by omega
  have e5 : IntKind.i64.wrap x = x := wrap_ok _ (by omega) (by omega)
  have e3 : (k : Int) < 4096 := by omega
  rw [show r0 + c - 1 = k by omega] at fl
  go_region
  go_wp2
  go_ret2
  obtain ⟨hR5, hk5, hs5⟩ := readDone (x := x) HR2.out hc1 HW3.out rfl
  refine ⟨rfl, ⟨_, _, hR5⟩, ?_, ?_, hs5.trans HK2.out.2⟩
  · exact hk5.rowIs HW2.out (by simpa using hd.nbb)
  · exact (HK2.out.1.mono (O' := g :: L.own) (by simp)).trans hk5 (by simp [Lay.own])

set_option maxRecDepth 100000 in
set_option maxHeartbeats 800000 in
theorem read_fill_eof (L : Lay) (w : World) (r dl dc : Nat) (d : Option Addr) (e0 : Addr) (h : RdAt L w L.n r r .nilIface) (hdl : 0 < dl) (hd4 : dl < 4096) (g0 : w.cell? ⟨0, 0, none⟩ = some (.iface 126 (.pointer (some e0)))) (hbb : L.bb ≠ 0) :
    Calls Tryd.prog 116 #[.pointer (some ⟨L.bb, 0, none⟩), .slice d dl dc] w fun e w' => e = .returned (.tuple #[.int .i64 0, .iface 126 (.pointer (some e0))]) ∧
      Rd L w' L.n ∧ Keep L.own w w' ∧ w'.heap.size = w.heap.size := by
  have HR : Hid (RdAt L w L.n r r .nilIface) := h
  have hw := h.hw
  obtain ⟨lb, lr, blk⟩ := h.blk
  obtain ⟨c0, c1, c2, c3, c4, _, _⟩ := cells7 blk
  have z2 := frozen_blk blk 2
  have z3 := frozen_blk blk 3
  have hdl' : ((dl : Int) == 0) = false := by simp; omega
  have hdl4 : ¬ (4096 : Int) ≤ (dl : Int) := by omega
  clear blk h
  go_enter Tryd.func116, Tryd.ntmps116
  go_wp2_with fail
  go_quiet (fail)
  go_wp2_with fail
  obtain ⟨w3, hw3⟩ : ∃ w3, w3 = ((w.drewN nq).setCell ⟨L.bb, 2, none⟩ (.int .i64 0)).setCell ⟨L.bb, 3, none⟩ (.int .i64 0) := ⟨_, rfl⟩
  obtain ⟨hR3, hk3, hs3⟩ := zeroed HR.out hw3
  rw [← hw3]
  clear hw3 c0 c1 c2 c3 c4 z2 z3
  have HR3 : Hid (RdAt L w3 L.n 0 0 .nilIface) := hR3
  have HK3 : Hid (Keep [L.bb] w w3 ∧ w3.heap.size = w.heap.size) := ⟨hk3, hs3⟩
  have g3 : w3.cell? ⟨0, 0, none⟩ = some (.iface 126 (.pointer (some e0))) := (hk3.cell (p := ⟨0, 0, none⟩) (lt_of_cell g0) (by simpa using hbb.symm)).trans g0
  have brd : BRd L w3 L.n := hR3.brd
  obtain ⟨lb3, lr3, blk3⟩ := hR3.blk
  obtain ⟨c0, c1, c2, c3, c4, c5, c6⟩ := cells7 blk3
  have z4 := frozen_blk blk3 4
  have HB3 : Hid (w3.heap[L.bb]? = some (.cells #[.slice (some ⟨L.bf, 0, none⟩) 4096 4096, .iface 55 (.pointer (some ⟨L.rb, 0, none⟩)), .int .i64 ((0 : Nat) : Int), .int .i64 ((0 : Nat) : Int), .nilIface, .int .i64 lb3, .int .i64 lr3] 74 (0, 0))) := blk3
  clear blk3 hk3 hs3 hR3
  have mR := method_read
  go_region_held3 (fun w' => w'.cell? ⟨L.bb, 0, none⟩ = some (.slice (some ⟨L.bf, 0, none⟩) 4096 4096) ∧ w'.cell? ⟨L.bb, 1, none⟩ = some (.iface 55 (.pointer (some ⟨L.rb, 0, none⟩))))
    (first | go_keep | exact ⟨c0, c1⟩ | exact ⟨set_ne c0 (by simp), set_ne c1 (by simp)⟩)
    (first | (go_at_call 115; refine (srcRead_eof L _ _ _ _ L.n e0 (Nat.le_refl _) (by exact brd) (by exact g3)).mono ?_; rintro e w4 ⟨rfl, nn, rfl⟩))
  go_wp2_with fail
  obtain ⟨w5, hw5⟩ : ∃ w5, w5 = ((w3.drewN (1 + nn)).setCell ⟨L.bb, 4, none⟩ (.iface 126 (.pointer (some e0)))) := ⟨_, rfl⟩
  have hk5 : Keep [L.bb] w3 w5 := by rw [hw5]; exact ((Keep.refl _ w3).drewN _).setCell (.inl (by simp)) _
  have hR5 : RdAt L w5 L.n 0 0 (.iface 126 (.pointer (some e0))) := HR3.out.upd hk5 ⟨lb3, lr3, by rw [hw5]; exact blk_setCell (w := w3.drewN (1 + nn)) HB3.out 4 _⟩ (Nat.le_refl _) (Nat.le_refl _) (by omega)
  have hs5 : w5.heap.size = w3.heap.size := by rw [hw5]; simp
  rw [← hw5]
  clear hw5
  refine (readErr L w5 _ 0 0 _ hR5).mono ?_
  rintro e w6 ⟨rfl, hR6, hk6, hs6⟩
  go_wp2
  go_ret2
  exact ⟨rfl, ⟨_, _, hR6⟩, ((HK3.out.1.mono (by simp [Lay.own])).then (hk5.mono (by simp [Lay.own]))).then (hk6.mono (by simp [Lay.own])), (hs6.trans hs5).trans HK3.out.2⟩

/-- Read, where bytes are left. -/
theorem read_more (L : Lay) (w : World) (p g off dl dc N : Nat) (t : TypeId) (f : Nat → Value) (h : Rd L w p) (hd : Dest L w g off dl N t f) (hdl : 0 < dl) (hp : p < L.n) (hNb : dl ≤ 1152921504606846976) :
    Calls Tryd.prog 116 #[.pointer (some ⟨L.bb, 0, none⟩), .slice (some ⟨g, off, none⟩) dl dc] w fun e w' => ∃ c, 0 < c ∧ c ≤ dl ∧ p + c ≤ L.n ∧ e = .returned (.tuple #[.int .i64 c, .nilIface]) ∧
      Rd L w' (p + c) ∧ w'.rowIs g t N (laid L p off c f) ∧ Keep (g :: L.own) w w' ∧ w'.heap.size = w.heap.size := by
  obtain ⟨r, wi, h⟩ := h
  have hr := h.hr
  have hp2 := h.hp
  by_cases hrw : r < wi
  · refine (read_buf L w p r wi g off dl dc N _ t f h hd hdl hrw rfl hNb).mono fun e w' hh => ⟨_, ?_, ?_, ?_, hh⟩ <;> omega
  · obtain rfl : r = wi := by omega
    by_cases h4 : 4096 ≤ dl
    · refine (read_direct L w p r g off dl dc N _ t f h hd h4 hp rfl hNb).mono fun e w' hh => ⟨_, ?_, ?_, ?_, hh⟩ <;> omega
    · refine (read_fill L w p r g off dl dc N _ t f h hd hdl (by omega) hp rfl).mono fun e w' hh => ⟨_, ?_, ?_, ?_, hh⟩ <;> omega

/-- Read at the end of the stream. -/
theorem read_eof (L : Lay) (w : World) (dl dc : Nat) (d : Option Addr) (e0 : Addr) (h : Rd L w L.n) (hdl : 0 < dl) (hdb : dl ≤ 1152921504606846976) (g0 : w.cell? ⟨0, 0, none⟩ = some (.iface 126 (.pointer (some e0)))) (hbb : L.bb ≠ 0) :
    Calls Tryd.prog 116 #[.pointer (some ⟨L.bb, 0, none⟩), .slice d dl dc] w fun e w' => e = .returned (.tuple #[.int .i64 0, .iface 126 (.pointer (some e0))]) ∧
      Rd L w' L.n ∧ Keep L.own w w' ∧ w'.heap.size = w.heap.size := by
  obtain ⟨r, wi, h⟩ := h
  have hr := h.hr
  have hp2 := h.hp
  obtain rfl : r = wi := by omega
  by_cases h4 : 4096 ≤ dl
  · exact read_direct_eof L w r dl dc d e0 h h4 hdb g0
  · exact read_fill_eof L w r dl dc d e0 h hdl (by omega) g0 hbb
end Go.Proofs.Qxb6616140aDoor
