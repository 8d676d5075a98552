/- (*bufio.Reader).Read past the buffer. -/
import Derived.Test.Qxb6616140aDoorRead
namespace Go.Proofs.Qxb6616140aDoor
open Go.RowKit

theorem set_ne {w : World} {a b : Addr} {v u : Value} (h : w.cell? b = some u) (hne : a ≠ b) : (w.setCell a v).cell? b = some u := (World.cell?_setCell_other w a b v hne).trans h

/-- Behind a direct read: the source stands further, the buffer is empty. -/
theorem directDone {L : Lay} {w w2 w5 : World} {p r c g : Nat} {x : Int} (h : RdAt L w p r r .nilIface) (hk2 : Keep [g, L.rb] w w2) (hsz : w2.heap.size = w.heap.size) (hb : BRd L w2 (p + c)) (hpn : p + c ≤ L.n)
    (nbb : g ≠ L.bb) (nbf : g ≠ L.bf) (nsb : g ≠ L.sb)
    (hw5 : w5 = (((w2.setCell ⟨L.bb, 4, none⟩ .nilIface).setCell ⟨L.bb, 5, none⟩ (.int .i64 x)).setCell ⟨L.bb, 6, none⟩ (.int .i64 (-1)))) :
    RdAt L w5 (p + c) r r .nilIface ∧ Keep (g :: L.own) w w5 ∧ Keep [L.bb] w2 w5 ∧ w5.heap.size = w.heap.size := by
  have hk : Keep [L.bb] w2 w5 := by
    rw [hw5]
    exact (((Keep.refl _ w2).setCell (.inl (by simp)) _).setCell (.inl (by simp)) _).setCell (.inl (by simp)) _
  obtain ⟨ap, hr, hw, hp, src, _, ⟨lb, lr, blk⟩, ⟨f, hrow, _⟩⟩ := h
  have blk2 := (hk2.block L.bb (lt_blk blk) (by simp [nbb.symm, ap.h2])).trans blk
  have hkk : Keep (g :: L.own) w w5 := (hk2.mono (O' := g :: L.own) (by simp [Lay.own])).trans hk (by simp [Lay.own])
  refine ⟨⟨ap, hr, hw, by omega, src.keep hkk (by simp [Lay.own, ap.s1, ap.s2, ap.s3, nsb.symm]), ?_, ⟨x, -1, ?_⟩, ⟨f, ?_, fun i h1 h2 => by omega⟩⟩, hkk, hk, by rw [hw5]; simp [hsz]⟩
  · obtain ⟨pr, e⟩ := hb
    exact ⟨pr, by rw [hk.block L.rb (lt_blk e) (by simpa using ap.h2.symm), e, Nat.sub_self, Nat.add_zero]⟩
  · rw [hw5]
    exact blk_setCell (blk_setCell (blk_setCell blk2 4 _) 5 _) 6 _
  · exact hk.rowIs (hk2.rowIs hrow (by simp [nbf.symm, ap.h3])) (by simpa using ap.h1.symm)

set_option maxRecDepth 100000 in
set_option maxHeartbeats 800000 in
theorem read_direct (L : Lay) (w : World) (p r g off dl dc N c : Nat) (t : TypeId) (f : Nat → Value) (h : RdAt L w p r r .nilIface) (hd : Dest L w g off dl N t f) (hdl : 4096 ≤ dl) (hp : p < L.n) (hc : c = min (L.n - p) dl) (hNb : dl ≤ 1152921504606846976) :
    Calls Tryd.prog 116 #[.pointer (some ⟨L.bb, 0, none⟩), .slice (some ⟨g, off, none⟩) dl dc] w fun e w' => e = .returned (.tuple #[.int .i64 c, .nilIface]) ∧
      Rd L w' (p + c) ∧ w'.rowIs g t N (laid L p off c f) ∧ Keep (g :: L.own) w w' ∧ w'.heap.size = w.heap.size := by
  have HR : Hid (RdAt L w p r r .nilIface) := h
  have ap := h.ap
  have hw := h.hw
  have hfit := hd.fit
  have src := h.src
  have brd : BRd L w p := by have := h.brd; rwa [Nat.sub_self, Nat.add_zero] at this
  obtain ⟨lb, lr, blk⟩ := h.blk
  obtain ⟨c0, c1, c2, c3, c4, c5, c6⟩ := cells7 blk
  have z4 := frozen_blk blk 4
  have z5 := frozen_blk blk 5
  have z6 := frozen_blk blk 6
  have HC : Hid (c = min (L.n - p) dl) := hc
  have hc2 : c ≤ dl := by omega
  have hc3 : 0 < c := by omega
  have hc4 : c ≤ L.n - p := by omega
  have hrow := hd.row
  have hdl' : ((dl : Int) == 0) = false := by simp; omega
  have hdl4 : (4096 : Int) ≤ (dl : Int) := by omega
  have nbb : ¬ L.bb = g := fun h => hd.nbb h.symm
  have nrb : L.bb ≠ L.rb := ap.h2
  have mR := method_read
  clear hc blk h
  go_enter Tryd.func116, Tryd.ntmps116
  go_wp2_with fail
  go_quiet (fail)
  go_wp2_with fail
  refine (srcRead L ap g off N dl dc f _ p c hp (by exact brd) (by exact src) (by exact hrow) hd.nrb (by omega) HC.out).mono ?_
  rintro e w2 ⟨rfl, hrow2, hb2, hk2, hs2⟩
  have no : L.bb ∉ [g, L.rb] := by simp [nbb, nrb]
  have d4 := (hk2.cell (p := ⟨L.bb, 4, none⟩) (lt_of_cell (w := w) c4) no).trans c4
  have d5 := (hk2.cell (p := ⟨L.bb, 5, none⟩) (lt_of_cell c5) no).trans c5
  have d6 := (hk2.cell (p := ⟨L.bb, 6, none⟩) (lt_of_cell c6) no).trans c6
  have y4 := (hk2.frozen (p := ⟨L.bb, 4, none⟩) (lt_of_cell c4) no).trans z4
  have y5 := (hk2.frozen (p := ⟨L.bb, 5, none⟩) (lt_of_cell c5) no).trans z5
  have y6 := (hk2.frozen (p := ⟨L.bb, 6, none⟩) (lt_of_cell c6) no).trans z6
  obtain ⟨k, hk⟩ : ∃ k, k + 1 = c := ⟨c - 1, by omega⟩
  have hl : w2.cell? ⟨g, off + k, none⟩ = some (.int .u8 (L.src.getD (p + k) 0)) := by
    rw [hrow2.cell (i := off + k) (by omega)]
    show some (if off ≤ off + k ∧ off + k < off + c then L.at (p + (off + k - off)) else f (off + k)) = _
    rw [if_pos (by omega), Nat.add_sub_cancel_left]; rfl
  obtain ⟨x, hx⟩ : ∃ x, x = L.src.getD (p + k) 0 := ⟨_, rfl⟩
  have hxr := ap.hr (p + k)
  rw [← hx] at hl hxr
  have HK2 : Hid (Keep [g, L.rb] w w2 ∧ w2.heap.size = w.heap.size) := ⟨hk2.of_drewN, hs2⟩
  have HB2 : Hid (BRd L w2 (p + c)) := hb2
  have HW2 : Hid (w2.rowIs g t N (laid L p off c f)) := hrow2
  have hgb : ¬ g = L.bb := hd.nbb
  have hkc : (c : Int) - 1 = (k : Int) := by omega
  clear hk2 hs2 hb2 hrow2 c0 c1 c2 c3 c4 c5 c6 z4 z5 z6 hx mR hrow src brd
  go_wp2_with fail
  obtain ⟨w5, hw5⟩ : ∃ w5, w5 = (((w2.setCell ⟨L.bb, 4, none⟩ .nilIface).setCell ⟨L.bb, 5, none⟩ (.int .i64 x)).setCell ⟨L.bb, 6, none⟩ (.int .i64 (-1))) := ⟨_, rfl⟩
  obtain ⟨hR5, hk5, hk25, hs5⟩ := directDone HR.out HK2.out.1 HK2.out.2 HB2.out (by omega) hd.nbb hd.nbf hd.nsb hw5
  rw [← hw5]
  refine (readErr L w5 _ r r _ hR5).mono ?_
  rintro e w6 ⟨rfl, hR6, hk6, hs6⟩
  clear hw5
  go_wp2
  go_ret2
  refine ⟨rfl, ⟨_, _, hR6⟩, ?_, ?_, hs6.trans hs5⟩
  · exact hk6.rowIs (hk25.rowIs HW2.out (by simpa using hd.nbb)) (by simpa using hd.nbb)
  · exact hk5.trans hk6 (by simp [Lay.own])

set_option maxRecDepth 100000 in
set_option maxHeartbeats 800000 in
theorem read_direct_eof (L : Lay) (w : World) (r dl dc : Nat) (d : Option Addr) (e0 : Addr) (h : RdAt L w L.n r r .nilIface) (hdl : 4096 ≤ dl) (hdb : dl ≤ 1152921504606846976) (g0 : w.cell? ⟨0, 0, none⟩ = some (.iface 126 (.pointer (some e0)))) :
    Calls Tryd.prog 116 #[.pointer (some ⟨L.bb, 0, none⟩), .slice d dl dc] w fun e w' => e = .returned (.tuple #[.int .i64 0, .iface 126 (.pointer (some e0))]) ∧
      Rd L w' L.n ∧ Keep L.own w w' ∧ w'.heap.size = w.heap.size := by
  have HR : Hid (RdAt L w L.n r r .nilIface) := h
  have hw := h.hw
  have brd : BRd L w L.n := by have := h.brd; rwa [Nat.sub_self, Nat.add_zero] at this
  obtain ⟨lb, lr, blk⟩ := h.blk
  obtain ⟨c0, c1, c2, c3, c4, _, _⟩ := cells7 blk
  have z4 := frozen_blk blk 4
  have HB : Hid (w.heap[L.bb]? = some (.cells #[.slice (some ⟨L.bf, 0, none⟩) 4096 4096, .iface 55 (.pointer (some ⟨L.rb, 0, none⟩)), .int .i64 r, .int .i64 r, .nilIface, .int .i64 lb, .int .i64 lr] 74 (0, 0))) := blk
  have hdl' : ((dl : Int) == 0) = false := by simp; omega
  have hdl4 : (4096 : Int) ≤ (dl : Int) := by omega
  have mR := method_read
  clear blk h
  go_enter Tryd.func116, Tryd.ntmps116
  go_wp2_with fail
  go_quiet (fail)
  go_wp2_with fail
  refine (srcRead_eof L _ _ _ _ L.n e0 (Nat.le_refl _) (by exact brd) (by exact g0)).mono ?_
  rintro e w2 ⟨rfl, n, rfl⟩
  go_wp2_with fail
  obtain ⟨w5, hw5⟩ : ∃ w5, w5 = ((w.drewN (nq + n)).setCell ⟨L.bb, 4, none⟩ (.iface 126 (.pointer (some e0)))) := ⟨_, rfl⟩
  have hk5 : Keep [L.bb] w w5 := by rw [hw5]; exact ((Keep.refl _ w).drewN _).setCell (.inl (by simp)) _
  have hR5 : RdAt L w5 L.n r r (.iface 126 (.pointer (some e0))) := HR.out.upd hk5 ⟨lb, lr, by rw [hw5]; exact blk_setCell (w := w.drewN (nq + n)) HB.out 4 _⟩ (Nat.le_refl _) (Nat.le_refl _) (by omega)
  have hs5 : w5.heap.size = w.heap.size := by rw [hw5]; simp
  rw [← hw5]
  clear hw5
  refine (readErr L w5 _ r r _ hR5).mono ?_
  rintro e w6 ⟨rfl, hR6, hk6, hs6⟩
  go_wp2
  go_ret2
  exact ⟨rfl, ⟨_, _, hR6⟩, (hk5.mono (by simp [Lay.own])).then (hk6.mono (by simp [Lay.own])), hs6.trans hs5⟩

/-- b.r = 0; b.w = 0 -/
theorem zeroed {L : Lay} {w w3 : World} {p r nq : Nat} (h : RdAt L w p r r .nilIface) (hw3 : w3 = ((w.drewN nq).setCell ⟨L.bb, 2, none⟩ (.int .i64 0)).setCell ⟨L.bb, 3, none⟩ (.int .i64 0)) :
    RdAt L w3 p 0 0 .nilIface ∧ Keep [L.bb] w w3 ∧ w3.heap.size = w.heap.size := by
  have hk : Keep [L.bb] w w3 := by
    rw [hw3]
    exact (((Keep.refl _ w).drewN nq).setCell (.inl (by simp)) _).setCell (.inl (by simp)) _
  obtain ⟨ap, hr, hw, hp, src, ⟨pr, brd⟩, ⟨lb, lr, blk⟩, ⟨f, hrow, _⟩⟩ := h
  refine ⟨⟨ap, Nat.le_refl _, by omega, by omega, src.keep hk (by simpa using ap.s1), ⟨pr, ?_⟩, ⟨lb, lr, ?_⟩, ⟨f, hk.rowIs hrow (by simpa using ap.h1.symm), fun i h1 h2 => by omega⟩⟩, hk, by rw [hw3]; simp⟩
  · rw [hk.block L.rb (lt_blk brd) (by simpa using ap.h2.symm), brd, Nat.sub_self]
  · rw [hw3]
    exact blk_setCell (blk_setCell (w := w.drewN nq) blk 2 _) 3 _
end Go.Proofs.Qxb6616140aDoor
