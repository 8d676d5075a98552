/- (*bufio.Reader).Peek(1) at the end of the source. -/
import Derived.Test.Qxb6616140aDoorPeek
namespace Go.Proofs.Qxb6616140aDoor
open Go.RowKit

set_option maxRecDepth 100000 in
set_option maxHeartbeats 1600000 in
theorem peek_eof (L : Lay) (w : World) (e0 : Addr) (h : Rd L w L.n) (hB : 0 < L.B) (g0 : w.cell? ⟨0, 0, none⟩ = some (.iface 126 (.pointer (some e0)))) :
    Calls Tryd.prog 38 #[.pointer (some ⟨L.bb, 0, none⟩), .int .i64 1] w fun e w' => ∃ v, e = .returned (.tuple #[v, .iface 126 (.pointer (some e0))]) ∧
      Rd L w' L.n ∧ Keep L.own w w' ∧ w'.heap.size = w.heap.size := by
  obtain ⟨r0, wi0, h0⟩ := h
  have ap := h0.ap
  have hown : ∀ x ∈ L.own, L.B ≤ x := by have h1 := ap.B1; have h2 := ap.B2; have h3 := ap.B3; simp [Lay.own]; omega
  have HOwn : Hid (∀ x ∈ L.own, L.B ≤ x) := hown
  clear hown ap
  have HR0 : Hid (RdAt L w L.n r0 wi0 .nilIface) := h0
  have hrw0 := h0.hr
  have hpn0 := h0.hp
  obtain rfl : r0 = wi0 := by omega
  obtain ⟨lb, lr, blk⟩ := h0.blk
  obtain ⟨c0, _, c2, c3, c4, c5, c6⟩ := cells7 blk
  have z5 := frozen_blk blk 5
  have z6 := frozen_blk blk 6
  clear blk h0
  go_enter Tryd.func38, Tryd.ntmps38
  go_wp2_with fail
  obtain ⟨w1, hw1⟩ : ∃ w1, w1 = (w.setCell ⟨L.bb, 5, none⟩ (.int .i64 (-1))).setCell ⟨L.bb, 6, none⟩ (.int .i64 (-1)) := ⟨_, rfl⟩
  obtain ⟨hR1, hk1, hs1⟩ := unmarked HR0.out hw1
  rw [← hw1]
  clear hw1 c0 c2 c3 c4 c5 c6 z5 z6
  go_loopg [] 2 (fun gk wr => Keep L.own w wr ∧ wr.heap.size = w.heap.size ∧ ((gk = 2 ∧ ∃ r, RdAt L wr L.n r r .nilIface) ∨ (gk = 1 ∧ RdAt L wr L.n 0 0 (.iface 126 (.pointer (some e0))))))
  case atStart => exact ⟨hk1.mono (by simp [Lay.own]), hs1, .inl ⟨rfl, _, hR1⟩⟩
  case round =>
    obtain ⟨hkeep, hsz, hg⟩ := hrel
    have HK : Hid (Keep L.own w wr ∧ wr.heap.size = w.heap.size) := ⟨hkeep, hsz⟩
    have hg0 : wr.cell? ⟨0, 0, none⟩ = some (.iface 126 (.pointer (some e0))) := (hkeep.cell (p := ⟨0, 0, none⟩) (lt_of_cell g0) (fun hm => by have := HOwn.out _ hm; simp at this; omega)).trans g0
    have HG0 : Hid (wr.cell? ⟨0, 0, none⟩ = some (.iface 126 (.pointer (some e0)))) := hg0
    clear hkeep hsz hg0
    rcases hg with ⟨rfl, r, hR⟩ | ⟨rfl, hR⟩
    · have HR : Hid (RdAt L wr L.n r r .nilIface) := hR
      have hw := hR.hw
      obtain ⟨lb, lr, blk⟩ := hR.blk
      obtain ⟨c0, _, c2, c3, c4, c5, c6⟩ := cells7 blk
      clear blk hR
      have hW5 : (r : Int) - (r : Int) = 0 := by omega
      go_wp2_with fail
      go_quiet (fail)
      go_wp2_with fail
      refine (fill_eof L _ L.n r r e0 (HR.out.keep ((Keep.refl [] wr).drewN _) (by simp)) (by omega) (by omega) hB HG0.out).mono ?_
      rintro e w2 ⟨rfl, hR2, hk2, hs2⟩
      rw [Nat.sub_self] at hR2
      go_wp2_with fail
      go_roundg 1
      case measure => omega
      case rel => exact ⟨HK.out.1.then hk2.of_drewN, hs2.trans HK.out.2, .inr ⟨rfl, hR2⟩⟩
    · have HR : Hid (RdAt L wr L.n 0 0 (.iface 126 (.pointer (some e0)))) := hR
      obtain ⟨lb, lr, blk⟩ := hR.blk
      obtain ⟨c0, _, c2, c3, c4, c5, c6⟩ := cells7 blk
      clear blk hR
      rw [show ((0 : Nat) : Int) = 0 from rfl] at c2 c3
      go_wp2_with fail
      go_quiet (fail)
      go_wp2_with fail
      go_quiet (fail)
      go_wp2_with fail
      refine (readErr L _ L.n 0 0 _ (HR.out.keep ((Keep.refl [] wr).drewN _) (by simp))).mono ?_
      rintro e w2 ⟨rfl, hR2, hk2, hs2⟩
      have HR2 : Hid (RdAt L w2 L.n 0 0 .nilIface) := hR2
      have HK2 : Hid (Keep L.own w w2 ∧ w2.heap.size = w.heap.size) := ⟨HK.out.1.then (hk2.mono (by simp [Lay.own])).of_drewN, hs2.trans HK.out.2⟩
      clear c0 c2 c3 c4 c5 c6
      obtain ⟨lb2, lr2, blk2⟩ := hR2.blk
      obtain ⟨c0, _, c2, c3, c4, c5, c6⟩ := cells7 blk2
      clear blk2 hR2 hk2 hs2
      rw [show ((0 : Nat) : Int) = 0 from rfl] at c2 c3
      go_wp2_with fail
      go_quiet (fail)
      go_wp2_with fail
      go_ret2
      exact ⟨_, rfl, ⟨0, 0, HR2.out.keep ((Keep.refl [] w2).drewN _) (by simp)⟩, HK2.out.1.drewN _, HK2.out.2⟩
end Go.Proofs.Qxb6616140aDoor
