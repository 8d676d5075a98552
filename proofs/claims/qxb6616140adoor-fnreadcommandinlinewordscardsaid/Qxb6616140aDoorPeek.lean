/- (*bufio.Reader).Peek(1). -/
import Derived.Test.Qxb6616140aDoorNew
namespace Go.Proofs.Qxb6616140aDoor
open Go.RowKit

/-- b.lastByte = -1; b.lastRuneSize = -1 -/
theorem unmarked {L : Lay} {w w1 : World} {p r wi : Nat} {err : Value} (h : RdAt L w p r wi err) (hw1 : w1 = (w.setCell ⟨L.bb, 5, none⟩ (.int .i64 (-1))).setCell ⟨L.bb, 6, none⟩ (.int .i64 (-1))) :
    RdAt L w1 p r wi err ∧ Keep [L.bb] w w1 ∧ w1.heap.size = w.heap.size := by
  have hk : Keep [L.bb] w w1 := by
    rw [hw1]
    exact ((Keep.refl _ w).setCell (.inl (by simp)) _).setCell (.inl (by simp)) _
  obtain ⟨lb, lr, blk⟩ := h.blk
  refine ⟨h.upd hk ⟨-1, -1, ?_⟩ (Nat.le_refl _) h.hr (by omega), hk, by rw [hw1]; simp⟩
  rw [hw1]
  exact blk_setCell (blk_setCell blk 5 _) 6 _

set_option maxRecDepth 100000 in
set_option maxHeartbeats 1600000 in
theorem peek_some (L : Lay) (w : World) (p : Nat) (h : Rd L w p) (hp : p < L.n) :
    Calls Tryd.prog 38 #[.pointer (some ⟨L.bb, 0, none⟩), .int .i64 1] w fun e w' => ∃ o, e = .returned (.tuple #[.slice (some ⟨L.bf, o, none⟩) 1 (4096 - o), .nilIface]) ∧
      Rd L w' p ∧ w'.cell? ⟨L.bf, o, none⟩ = some (L.at p) ∧ Keep L.own w w' ∧ w'.heap.size = w.heap.size := by
  obtain ⟨r0, wi0, h0⟩ := h
  have HR0 : Hid (RdAt L w p r0 wi0 .nilIface) := h0
  obtain ⟨lb, lr, blk⟩ := h0.blk
  obtain ⟨c0, _, c2, c3, c4, c5, c6⟩ := cells7 blk
  have z5 := frozen_blk blk 5
  have z6 := frozen_blk blk 6
  clear blk h0
  go_enter Tryd.func38, Tryd.ntmps38
  go_wp2_with fail
  obtain ⟨w1, hw1⟩ : ∃ w1, w1 = (w.setCell ⟨L.bb, 5, none⟩ (.int .i64 (-1))).setCell ⟨L.bb, 6, none⟩ (.int .i64 (-1)) := ⟨_, rfl⟩
  obtain ⟨hR1, hk1, hs1⟩ := unmarked HR0.out hw1
  rw [← hw1]
  clear hw1 c0 c2 c3 c4 c5 c6 z5 z6
  go_loopg [] 2 (fun gk wr => ∃ r wi, RdAt L wr p r wi .nilIface ∧ Keep L.own w wr ∧ wr.heap.size = w.heap.size ∧ (gk = 2 ∨ (gk = 1 ∧ r < wi)))
  case atStart => exact ⟨_, _, hR1, hk1.mono (by simp [Lay.own]), hs1, .inl rfl⟩
  case round =>
    obtain ⟨r, wi, hR, hkeep, hsz, hg⟩ := hrel
    have HR : Hid (RdAt L wr p r wi .nilIface) := hR
    have HK : Hid (Keep L.own w wr ∧ wr.heap.size = w.heap.size) := ⟨hkeep, hsz⟩
    have HG : Hid (gk = 2 ∨ (gk = 1 ∧ r < wi)) := hg
    have hrw := hR.hr
    have hw := hR.hw
    have hpn := hR.hp
    obtain ⟨lb, lr, blk⟩ := hR.blk
    obtain ⟨c0, _, c2, c3, c4, c5, c6⟩ := cells7 blk
    clear hkeep hsz hg blk hR
    obtain ⟨q, hq⟩ : ∃ q : Nat, q = wi - r := ⟨_, rfl⟩
    have hW5 : (wi : Int) - (r : Int) = (q : Int) := by omega
    have hW6 : IntKind.i64.wrap (q : Int) = (q : Int) := wrap_ok _ (by omega) (by omega)
    have HQ : Hid (q = wi - r) := hq
    have hq4 : q ≤ 4096 := by omega
    clear hq
    by_cases hlt : r < wi
    · have t0 : ¬ q = 0 := by have := HQ.out; omega
      have t1 : decide ((q : Int) < 1) = false := decide_eq_false (by omega)
      have t2 : ¬ (q : Int) < 1 := by omega
      clear t0
      go_wp2_with fail
      go_quiet (fail)
      go_wp2_with fail
      go_quiet (fail)
      go_wp2_with fail
      have hn4 : ¬ 4096 = r := by omega
      have hW2 : IntKind.i64.wrap ((r : Int) + 1) = (r : Int) + 1 := wrap_ok _ (by omega) (by omega)
      have hT3 : ((r : Int) + 1).toNat = r + 1 := by omega
      have hN3 : (0 : Int) ≤ (r : Int) + 1 := by omega
      have hN4 : (r : Int) + 1 ≤ 4096 := by omega
      have hL5 : r + 1 - r = 1 := by omega
      have hN5 : (r : Int) ≤ (r : Int) + 1 := by omega
      go_quiet (fail)
      go_wp2_with fail
      go_ret2
      have hb := HR.out.bufCell r (Nat.le_refl _) hlt
      rw [Nat.sub_self, Nat.add_zero] at hb
      exact ⟨r, rfl, ⟨r, wi, HR.out.keep (((Keep.refl [] wr).drewN _).drewN _) (by simp)⟩, hb, (HK.out.1.drewN _).drewN _, HK.out.2⟩
    · obtain rfl : r = wi := by omega
      obtain rfl : q = 0 := by have := HQ.out; omega
      go_wp2_with fail
      go_quiet (fail)
      go_wp2_with fail
      refine (fill_more L _ p r r (HR.out.keep ((Keep.refl [] wr).drewN _) (by simp)) (by omega) (by omega)).mono ?_
      rintro e w2 ⟨rfl, hR2, hk2, hs2⟩
      go_wp2_with fail
      go_roundg 1
      case measure => rcases HG.out with h | h <;> omega
      case rel => exact ⟨0, min 4096 (L.n - p), hR2, HK.out.1.then hk2.of_drewN, hs2.trans HK.out.2, .inr ⟨rfl, by omega⟩⟩
end Go.Proofs.Qxb6616140aDoor
