/- (*bufio.Reader).ReadSlice where no newline lies within the buffer's length. -/
import Derived.Test.Qxb6616140aDoorSliceE
import Derived.Deep.DeepCutAuto
namespace Go.Proofs.Qxb6616140aDoor
open Go.RowKit

set_option maxRecDepth 100000 in
set_option maxHeartbeats 800000 in
theorem readSlice_full (L : Lay) (w : World) (p : Nat) (e3 : Addr) (h : Rd L w p) (h4 : p + 4096 ≤ L.n) (hno : ∀ j, j < 4096 → L.src.getD (p + j) 0 ≠ 10) (hB : 3 < L.B) (g3 : w.cell? ⟨3, 0, none⟩ = some (.iface 126 (.pointer (some e3)))) :
    Calls Tryd.prog 62 #[.pointer (some ⟨L.bb, 0, none⟩), .int .u8 10] w fun e w' => e = .returned (.tuple #[.slice (some ⟨L.bf, 0, none⟩) 4096 4096, .iface 126 (.pointer (some e3))]) ∧
      Rd L w' (p + 4096) ∧ (∀ j, j < 4096 → w'.cell? ⟨L.bf, j, none⟩ = some (L.at (p + j))) ∧ Keep L.own w w' ∧ w'.heap.size = w.heap.size := by
  obtain ⟨r0, wi0, h0⟩ := h
  have ap := h0.ap
  have hown : ∀ x ∈ L.own, L.B ≤ x := by have h1 := ap.B1; have h2 := ap.B2; have h3 := ap.B3; simp [Lay.own]; omega
  go_enter Tryd.func62, Tryd.ntmps62
  go_wp2
  go_loopg [5, 6] 2 (fun k e s wr => e = .nilIface ∧ ∃ (r wi sn : Nat), RdAt L wr p r wi .nilIface ∧ s = .int .i64 sn ∧ sn ≤ wi - r ∧ (k = 2 ∨ (k = 1 ∧ wi - r = 4096)) ∧ Keep L.own w wr ∧ wr.heap.size = w.heap.size)
  case atStart => exact ⟨rfl, r0, wi0, 0, h0, rfl, Nat.zero_le _, .inl rfl, Keep.refl _ _, rfl⟩
  case round =>
    obtain ⟨rfl, r, wi, sn, hR, rfl, hs1, hk, hkeep, hsz⟩ := hrel
    have HR : Hid (RdAt L wr p r wi .nilIface) := hR
    have HK : Hid (Keep L.own w wr ∧ wr.heap.size = w.heap.size) := ⟨hkeep, hsz⟩
    have HG0 : Hid (wr.cell? ⟨3, 0, none⟩ = some (.iface 126 (.pointer (some e3)))) := (hkeep.cell (p := ⟨3, 0, none⟩) (lt_of_cell g3) (fun hm => by have := hown _ hm; simp at this; omega)).trans g3
    have hrw := hR.hr
    have hw := hR.hw
    have hpn := hR.hp
    obtain ⟨lb, lr, blk⟩ := hR.blk
    obtain ⟨c0, _, c2, c3, c4, c5, c6⟩ := cells7 blk
    have z2 := frozen_blk blk 2
    have HN : Hid (∀ j, j < 4096 → L.src.getD (p + j) 0 ≠ 10) := hno
    have HG : Hid (gk = 2 ∨ (gk = 1 ∧ wi - r = 4096)) := hk
    clear hkeep hsz blk hno hk
    obtain ⟨o, hif, ho⟩ := cut_addr L.bf (r + sn) (wi - (r + sn)) (by omega)
    have hcb : ∀ j, j < wi - (r + sn) → wr.cell? ⟨L.bf, o + j, none⟩ = some (.int .u8 (L.src.getD (p + sn + j) 0)) := fun j hj => by
      rw [ho (by omega), hR.bufCell (r + sn + j) (by omega) (by omega), show p + (r + sn + j - r) = p + sn + j by omega]
    have HCB : Hid (∀ j, j < wi - (r + sn) → wr.cell? ⟨L.bf, o + j, none⟩ = some (.int .u8 (L.src.getD (p + sn + j) 0))) := hcb
    have HCall : Hid (∀ m, Calls Tryd.prog 75 #[.slice (some ⟨L.bf, o, none⟩) (wi - (r + sn)) (4096 - (r + sn)), .int .u8 10] (wr.drewN m) fun e w' => e = .returned (.int .i64 (-1)) ∧ w' = wr.drewN m) :=
      fun m => indexByte_none L.bf o (wi - (r + sn)) _ (fun j => L.src.getD (p + sn + j) 0) 10 (wr.drewN m) HCB.out (fun j => ap.hr _) (by omega) (fun j hj => by have := HN.out (sn + j) (by omega); rwa [← Nat.add_assoc] at this)
    have hA : (r : Int) + (sn : Int) ≤ (wi : Int) := by omega
    have hB' : (wi : Int) ≤ 4096 := by omega
    have hW1 : IntKind.i64.wrap ((r : Int) + (sn : Int)) = (r : Int) + (sn : Int) := wrap_ok _ (by omega) (by omega)
    have hN1 : (0 : Int) ≤ (r : Int) + (sn : Int) := by omega
    have hT1 : ((r : Int) + (sn : Int)).toNat = r + sn := by omega
    clear hR hcb ho
    go_wp2_with fail
    go_quiet ((go_at_call 75; exact Calls.quiet_of_same (HCall.out _)))
    obtain ⟨w1, hw1⟩ : ∃ w1, w1 = wr.drewN nq := ⟨_, rfl⟩
    have hR1 : RdAt L w1 p r wi .nilIface := by rw [hw1]; exact HR.out.keep ((Keep.refl [] wr).drewN nq) (by simp)
    have HK1 : Hid (Keep L.own w w1 ∧ w1.heap.size = w.heap.size) := by show _ ∧ _; rw [hw1]; exact ⟨HK.out.1.drewN nq, HK.out.2⟩
    have HG1 : Hid (w1.cell? ⟨3, 0, none⟩ = some (.iface 126 (.pointer (some e3)))) := by show _ = _; rw [hw1]; exact HG0.out
    rw [← hw1]
    clear hw1 c0 c2 c3 c4 c5 c6 z2 HCall HCB hif hW1 hT1 hN1
    have HR1 : Hid (RdAt L w1 p r wi .nilIface) := hR1
    obtain ⟨lb1, lr1, blk1⟩ := hR1.blk
    obtain ⟨c0, _, c2, c3, c4, _, _⟩ := cells7 blk1
    have z2 := frozen_blk blk1 2
    clear blk1 hR1
    have HBuf : Hid (∀ m, Calls Tryd.prog 76 #[.pointer (some ⟨L.bb, 0, none⟩)] (w1.drewN m) fun e w' => e = .returned (.int .i64 ((wi - r : Nat) : Int)) ∧ ∃ n, w' = (w1.drewN m).drewN n) :=
      fun m => buffered L (w1.drewN m) p r wi .nilIface (HR1.out.keep ((Keep.refl [] w1).drewN m) (by simp))
    by_cases hfull : wi - r = 4096
    · have hnf : (4096 : Int) ≤ ((wi - r : Nat) : Int) := by omega
      go_wp2_with fail
      go_quiet ((go_at_call 76; exact Calls.quiet_of (HBuf.out _)))
      obtain ⟨w5, hw5⟩ : ∃ w5, w5 = (w1.drewN nq).setCell ⟨L.bb, 2, none⟩ (.int .i64 (wi : Int)) := ⟨_, rfl⟩
      obtain ⟨hR5, hk5, hs5⟩ := drained HR1.out hw5
      have hg5 : w5.cell? ⟨3, 0, none⟩ = some (.iface 126 (.pointer (some e3))) := (hk5.cell (p := ⟨3, 0, none⟩) (lt_of_cell HG1.out) (fun hm => by have := hown _ hm; simp at this; omega)).trans HG1.out
      have hcell : ∀ j, j < 4096 → w5.cell? ⟨L.bf, j, none⟩ = some (L.at (p + j)) := fun j hj => by
        have := HR1.out.bufCell (r + j) (by omega) (by omega)
        rw [show p + (r + j - r) = p + j by omega, show r + j = j by omega] at this
        rw [hw5]
        exact (World.cell?_setCell_other _ _ _ _ (by simp; intro h; exact absurd h ap.h1)).trans this
      have HCELL : Hid (∀ j, j < 4096 → w5.cell? ⟨L.bf, j, none⟩ = some (L.at (p + j))) := hcell
      have HR5 : Hid (RdAt L w5 (p + (wi - r)) wi wi .nilIface) := hR5
      have HK5 : Hid (Keep L.own w w5 ∧ w5.heap.size = w.heap.size) := ⟨HK1.out.1.then hk5, hs5.trans HK1.out.2⟩
      obtain ⟨x, hx⟩ : ∃ x, x = L.src.getD (p + 4095) 0 := ⟨_, rfl⟩
      have hl2 : w5.cell? ⟨L.bf, 4095, none⟩ = some (.int .u8 x) := by rw [hx]; exact hcell 4095 (by omega)
      have hxr := ap.hr (p + 4095)
      rw [← hx] at hxr
      obtain ⟨lb2, lr2, blk2⟩ := hR5.blk
      obtain ⟨d0, _, _, _, _, d5, d6⟩ := cells7 blk2
      have z5 := frozen_blk blk2 5
      have z6 := frozen_blk blk2 6
      clear blk2 hs5 hR5 hk5 hcell hx HBuf
      go_upto_region 13 with fail
      rw [← hw5]
      clear hw5 c0 c2 c3 c4 z2
      go_wp2_with fail
      go_ret2
      obtain ⟨hR7, hk7, hs7⟩ := marked HR5.out rfl
      rw [hfull] at hR7
      refine ⟨rfl, ⟨_, _, hR7⟩, fun j hj => ?_, HK5.out.1.then hk7, hs7.trans HK5.out.2⟩
      have e := HCELL.out j hj
      rw [World.cell?_setCell_other _ _ _ _ (by simp; intro h; exact absurd h ap.h1), World.cell?_setCell_other _ _ _ _ (by simp; intro h; exact absurd h ap.h1)]
      exact e
    · have hnf : ¬ (4096 : Int) ≤ ((wi - r : Nat) : Int) := by omega
      go_wp2_with fail
      go_quiet ((go_at_call 76; exact Calls.quiet_of (HBuf.out _)))
      have hW5 : IntKind.i64.wrap ((wi : Int) - (r : Int)) = (wi : Int) - (r : Int) := wrap_ok _ (by omega) (by omega)
      go_wp2_with fail
      go_quiet (fail)
      go_wp2_with fail
      refine (fill_more L _ p r wi (HR1.out.keep ((Keep.refl [] w1).drewN _) (by simp)) (by omega) (by omega)).mono ?_
      rintro e w2 ⟨rfl, hR2, hk2, hs2⟩
      go_wp2
      go_roundg 1
      case measure => rcases HG.out with h | h <;> omega
      case rel => exact ⟨rfl, 0, min 4096 (L.n - p), wi - r, hR2, by go_num, by omega, .inr ⟨rfl, by omega⟩, HK1.out.1.then hk2.of_drewN, hs2.trans HK1.out.2⟩
end Go.Proofs.Qxb6616140aDoor
