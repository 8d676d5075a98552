/- (*bufio.Reader).ReadSlice at the end of the source: no newline is left. -/
import Derived.Test.Qxb6616140aDoorSlice
namespace Go.Proofs.Qxb6616140aDoor
open Go.RowKit

/-- b.r = b.w -/
theorem drained {L : Lay} {w w5 : World} {p r wi nq : Nat} {err : Value} (h : RdAt L w p r wi err) (hw5 : w5 = (w.drewN nq).setCell ⟨L.bb, 2, none⟩ (.int .i64 (wi : Int))) :
    RdAt L w5 (p + (wi - r)) wi wi err ∧ Keep L.own w w5 ∧ w5.heap.size = w.heap.size := by
  have hk : Keep [L.bb] w w5 := by
    rw [hw5]
    exact ((Keep.refl _ w).drewN nq).setCell (.inl (by simp)) _
  obtain ⟨lb, lr, blk⟩ := h.blk
  refine ⟨h.upd hk ⟨lb, lr, ?_⟩ h.hr (Nat.le_refl _) rfl, hk.mono (by simp [Lay.own]), by rw [hw5]; simp⟩
  rw [hw5]
  exact blk_setCell (w := w.drewN nq) blk 2 _

/-- lastByte, lastRuneSize -/
theorem marked {L : Lay} {w w5 : World} {p r wi : Nat} {err : Value} {b5 : Int} (h : RdAt L w p r wi err) (hw5 : w5 = (w.setCell ⟨L.bb, 5, none⟩ (.int .i64 b5)).setCell ⟨L.bb, 6, none⟩ (.int .i64 (-1))) :
    RdAt L w5 p r wi err ∧ Keep L.own w w5 ∧ w5.heap.size = w.heap.size := by
  have hk : Keep [L.bb] w w5 := by
    rw [hw5]
    exact ((Keep.refl _ w).setCell (.inl (by simp)) _).setCell (.inl (by simp)) _
  obtain ⟨lb, lr, blk⟩ := h.blk
  refine ⟨h.upd hk ⟨b5, -1, ?_⟩ (Nat.le_refl _) h.hr (by omega), hk.mono (by simp [Lay.own]), by rw [hw5]; simp⟩
  rw [hw5]
  exact blk_setCell (blk_setCell blk 5 _) 6 _

set_option maxRecDepth 100000 in
set_option maxHeartbeats 800000 in
theorem readSlice_eof (L : Lay) (w : World) (p : Nat) (e0 : Addr) (h : Rd L w p) (h4 : L.n - p < 4096) (hno : ∀ j, p + j < L.n → L.src.getD (p + j) 0 ≠ 10) (hB : 0 < L.B) (g0 : w.cell? ⟨0, 0, none⟩ = some (.iface 126 (.pointer (some e0)))) :
    Calls Tryd.prog 62 #[.pointer (some ⟨L.bb, 0, none⟩), .int .u8 10] w fun e w' => ∃ v, e = .returned (.tuple #[v, .iface 126 (.pointer (some e0))]) ∧
      Rd L w' L.n ∧ Keep L.own w w' ∧ w'.heap.size = w.heap.size := by
  obtain ⟨r0, wi0, h0⟩ := h
  have ap := h0.ap
  have hown : ∀ x ∈ L.own, L.B ≤ x := by have h1 := ap.B1; have h2 := ap.B2; have h3 := ap.B3; simp [Lay.own]; omega
  go_enter Tryd.func62, Tryd.ntmps62
  go_wp2
  go_loopg [5, 6] 3 (fun k e s wr => e = .nilIface ∧ ∃ (r wi sn : Nat) (err : Value), RdAt L wr p r wi err ∧ s = .int .i64 sn ∧ sn ≤ wi - r ∧ ((k = 3 ∧ err = .nilIface) ∨ (k = 2 ∧ err = .nilIface ∧ p + (wi - r) = L.n) ∨ (k = 1 ∧ err = .iface 126 (.pointer (some e0)) ∧ p + (wi - r) = L.n)) ∧ Keep L.own w wr ∧ wr.heap.size = w.heap.size)
  case atStart => exact ⟨rfl, r0, wi0, 0, _, h0, rfl, Nat.zero_le _, .inl ⟨rfl, rfl⟩, Keep.refl _ _, rfl⟩
  case round =>
    obtain ⟨rfl, r, wi, sn, err, hR, rfl, hs1, hk, hkeep, hsz⟩ := hrel
    have HR : Hid (RdAt L wr p r wi err) := hR
    have HK : Hid (Keep L.own w wr ∧ wr.heap.size = w.heap.size) := ⟨hkeep, hsz⟩
    have hg0 : wr.cell? ⟨0, 0, none⟩ = some (.iface 126 (.pointer (some e0))) := (hkeep.cell (p := ⟨0, 0, none⟩) (lt_of_cell g0) (fun hm => by have := hown _ hm; simp at this; omega)).trans g0
    have HG0 : Hid (wr.cell? ⟨0, 0, none⟩ = some (.iface 126 (.pointer (some e0)))) := hg0
    have hrw := hR.hr
    have hw := hR.hw
    have hpn := hR.hp
    obtain ⟨lb, lr, blk⟩ := hR.blk
    obtain ⟨c0, _, c2, c3, c4, c5, c6⟩ := cells7 blk
    have z2 := frozen_blk blk 2
    have HN : Hid (∀ j, p + j < L.n → L.src.getD (p + j) 0 ≠ 10) := hno
    clear hkeep hsz blk hno hg0
    obtain ⟨o, hif, ho⟩ := cut_addr L.bf (r + sn) (wi - (r + sn)) (by omega)
    have hcb : ∀ j, j < wi - (r + sn) → wr.cell? ⟨L.bf, o + j, none⟩ = some (.int .u8 (L.src.getD (p + sn + j) 0)) := fun j hj => by
      rw [ho (by omega), hR.bufCell (r + sn + j) (by omega) (by omega), show p + (r + sn + j - r) = p + sn + j by omega]
    have HCB : Hid (∀ j, j < wi - (r + sn) → wr.cell? ⟨L.bf, o + j, none⟩ = some (.int .u8 (L.src.getD (p + sn + j) 0))) := hcb
    have HCall : Hid (∀ m, Calls Tryd.prog 75 #[.slice (some ⟨L.bf, o, none⟩) (wi - (r + sn)) (4096 - (r + sn)), .int .u8 10] (wr.drewN m) fun e w' => e = .returned (.int .i64 (-1)) ∧ w' = wr.drewN m) :=
      fun m => indexByte_none L.bf o (wi - (r + sn)) _ (fun j => L.src.getD (p + sn + j) 0) 10 (wr.drewN m) HCB.out (fun j => ap.hr _) (by omega) (fun j hj => by have := HN.out (sn + j) (by omega); rwa [← Nat.add_assoc] at this)
    have hA : (r : Int) + (sn : Int) ≤ (wi : Int) := by omega
    have hB' : (wi : Int) ≤ 4096 := by omega
    have hW1 : IntKind.i64.wrap ((r : Int) + (sn : Int)) = (r : Int) + (sn : Int) := wrap_ok _ (by omega) (by omega)
    have hN1 : (0 : Int) ≤ (r : Int) + (sn : Int) := by omega
    have hT1 : ((r : Int) + (sn : Int)).toNat = r + sn := by omega
    clear hR hcb ho
    by_cases herr : err = .nilIface
    · subst herr
      have HG : Hid (gk = 3 ∨ (gk = 2 ∧ p + (wi - r) = L.n)) := by
        rcases hk with h | h | h
        · exact .inl h.1
        · exact .inr ⟨h.1, h.2.2⟩
        · have := h.2.1; cases this
      clear hk
      go_wp2_with fail
      go_quiet ((go_at_call 75; exact Calls.quiet_of_same (HCall.out _)))
      obtain ⟨w1, hw1⟩ : ∃ w1, w1 = wr.drewN nq := ⟨_, rfl⟩
      have hR1 : RdAt L w1 p r wi .nilIface := by rw [hw1]; exact HR.out.keep ((Keep.refl [] wr).drewN nq) (by simp)
      have HK1 : Hid (Keep L.own w w1 ∧ w1.heap.size = w.heap.size) := by show _ ∧ _; rw [hw1]; exact ⟨HK.out.1.drewN nq, HK.out.2⟩
      have HG1 : Hid (w1.cell? ⟨0, 0, none⟩ = some (.iface 126 (.pointer (some e0)))) := by show _ = _; rw [hw1]; exact HG0.out
      rw [← hw1]
      clear hw1 c0 c2 c3 c4 c5 c6 z2 HCall HCB hif hW1 hT1 hN1
      have HR1 : Hid (RdAt L w1 p r wi .nilIface) := hR1
      obtain ⟨lb1, lr1, blk1⟩ := hR1.blk
      obtain ⟨c0, _, c2, c3, c4, _, _⟩ := cells7 blk1
      clear blk1 hR1
      have HBuf : Hid (∀ m, Calls Tryd.prog 76 #[.pointer (some ⟨L.bb, 0, none⟩)] (w1.drewN m) fun e w' => e = .returned (.int .i64 ((wi - r : Nat) : Int)) ∧ ∃ n, w' = (w1.drewN m).drewN n) :=
        fun m => buffered L (w1.drewN m) p r wi .nilIface (HR1.out.keep ((Keep.refl [] w1).drewN m) (by simp))
      have hnf : ¬ (4096 : Int) ≤ ((wi - r : Nat) : Int) := by omega
      go_wp2_with fail
      go_quiet ((go_at_call 76; exact Calls.quiet_of (HBuf.out _)))
      have hW5 : IntKind.i64.wrap ((wi : Int) - (r : Int)) = (wi : Int) - (r : Int) := wrap_ok _ (by omega) (by omega)
      go_wp2_with fail
      go_quiet (fail)
      go_wp2_with fail
      by_cases hmore : p + (wi - r) < L.n
      · refine (fill_more L _ p r wi (HR1.out.keep ((Keep.refl [] w1).drewN _) (by simp)) (by omega) hmore).mono ?_
        rintro e w2 ⟨rfl, hR2, hk2, hs2⟩
        go_wp2
        go_roundg 2
        case measure => rcases HG.out with h | h <;> omega
        case rel => exact ⟨rfl, 0, min 4096 (L.n - p), wi - r, _, hR2, by go_num, by omega, .inr (.inl ⟨rfl, rfl, by omega⟩), HK1.out.1.then hk2.of_drewN, hs2.trans HK1.out.2⟩
      · refine (fill_eof L _ p r wi e0 (HR1.out.keep ((Keep.refl [] w1).drewN _) (by simp)) (by omega) (by omega) hB HG1.out).mono ?_
        rintro e w2 ⟨rfl, hR2, hk2, hs2⟩
        go_wp2
        go_roundg 1
        case measure => rcases HG.out with h | h <;> omega
        case rel => exact ⟨rfl, 0, wi - r, wi - r, _, hR2, by go_num, by omega, .inr (.inr ⟨rfl, rfl, by omega⟩), HK1.out.1.then hk2.of_drewN, hs2.trans HK1.out.2⟩
    · have hk1 : err = .iface 126 (.pointer (some e0)) ∧ p + (wi - r) = L.n := by
        rcases hk with h | h | h
        · exact absurd h.2 herr
        · exact absurd h.2.1 herr
        · exact h.2
      obtain ⟨rfl, hpe⟩ := hk1
      clear hk herr
      go_wp2_with fail
      go_quiet ((go_at_call 75; exact Calls.quiet_of_same (HCall.out _)))
      go_wp2_with fail
      obtain ⟨m1, hm1⟩ : ∃ m1, m1 = nq := ⟨_, rfl⟩
      rw [← hm1]
      clear hm1
      have hrw' : (r : Int) ≤ (wi : Int) := by omega
      obtain ⟨o2, hif2, ho2⟩ := cut_addr L.bf r (wi - r) (by omega)
      have HO2 : Hid (0 < wi - r → o2 = r) := ho2
      clear ho2
      go_quiet (fail)
      go_wp2_with fail
      obtain ⟨w1, hw1⟩ : ∃ w1, w1 = (wr.drewN (m1 + nq)).setCell ⟨L.bb, 2, none⟩ (.int .i64 (wi : Int)) := ⟨_, rfl⟩
      obtain ⟨hR1, hk1, hs1⟩ := drained HR.out hw1
      rw [← hw1]
      have HD : Hid (Keep L.own wr w1 ∧ w1.heap.size = wr.heap.size) := ⟨hk1, hs1⟩
      have hlast : wi - r ≠ 0 → w1.cell? ⟨L.bf, o2 + (wi - r - 1), none⟩ = some (.int .u8 (L.src.getD (p + (wi - r - 1)) 0)) := fun hne => by
        have := HR.out.bufCell (r + (wi - r - 1)) (by omega) (by omega)
        rw [show p + (r + (wi - r - 1) - r) = p + (wi - r - 1) by omega] at this
        rw [HO2.out (by omega), hw1]
        exact (World.cell?_setCell_other _ _ _ _ (by simp; intro h; exact absurd h ap.h1)).trans this
      clear hw1 hk1 hs1 c0 c2 c3 c4 c5 c6 z2 HCall HCB hif hif2 hW1 hT1 hN1
      refine (readErr L w1 _ wi wi _ hR1).mono ?_
      rintro e w2 ⟨rfl, hR2, hk2, hs2⟩
      have HR2 : Hid (RdAt L w2 (p + (wi - r)) wi wi .nilIface) := hR2
      have HK2 : Hid (Keep L.own w w2 ∧ w2.heap.size = w.heap.size) := ⟨(HK.out.1.then HD.out.1).then (hk2.mono (by simp [Lay.own])), (hs2.trans HD.out.2).trans HK.out.2⟩
      obtain ⟨lb2, lr2, blk2⟩ := hR2.blk
      obtain ⟨_, _, _, _, _, c5, c6⟩ := cells7 blk2
      have z5 := frozen_blk blk2 5
      have z6 := frozen_blk blk2 6
      clear blk2 hs2 hR2 hR1
      by_cases hemp : wi - r = 0
      · have hi0 : ((wi - r : Nat) : Int) = 0 := by omega
        clear hlast
        go_wp2
        go_ret2
        exact ⟨_, rfl, ⟨_, _, by rw [← hpe]; exact HR2.out⟩, HK2.out⟩
      · have hl2 : w2.cell? ⟨L.bf, o2 + (wi - r - 1), none⟩ = some (.int .u8 (L.src.getD (p + (wi - r - 1)) 0)) := by
          exact (hk2.cell (p := ⟨L.bf, o2 + (wi - r - 1), none⟩) (lt_of_cell (hlast hemp)) (by simpa using ap.h1.symm)).trans (hlast hemp)
        obtain ⟨x, hx⟩ : ∃ x, x = L.src.getD (p + (wi - r - 1)) 0 := ⟨_, rfl⟩
        rw [← hx] at hl2
        have hxr := ap.hr (p + (wi - r - 1))
        rw [← hx] at hxr
        clear hlast hx hk2
        obtain ⟨m, hm⟩ : ∃ m, wi - r = m + 1 := ⟨wi - r - 1, by omega⟩
        rw [hm, Nat.add_sub_cancel] at hl2
        go_wp2
        go_ret2
        obtain ⟨hR5, hk5, hs5⟩ := marked HR2.out rfl
        exact ⟨_, rfl, ⟨_, _, by rw [← hpe]; exact hR5⟩, HK2.out.1.then hk5, hs5.trans HK2.out.2⟩
end Go.Proofs.Qxb6616140aDoor
