/- (*bufio.Reader).ReadSlice at a newline. -/
import Derived.Test.Qxb6616140aDoorSmall
namespace Go.Proofs.Qxb6616140aDoor
open Go.RowKit

theorem wrap_ok (n : Int) (h0 : 0 ≤ n) (h1 : n ≤ 9223372036854775807) : IntKind.i64.wrap n = n := by
  rw [IntKind.wrap_i64]; omega

/-- What lies in the buffer, by places of the source. -/
theorem RdAt.bufCell {L : Lay} {w : World} {p r wi : Nat} {err : Value} (h : RdAt L w p r wi err) (i : Nat) (h1 : r ≤ i) (h2 : i < wi) : w.cell? ⟨L.bf, i, none⟩ = some (.int .u8 (L.src.getD (p + (i - r)) 0)) := by
  obtain ⟨f, hrow, hf⟩ := h.buf
  have := h.hw
  rw [hrow.cell (by omega), hf i h1 h2]; rfl

/-- Behind ReadSlice's three stores. -/
theorem sliced {L : Lay} {w w5 : World} {p r wi i nq : Nat} {b5 : Int} (h : RdAt L w p r wi .nilIface) (hi : i < wi - r)
    (hw5 : w5 = ((((w.drewN nq).setCell ⟨L.bb, 2, none⟩ (.int .i64 ((r : Int) + ((i : Int) + 1)))).setCell ⟨L.bb, 5, none⟩ (.int .i64 b5)).setCell ⟨L.bb, 6, none⟩ (.int .i64 (-1)))) :
    RdAt L w5 (p + i + 1) (r + i + 1) wi .nilIface ∧ (∀ j, j ≤ i → w5.cell? ⟨L.bf, r + j, none⟩ = some (L.at (p + j))) ∧ Keep L.own w w5 ∧ w5.heap.size = w.heap.size := by
  have hk : Keep [L.bb] w w5 := by
    rw [hw5]
    exact ((((Keep.refl _ w).drewN nq).setCell (.inl (by simp)) _).setCell (.inl (by simp)) _).setCell (.inl (by simp)) _
  obtain ⟨lb, lr, blk⟩ := h.blk
  have ap := h.ap
  refine ⟨h.upd hk ⟨b5, -1, ?_⟩ (by omega) (by omega) (by omega), fun j hj => ?_, hk.mono (by simp [Lay.own]), by rw [hw5]; simp⟩
  · have e : ((r : Int) + ((i : Int) + 1)) = ((r + i + 1 : Nat) : Int) := by omega
    rw [hw5, e]
    exact blk_setCell (blk_setCell (blk_setCell (w := w.drewN nq) blk 2 _) 5 _) 6 _
  · have hc := h.bufCell (r + j) (by omega) (by omega)
    rw [show p + (r + j - r) = p + j by omega] at hc
    exact (hk.cell (p := ⟨L.bf, r + j, none⟩) (lt_of_cell hc) (by simpa using ap.h1.symm)).trans hc

/-- The address of a slice's cut at 'a' of 4096. -/
theorem cut_addr (bf a m : Nat) (hm : a + m ≤ 4096) : ∃ o, (if 4096 = a then (some ⟨bf, 0, none⟩ : Option Addr) else some ⟨bf, a, none⟩) = some ⟨bf, o, none⟩ ∧ (0 < m → o = a) := by
  by_cases h : 4096 = a
  · exact ⟨0, by rw [if_pos h], fun h' => by omega⟩
  · exact ⟨a, by rw [if_neg h], fun _ => rfl⟩

set_option maxRecDepth 100000 in
set_option maxHeartbeats 800000 in
theorem readSlice_found (L : Lay) (w : World) (p i : Nat) (h : Rd L w p) (hi : p + i < L.n) (hi4 : i < 4096) (hnl : L.src.getD (p + i) 0 = 10) (hno : ∀ j, j < i → L.src.getD (p + j) 0 ≠ 10) :
    Calls Tryd.prog 62 #[.pointer (some ⟨L.bb, 0, none⟩), .int .u8 10] w fun e w' => ∃ o, e = .returned (.tuple #[.slice (some ⟨L.bf, o, none⟩) (i + 1) (4096 - o), .nilIface]) ∧
      o + i + 1 ≤ 4096 ∧ Rd L w' (p + i + 1) ∧ (∀ j, j ≤ i → w'.cell? ⟨L.bf, o + j, none⟩ = some (L.at (p + j))) ∧ Keep L.own w w' ∧ w'.heap.size = w.heap.size := by
  obtain ⟨r0, wi0, h0⟩ := h
  have ap := h0.ap
  go_enter Tryd.func62, Tryd.ntmps62
  go_wp2
  go_loopg [5, 6] 2 (fun k e s wr => e = .nilIface ∧ ∃ r wi sn : Nat, RdAt L wr p r wi .nilIface ∧ s = .int .i64 sn ∧ sn ≤ wi - r ∧ sn ≤ i ∧ (k = 2 ∨ (k = 1 ∧ i < wi - r)) ∧ Keep L.own w wr ∧ wr.heap.size = w.heap.size)
  case atStart => exact ⟨rfl, r0, wi0, 0, h0, rfl, Nat.zero_le _, Nat.zero_le _, .inl rfl, Keep.refl _ _, rfl⟩
  case round =>
    obtain ⟨rfl, r, wi, sn, hR, rfl, hs1, hs2, hk, hkeep, hsz⟩ := hrel
    have HR : Hid (RdAt L wr p r wi .nilIface) := hR
    have HK : Hid (Keep L.own w wr ∧ wr.heap.size = w.heap.size) := ⟨hkeep, hsz⟩
    have HG : Hid (gk = 2 ∨ (gk = 1 ∧ i < wi - r)) := hk
    have hrw := hR.hr
    have hw := hR.hw
    have hpn := hR.hp
    obtain ⟨lb, lr, blk⟩ := hR.blk
    obtain ⟨c0, _, c2, c3, c4, c5, c6⟩ := cells7 blk
    have z2 := frozen_blk blk 2
    have z5 := frozen_blk blk 5
    have z6 := frozen_blk blk 6
    have HN : Hid (∀ j, j < i → L.src.getD (p + j) 0 ≠ 10) := hno
    have HNL : Hid (L.src.getD (p + i) 0 = 10) := hnl
    clear hkeep hsz hk blk hno hnl
    by_cases hfnd : i < wi - r
    · have hne : ¬ 4096 = r + sn := by omega
      have hcb : ∀ j, j < wi - (r + sn) → wr.cell? ⟨L.bf, r + sn + j, none⟩ = some (.int .u8 (L.src.getD (p + sn + j) 0)) := fun j hj => by
        rw [hR.bufCell (r + sn + j) (by omega) (by omega), show p + (r + sn + j - r) = p + sn + j by omega]
      have HCB : Hid (∀ j, j < wi - (r + sn) → wr.cell? ⟨L.bf, r + sn + j, none⟩ = some (.int .u8 (L.src.getD (p + sn + j) 0))) := hcb
      have hA : (r : Int) + (sn : Int) ≤ (wi : Int) := by omega
      have hB : (wi : Int) ≤ 4096 := by omega
      have hW1 : IntKind.i64.wrap ((r : Int) + (sn : Int)) = (r : Int) + (sn : Int) := wrap_ok _ (by omega) (by omega)
      have hN1 : (0 : Int) ≤ (r : Int) + (sn : Int) := by omega
      have hT1 : ((r : Int) + (sn : Int)).toNat = r + sn := by omega
      have HCall : Hid (∀ m, Calls Tryd.prog 75 #[.slice (some ⟨L.bf, r + sn, none⟩) (wi - (r + sn)) (4096 - (r + sn)), .int .u8 10] (wr.drewN m) fun e w' => e = .returned (.int .i64 ((i - sn : Nat) : Int)) ∧ w' = wr.drewN m) :=
        fun m => indexByte_found L.bf (r + sn) (wi - (r + sn)) _ (fun j => L.src.getD (p + sn + j) 0) (i - sn) 10 (wr.drewN m) HCB.out (fun j => ap.hr _) (by omega) (by omega) (by show L.src.getD (p + sn + (i - sn)) 0 = 10; rw [show p + sn + (i - sn) = p + i by omega]; exact HNL.out) (fun j hj => by have := HN.out (sn + j) (by omega); rwa [← Nat.add_assoc] at this)
      clear hR hcb
      go_wp2_with fail
      go_quiet ((go_at_call 75; exact Calls.quiet_of_same (HCall.out _)))
      have hII : i - sn + sn = i := by omega
      have hE1 : ((i - sn : Nat) : Int) + (sn : Int) = (i : Int) := by omega
      have hP1 : (0 : Int) ≤ ((i - sn : Nat) : Int) := by omega
      go_wp2
      have hn4 : ¬ 4096 = r := by omega
      have hW2 : IntKind.i64.wrap ((r : Int) + (i : Int)) = (r : Int) + (i : Int) := wrap_ok _ (by omega) (by omega)
      have hW3 : IntKind.i64.wrap ((r : Int) + (i : Int) + 1) = (r : Int) + (i : Int) + 1 := wrap_ok _ (by omega) (by omega)
      have hT3 : ((r : Int) + (i : Int) + 1).toNat = r + i + 1 := by omega
      have hN3 : (0 : Int) ≤ (r : Int) + (i : Int) + 1 := by omega
      have hN4 : (r : Int) + (i : Int) + 1 ≤ 4096 := by omega
      have hL5 : r + i + 1 - r = i + 1 := by omega
      have hN5 : (r : Int) ≤ (r : Int) + (i : Int) + 1 := by omega
      go_quiet (fail)
      have hne1 : ¬ L.bb = L.bf := ap.h1
      have hne2 : ¬ L.bf = L.bb := fun h => ap.h1 h.symm
      have hlast : wr.cell? ⟨L.bf, r + i, none⟩ = some (.int .u8 10) := by
        have := HR.out.bufCell (r + i) (by omega) (by omega)
        rw [show p + (r + i - r) = p + i by omega, HNL.out] at this
        exact this
      go_wp2
      go_ret2
      obtain ⟨hR5, hc5, hk5, hs5⟩ := sliced HR.out hfnd rfl
      exact ⟨r, rfl, by omega, ⟨_, _, hR5⟩, hc5, HK.out.1.then hk5, hs5.trans HK.out.2⟩
    · obtain ⟨o, hif, ho⟩ := cut_addr L.bf (r + sn) (wi - (r + sn)) (by omega)
      have hcb : ∀ j, j < wi - (r + sn) → wr.cell? ⟨L.bf, o + j, none⟩ = some (.int .u8 (L.src.getD (p + sn + j) 0)) := fun j hj => by
        rw [ho (by omega), hR.bufCell (r + sn + j) (by omega) (by omega), show p + (r + sn + j - r) = p + sn + j by omega]
      have HCB : Hid (∀ j, j < wi - (r + sn) → wr.cell? ⟨L.bf, o + j, none⟩ = some (.int .u8 (L.src.getD (p + sn + j) 0))) := hcb
      have HCall : Hid (∀ m, Calls Tryd.prog 75 #[.slice (some ⟨L.bf, o, none⟩) (wi - (r + sn)) (4096 - (r + sn)), .int .u8 10] (wr.drewN m) fun e w' => e = .returned (.int .i64 (-1)) ∧ w' = wr.drewN m) :=
        fun m => indexByte_none L.bf o (wi - (r + sn)) _ (fun j => L.src.getD (p + sn + j) 0) 10 (wr.drewN m) HCB.out (fun j => ap.hr _) (by omega) (fun j hj => by have := HN.out (sn + j) (by omega); rwa [← Nat.add_assoc] at this)
      have hA : (r : Int) + (sn : Int) ≤ (wi : Int) := by omega
      have hB : (wi : Int) ≤ 4096 := by omega
      have hW1 : IntKind.i64.wrap ((r : Int) + (sn : Int)) = (r : Int) + (sn : Int) := wrap_ok _ (by omega) (by omega)
      have hN1 : (0 : Int) ≤ (r : Int) + (sn : Int) := by omega
      have hT1 : ((r : Int) + (sn : Int)).toNat = r + sn := by omega
      clear hR hcb ho
      go_wp2_with fail
      go_quiet ((go_at_call 75; exact Calls.quiet_of_same (HCall.out _)))
      obtain ⟨w1, hw1⟩ : ∃ w1, w1 = wr.drewN nq := ⟨_, rfl⟩
      have hR1 : RdAt L w1 p r wi .nilIface := by rw [hw1]; exact HR.out.keep ((Keep.refl [] wr).drewN nq) (by simp)
      have HK1 : Hid (Keep L.own w w1 ∧ w1.heap.size = w.heap.size) := by show _ ∧ _; rw [hw1]; exact ⟨HK.out.1.drewN nq, HK.out.2⟩
      rw [← hw1]
      clear hw1 c0 c2 c3 c4 c5 c6 z2 z5 z6 HCall HCB hif hW1 hT1 hN1
      have HR1 : Hid (RdAt L w1 p r wi .nilIface) := hR1
      obtain ⟨lb1, lr1, blk1⟩ := hR1.blk
      obtain ⟨c0, _, c2, c3, c4, _, _⟩ := cells7 blk1
      clear blk1 hR1
      have HBuf : Hid (∀ m, Calls Tryd.prog 76 #[.pointer (some ⟨L.bb, 0, none⟩)] (w1.drewN m) fun e w' => e = .returned (.int .i64 ((wi - r : Nat) : Int)) ∧ ∃ n, w' = (w1.drewN m).drewN n) :=
        fun m => buffered L (w1.drewN m) p r wi .nilIface (HR1.out.keep ((Keep.refl [] w1).drewN m) (by simp))
      have hnf : ¬ (4096 : Int) ≤ ((wi - r : Nat) : Int) := by omega
      go_wp2_with fail
      go_quiet ((go_at_call 76; exact Calls.quiet_of (HBuf.out _)))
      have hW5 : IntKind.i64.wrap ((wi : Int) - (r : Int)) = (wi : Int) - (r : Int) := wrap_ok _ (by omega) (by omega)
      go_wp2_with fail
      go_quiet (fail)
      go_wp2_with fail
      refine (fill_more L _ p r wi (HR1.out.keep ((Keep.refl [] w1).drewN _) (by simp)) (by omega) (by omega)).mono ?_
      rintro e w2 ⟨rfl, hR2, hk2, hs2⟩
      go_wp2
      go_roundg 1
      case measure => rcases HG.out with h | h <;> omega
      case rel => exact ⟨rfl, 0, min 4096 (L.n - p), wi - r, hR2, by go_num, by omega, by omega, .inr ⟨rfl, by omega⟩, HK1.out.1.then hk2.of_drewN, hs2.trans HK1.out.2⟩
end Go.Proofs.Qxb6616140aDoor
