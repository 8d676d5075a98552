/- readLine at lines shorter than the buffer. -/
import Derived.Test.Qxb6616140aDoorBulk
import Derived.Test.Qxb6616140aDoorNum
namespace Go.Proofs.Qxb6616140aDoor
open Go.RowKit

theorem Rd.ap {L : Lay} {w : World} {p : Nat} (h : Rd L w p) : Apart L := by obtain ⟨_, _, h⟩ := h; exact h.ap

theorem Rd.hp {L : Lay} {w : World} {p : Nat} (h : Rd L w p) : p ≤ L.n := by obtain ⟨_, _, h⟩ := h; have := h.hp; omega

theorem Env.turn {L : Lay} {e0 e1 e3 : Addr} {w w' : World} {p : Nat} (h : Env L.B e0 e1 e3 w) (hr : Rd L w p) (hk : Keep L.own w w') : Env L.B e0 e1 e3 w' := by
  have ap := hr.ap
  have h1 := ap.B1; have h2 := ap.B2; have h3 := ap.B3
  exact h.keep hk (by have := hr.lts.1; omega) (by simp [Lay.own]; omega)

set_option maxRecDepth 100000 in
set_option maxHeartbeats 800000 in
theorem readLine_found (L : Lay) (x : Nat) (w : World) (p i : Nat) (e0 e1 e3 : Addr) (msg : Value) (hE : Env L.B e0 e1 e3 w) (h : Rdr L x w p) (hi : p + i < L.n) (hi4 : i < 4096) (hnl : L.src.getD (p + i) 0 = 10) (hno : ∀ j, j < i → L.src.getD (p + j) 0 ≠ 10) :
    Calls Tryd.prog 48 #[.pointer (some ⟨x, 0, none⟩), msg] w fun e w' => ∃ o, e = .returned (.tuple #[.slice (some ⟨L.bf, o, none⟩) (i + 1) (4096 - o), .nilIface]) ∧
      o + i + 1 ≤ 4096 ∧ Rdr L x w' (p + i + 1) ∧ (∀ j, j ≤ i → w'.cell? ⟨L.bf, o + j, none⟩ = some (L.at (p + j))) ∧ Keep L.own w w' ∧ w'.heap.size = w.heap.size := by
  have cx := h.cell
  have HR : Hid (Rdr L x w p) := h
  have HE : Hid (Env L.B e0 e1 e3 w) := hE
  clear h hE
  go_enter Tryd.func48, Tryd.ntmps48
  go_wp2_with fail
  refine (readSlice_found L w p i HR.out.rd hi hi4 hnl hno).mono ?_
  rintro e w2 ⟨o, rfl, ho, hR2, hc2, hk2, hs2⟩
  have hE2 := HE.out.turn HR.out.rd hk2
  have g3 := hE2.g3
  have HR2 : Hid (Rdr L x w2 (p + i + 1)) := HR.out.turn hR2 hk2 HR.out.own
  have HC2 : Hid (∀ j, j ≤ i → w2.cell? ⟨L.bf, o + j, none⟩ = some (L.at (p + j))) := hc2
  have HK2 : Hid (Keep L.own w w2) := hk2
  clear hR2 hc2 hk2 hE2 hno cx
  go_wp2_with fail
  refine (is_nil e3 w2).mono ?_
  rintro e w2' ⟨rfl, hw⟩
  obtain rfl := hw.symm
  go_wp2_with fail
  go_ret2
  exact ⟨o, rfl, ho, HR2.out, HC2.out, HK2.out, hs2⟩

set_option maxRecDepth 100000 in
set_option maxHeartbeats 800000 in
theorem readLine_eof (L : Lay) (x : Nat) (w : World) (p : Nat) (e0 e1 e3 : Addr) (msg : Value) (hE : Env L.B e0 e1 e3 w) (h : Rdr L x w p) (h4 : L.n - p < 4096) (hno : ∀ j, p + j < L.n → L.src.getD (p + j) 0 ≠ 10) :
    Calls Tryd.prog 48 #[.pointer (some ⟨x, 0, none⟩), msg] w fun e w' => ∃ v, e = .returned (.tuple #[v, .iface 126 (.pointer (some e0))]) ∧ Rdr L x w' L.n ∧ Keep L.own w w' ∧ w'.heap.size = w.heap.size := by
  have cx := h.cell
  have HR : Hid (Rdr L x w p) := h
  have HE : Hid (Env L.B e0 e1 e3 w) := hE
  have hB := hE.hB
  clear h hE
  go_enter Tryd.func48, Tryd.ntmps48
  go_wp2_with fail
  refine (readSlice_eof L w p e0 HR.out.rd h4 hno (by omega) HE.out.g0).mono ?_
  rintro e w2 ⟨v, rfl, hR2, hk2, hs2⟩
  have hE2 := HE.out.turn HR.out.rd hk2
  have g3 := hE2.g3
  have HR2 : Hid (Rdr L x w2 L.n) := HR.out.turn hR2 hk2 HR.out.own
  have HK2 : Hid (Keep L.own w w2) := hk2
  have HN : Hid (e0 ≠ e3 ∧ (∃ c t, w2.heap[e0.block]? = some (.cells c t (0, 0))) ∧ (∃ c t, w2.heap[e3.block]? = some (.cells c t (0, 0)))) := ⟨hE2.n03, hE2.b0, hE2.b3⟩
  clear hR2 hk2 hE2 hno cx
  go_wp2_with fail
  refine (is_other e0 e3 w2 HN.out.1 HN.out.2.1 HN.out.2.2).mono ?_
  rintro e w2' ⟨rfl, hw⟩
  obtain rfl := hw.symm
  go_wp2_with fail
  go_ret2
  exact ⟨v, rfl, HR2.out, HK2.out, hs2⟩
end Go.Proofs.Qxb6616140aDoor
