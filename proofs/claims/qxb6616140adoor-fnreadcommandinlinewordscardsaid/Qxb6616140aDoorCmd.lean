/- (*resp.Reader).ReadCommand: at the end, at a whole array, at an empty array that is the last, at a cut array. -/
import Derived.Test.Qxb6616140aDoorPeekE
import Derived.Test.Qxb6616140aDoorLaw9
namespace Go.Proofs.Qxb6616140aDoor
open Go.RowKit

theorem hide {p : Prop} (h : p) : Hid p := h

theorem Env.eof {B : Nat} {e0 e1 e3 : Addr} {w : World} (h : Env B e0 e1 e3 w) : 0 < B ∧ w.cell? ⟨0, 0, none⟩ = some (.iface 126 (.pointer (some e0))) := ⟨by have := h.hB; omega, h.g0⟩

set_option maxRecDepth 100000 in
set_option maxHeartbeats 1600000 in
theorem cmd_eof_raw (L : Lay) (x : Nat) (w : World) (e0 e1 e3 : Addr) (hE : Env L.B e0 e1 e3 w) (h : Rd L w L.n) (hx : w.cell? ⟨x, 0, none⟩ = some (.pointer (some ⟨L.bb, 0, none⟩))) :
    Calls Tryd.prog 21 #[.pointer (some ⟨x, 0, none⟩)] w fun e w' => e = .returned (.tuple #[.slice none 0 0, .iface 126 (.pointer (some e0))]) ∧ Keep L.own w w' := by
  have HP : Hid (Calls Tryd.prog 38 #[.pointer (some ⟨L.bb, 0, none⟩), .int .i64 1] w fun e w' => ∃ v, e = .returned (.tuple #[v, .iface 126 (.pointer (some e0))]) ∧
      Rd L w' L.n ∧ Keep L.own w w' ∧ w'.heap.size = w.heap.size) := peek_eof L w e0 h hE.eof.1 hE.eof.2
  clear hE h
  go_enter Tryd.func21, Tryd.ntmps21
  go_wp2_with fail
  go_loopg [] 1 (fun gk wr => gk = 1 ∧ wr = w)
  case atStart => exact ⟨rfl, rfl⟩
  case round =>
    obtain ⟨rfl, rfl⟩ := hrel
    go_wp2_with fail
    refine HP.out.mono ?_
    rintro e w2 ⟨v, rfl, _, hk2, _⟩
    clear HP hx
    have HK : Hid (Keep L.own wr w2) := hk2
    clear hk2
    go_wp2_with fail
    go_ret2
    exact ⟨rfl, HK.out⟩

theorem cmd_eof (L : Lay) (x : Nat) (w : World) (e0 e1 e3 : Addr) (hE : Env L.B e0 e1 e3 w) (h : Rdr L x w L.n) :
    Calls Tryd.prog 21 #[.pointer (some ⟨x, 0, none⟩)] w fun e w' => e = .returned (.tuple #[.slice none 0 0, .iface 126 (.pointer (some e0))]) ∧ Keep L.own w w' :=
  cmd_eof_raw L x w e0 e1 e3 hE h.rd h.cell

set_option maxRecDepth 100000 in
set_option maxHeartbeats 1600000 in
theorem cmd_array (L : Lay) (x : Nat) (w : World) (p : Nat) (zss : List (List Int)) (e0 e1 e3 : Addr) (hE : Env L.B e0 e1 e3 w) (h : Rdr L x w p) (hA : At L p (enc zss)) (hne : zss ≠ []) (hn : zss.length ≤ 1048576) (hz : ∀ i, i < zss.length → (zss.getD i []).length ≤ 1048576) :
    Calls Tryd.prog 21 #[.pointer (some ⟨x, 0, none⟩)] w fun e w' => ∃ v, e = .returned (.tuple #[v, .nilIface]) ∧ Got w.heap.size w' v zss ∧ Rdr L x w' (p + (enc zss).length) ∧ Keep L.own w w' := by
  have hfar : p < L.n := by have := hA.1; have := List.length_pos_iff.2 (enc_ne zss); omega
  have hat : L.at p = .int .u8 42 := by show Value.int .u8 (L.src.getD p 0) = _; rw [(At.cons (x := 42) hA).1]
  have HP := hide (peek_some L w p h.rd hfar)
  have HE : Hid (Env L.B e0 e1 e3 w ∧ Rdr L x w p ∧ At L p (enc zss) ∧ zss ≠ [] ∧ zss.length ≤ 1048576 ∧ (∀ i, i < zss.length → (zss.getD i []).length ≤ 1048576)) := ⟨hE, h, hA, hne, hn, hz⟩
  have hx := h.cell
  clear hE h hA hne hn hz
  go_enter Tryd.func21, Tryd.ntmps21
  go_wp2_with fail
  go_loopg [] 1 (fun gk wr => gk = 1 ∧ wr = w)
  case atStart => exact ⟨rfl, rfl⟩
  case round =>
    obtain ⟨rfl, rfl⟩ := hrel
    go_wp2_with fail
    refine HP.out.mono ?_
    rintro e w2 ⟨o, rfl, hR2, hc2, hk2, hs2⟩
    rw [hat] at hc2
    have HR2 : Hid (Rdr L x w2 p) := HE.out.2.1.turn hR2 hk2 HE.out.2.1.own
    have HK2 : Hid (Keep L.own wr w2 ∧ w2.heap.size = wr.heap.size) := ⟨hk2, hs2⟩
    have HE2 : Hid (Env L.B e0 e1 e3 w2) := HE.out.1.turn HE.out.2.1.rd hk2
    clear hR2 hk2 hs2 hx HP
    go_wp2_with fail
    refine (readArray L x w2 p zss e0 e1 e3 HE2.out HR2.out HE.out.2.2.1 HE.out.2.2.2.2.1 HE.out.2.2.2.2.2).mono ?_
    rintro e w3 ⟨v, rfl, hG, hR3, hk3⟩
    obtain ⟨a, k, hv⟩ := hG.form
    have HQ : Hid (Got wr.heap.size w3 v zss ∧ Rdr L x w3 (p + (enc zss).length) ∧ Keep L.own wr w3) := ⟨by rw [← HK2.out.2]; exact hG, hR3, HK2.out.1.then hk3⟩
    have hl0 : 0 < zss.length := List.length_pos_iff.2 HE.out.2.2.2.1
    obtain ⟨l, hl⟩ : ∃ l, l = zss.length := ⟨_, rfl⟩
    rw [← hl] at hv hl0
    clear hG hR3 hk3 hc2 hl
    subst hv
    have hl1 : (0 : Int) < (l : Int) := by omega
    go_wp2_with fail
    go_ret2
    exact ⟨_, rfl, HQ.out⟩

set_option maxRecDepth 100000 in
set_option maxHeartbeats 1600000 in
theorem cmd_cut (L : Lay) (x : Nat) (w : World) (p : Nat) (zss : List (List Int)) (e0 e1 e3 : Addr) (hE : Env L.B e0 e1 e3 w) (h : Rdr L x w p) (hC : Cut L p (enc zss)) (hp : p < L.n) (hn : zss.length ≤ 1048576) (hz : ∀ i, i < zss.length → (zss.getD i []).length ≤ 1048576) :
    Calls Tryd.prog 21 #[.pointer (some ⟨x, 0, none⟩)] w fun e w' => e = .returned (.tuple #[.slice none 0 0, .iface 126 (.pointer (some e1))]) ∧ Keep L.own w w' := by
  have hat : L.at p = .int .u8 42 := by have := hC.hx 0 (by omega); rw [Nat.add_zero] at this; show Value.int .u8 (L.src.getD p 0) = _; rw [this]; rfl
  have HP := hide (peek_some L w p h.rd hp)
  have HE : Hid (Env L.B e0 e1 e3 w ∧ Rdr L x w p ∧ Cut L p (enc zss) ∧ zss.length ≤ 1048576 ∧ (∀ i, i < zss.length → (zss.getD i []).length ≤ 1048576)) := ⟨hE, h, hC, hn, hz⟩
  have hx := h.cell
  clear hE h hC hn hz
  go_enter Tryd.func21, Tryd.ntmps21
  go_wp2_with fail
  go_loopg [] 1 (fun gk wr => gk = 1 ∧ wr = w)
  case atStart => exact ⟨rfl, rfl⟩
  case round =>
    obtain ⟨rfl, rfl⟩ := hrel
    go_wp2_with fail
    refine HP.out.mono ?_
    rintro e w2 ⟨o, rfl, hR2, hc2, hk2, hs2⟩
    rw [hat] at hc2
    have HR2 : Hid (Rdr L x w2 p) := HE.out.2.1.turn hR2 hk2 HE.out.2.1.own
    have HK2 : Hid (Keep L.own wr w2) := hk2
    have HE2 : Hid (Env L.B e0 e1 e3 w2) := HE.out.1.turn HE.out.2.1.rd hk2
    clear hR2 hk2 hs2 hx HP
    go_wp2_with fail
    refine (readArray_short L x w2 p zss e0 e1 e3 HE2.out HR2.out HE.out.2.2.1 HE.out.2.2.2.1 HE.out.2.2.2.2).mono ?_
    rintro e w3 ⟨rfl, hk3⟩
    have HQ : Hid (Keep L.own wr w3) := HK2.out.then hk3
    clear hk3 hc2
    go_wp2_with fail
    go_ret2
    exact ⟨rfl, HQ.out⟩

set_option maxRecDepth 100000 in
set_option maxHeartbeats 1600000 in
theorem cmd_empty (L : Lay) (x : Nat) (w : World) (p : Nat) (e0 e1 e3 : Addr) (hE : Env L.B e0 e1 e3 w) (h : Rdr L x w p) (hA : At L p (enc [])) (hp : p + (enc []).length = L.n) :
    Calls Tryd.prog 21 #[.pointer (some ⟨x, 0, none⟩)] w fun e w' => e = .returned (.tuple #[.slice none 0 0, .iface 126 (.pointer (some e0))]) ∧ Keep L.own w w' := by
  have hfar : p < L.n := by have := List.length_pos_iff.2 (enc_ne []); omega
  have hat : L.at p = .int .u8 42 := by show Value.int .u8 (L.src.getD p 0) = _; rw [(At.cons (x := 42) hA).1]
  have HE : Hid (At L p (enc []) ∧ p + (enc []).length = L.n) := ⟨hA, hp⟩
  clear hA hp
  go_enter Tryd.func21, Tryd.ntmps21
  go_wp2_with fail
  go_loopg [] 2 (fun gk wr => ∃ q, Env L.B e0 e1 e3 wr ∧ Rdr L x wr q ∧ Keep L.own w wr ∧ ((gk = 2 ∧ q = p) ∨ (gk = 1 ∧ q = L.n)))
  case atStart => exact ⟨p, hE, h, Keep.refl _ _, .inl ⟨rfl, rfl⟩⟩
  case round =>
    obtain ⟨q, hEr, hr, hkr, hg⟩ := hrel
    clear hE h
    have HER : Hid (Env L.B e0 e1 e3 wr ∧ Rdr L x wr q ∧ Keep L.own w wr) := ⟨hEr, hr, hkr⟩
    have hx := hr.cell
    clear hEr hr hkr
    rcases hg with ⟨rfl, rfl⟩ | ⟨rfl, rfl⟩
    · have HP := hide (peek_some L wr q HER.out.2.1.rd hfar)
      go_wp2_with fail
      refine HP.out.mono ?_
      rintro e w2 ⟨o, rfl, hR2, hc2, hk2, hs2⟩
      rw [hat] at hc2
      have HR2 : Hid (Rdr L x w2 q) := HER.out.2.1.turn hR2 hk2 HER.out.2.1.own
      have HK2 : Hid (Keep L.own w w2) := HER.out.2.2.then hk2
      have HE2 : Hid (Env L.B e0 e1 e3 w2) := HER.out.1.turn HER.out.2.1.rd hk2
      clear hR2 hk2 hs2 hx HP
      go_wp2_with fail
      refine (readArray L x w2 q [] e0 e1 e3 HE2.out HR2.out HE.out.1 (by simp) (by simp)).mono ?_
      rintro e w3 ⟨v, rfl, hG, hR3, hk3⟩
      obtain ⟨a, k, hv⟩ := hG.form
      rw [HE.out.2] at hR3
      have HQ : Hid (Env L.B e0 e1 e3 w3 ∧ Rdr L x w3 L.n ∧ Keep L.own w w3) := ⟨HE2.out.turn HR2.out.rd hk3, hR3, HK2.out.then hk3⟩
      rw [List.length_nil] at hv
      clear hG hR3 hk3 hc2
      subst hv
      go_wp2_with fail
      go_roundg 1
      case measure => omega
      case rel => exact ⟨L.n, HQ.out.1, HQ.out.2.1, HQ.out.2.2, .inr ⟨rfl, rfl⟩⟩
    · have HP := hide (peek_eof L wr e0 HER.out.2.1.rd HER.out.1.eof.1 HER.out.1.eof.2)
      go_wp2_with fail
      refine HP.out.mono ?_
      rintro e w2 ⟨v, rfl, _, hk2, _⟩
      clear HP hx
      have HK : Hid (Keep L.own w w2) := HER.out.2.2.then hk2
      clear hk2
      go_wp2_with fail
      go_ret2
      exact ⟨rfl, HK.out⟩
end Go.Proofs.Qxb6616140aDoor
