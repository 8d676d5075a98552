/- readInline; ReadCommand at an inline request that is the whole stream. -/
import Derived.Test.Qxb6616140aDoorCmd
import Derived.Test.Qxb6616140aDoorSplit
import Derived.Test.Qxb6616140aDoorLong
namespace Go.Proofs.Qxb6616140aDoor
open Go.RowKit

theorem Plain.mem {zs : List Int} (h : Plain zs) {z : Int} (hz : z ∈ zs) : Good z := by
  obtain ⟨j, hj, rfl⟩ := List.getElem_of_mem hz
  have := h.2 j hj
  rwa [List.getD, List.getElem?_eq_getElem hj] at this

theorem joined_mem {zss : List (List Int)} {z : Int} (h : z ∈ joined zss) : z = 32 ∨ ∃ zs ∈ zss, z ∈ zs := by
  cases zss with
  | nil => simp [joined] at h
  | cons u us =>
    rcases List.mem_append.1 h with h | h
    · exact .inr ⟨u, by simp, h⟩
    · obtain ⟨v, hv, h⟩ := List.mem_flatMap.1 h
      rcases List.mem_cons.1 h with h | h
      · exact .inl h
      · exact .inr ⟨v, by simp [hv], h⟩

theorem joined_ne10 {zss : List (List Int)} (hpl : ∀ i, i < zss.length → Plain (zss.getD i [])) (j : Nat) (hj : j < (joined zss).length) : (joined zss).getD j 0 ≠ 10 := by
  rw [List.getD, List.getElem?_eq_getElem hj]
  show (joined zss)[j] ≠ 10
  rcases joined_mem (List.getElem_mem hj) with h | ⟨zs, hzs, h⟩
  · rw [h]; decide
  · obtain ⟨i, hi, rfl⟩ := List.getElem_of_mem hzs
    have hp := hpl i hi
    rw [List.getD, List.getElem?_eq_getElem hi] at hp
    exact beq_eq_false_iff_ne.1 (hp.mem h).n10

theorem Env.turnX {L : Lay} {x : Nat} {e0 e1 e3 : Addr} {w w' : World} {p : Nat} (h : Env L.B e0 e1 e3 w) (hr : Rdr L x w p) (hk : Keep (x :: L.own) w w') : Env L.B e0 e1 e3 w' := by
  have ap := hr.rd.ap
  have h1 := ap.B1; have h2 := ap.B2; have h3 := ap.B3; have h4 := hr.hx
  exact h.keep hk (by have := hr.rd.lts.1; omega) (by simp [Lay.own]; omega)

/-- The stream from p on is the words' line and nothing else. -/
structure Inl (L : Lay) (p : Nat) (zss : List (List Int)) : Prop where
  at_ : At L p (joined zss ++ [13, 10])
  fit : p + (joined zss).length + 2 = L.n
  max : (joined zss).length + 2 ≤ 65536
  num : zss.length ≤ 65536
  plain : ∀ i, i < zss.length → Plain (zss.getD i [])

def InlAns (L : Lay) (x : Nat) (w : World) (zss : List (List Int)) (v : Value) (w' : World) : Prop :=
  ∃ B, Got B w' v zss ∧ Rd L w' L.n ∧ w'.cell? ⟨x, 0, none⟩ = some (.pointer (some ⟨L.bb, 0, none⟩)) ∧ Keep (x :: L.own) w w'

theorem Inl.line {L : Lay} {p : Nat} {zss : List (List Int)} (h : Inl L p zss) : L.src.getD (L.n - 1) 0 = 10 ∧ (∀ j, p ≤ j → j < L.n - 1 → L.src.getD j 0 ≠ 10) ∧ L.src.getD (p + (joined zss).length) 0 = 13 := by
  have hr := h.at_.right
  have h13 : L.src.getD (p + (joined zss).length) 0 = 13 := hr.2 0 (by simp)
  have h10 : L.src.getD (p + (joined zss).length + 1) 0 = 10 := hr.2 1 (by simp)
  have hf := h.fit
  refine ⟨by rw [show L.n - 1 = p + (joined zss).length + 1 by omega]; exact h10, fun j h1 h2 => ?_, h13⟩
  by_cases hj : j = p + (joined zss).length
  · rw [hj, h13]; decide
  · have := h.at_.left.2 (j - p) (by omega)
    rw [show p + (j - p) = j by omega] at this
    rw [this]
    exact joined_ne10 h.plain _ (by omega)

set_option maxRecDepth 100000 in
set_option maxHeartbeats 1600000 in
theorem readInline (L : Lay) (x : Nat) (w : World) (p : Nat) (zss : List (List Int)) (e0 e1 e3 : Addr) (hE : Env L.B e0 e1 e3 w) (h : Rdr L x w p) (hI : Inl L p zss) :
    Calls Tryd.prog 40 #[.pointer (some ⟨x, 0, none⟩)] w fun e w' => ∃ v, e = .returned (.tuple #[v, .nilIface]) ∧ InlAns L x w zss v w' := by
  obtain ⟨l1, l2, l3⟩ := hI.line
  have HI : Hid (Inl L p zss) := hI
  have hf := hI.fit
  have hm := hI.max
  obtain ⟨N, hN⟩ : ∃ N, N = (joined zss).length := ⟨_, rfl⟩
  rw [← hN] at hf hm l3
  have HN : Hid (N = (joined zss).length) := hN
  have hNp : L.n - p = N + 2 := by omega
  have HL := hide (readLine_all L x w p e0 e1 e3 (.string { data := #[116, 111, 111, 32, 98, 105, 103, 32, 105, 110, 108, 105, 110, 101, 32, 114, 101, 113, 117, 101, 115, 116] }) hE h (by omega) (by omega) l1 l2)
  have HL3 : Hid (L.src.getD (L.n - 1) 0 = 10 ∧ L.src.getD (p + N) 0 = 13) := ⟨l1, l3⟩
  clear hI hN hE h l1 l2 l3
  go_enter Tryd.func40, Tryd.ntmps40
  go_wp2_with fail
  refine HL.out.mono ?_
  rintro e w2 ⟨b, o, cap, he, hcap, hc, hR, hx, hk⟩
  rw [hNp] at he hcap hc
  subst he
  have HC : Hid (∀ j, j < N + 2 → w2.cell? ⟨b, o + j, none⟩ = some (.int .u8 (L.src.getD (p + j) 0))) := hc
  have HQ : Hid (Rd L w2 L.n ∧ w2.cell? ⟨x, 0, none⟩ = some (.pointer (some ⟨L.bb, 0, none⟩)) ∧ Keep (x :: L.own) w w2) := ⟨hR, hx, hk⟩
  clear hc hR hx hk HL
  go_wp2_with fail
  refine (trimLine b o (N + 2) cap w2 (by omega) hcap (by omega) (by rw [show N + 2 - 2 = N by omega, HC.out N (by omega), HL3.out.2]) (by rw [show N + 2 - 1 = N + 1 by omega, HC.out (N + 1) (by omega), show p + (N + 1) = L.n - 1 by omega, HL3.out.1])).mono ?_
  rintro e w3 ⟨rfl, hk3⟩
  have HK3 : Hid (Keep [] w2 w3) := hk3
  clear hk3
  have a1 : N + 2 - 2 = N := by omega
  have hcj : ∀ j, j < N → w3.cell? ⟨b, o + j, none⟩ = some (.int .u8 ((joined zss).getD j 0)) := fun j hj => by
    have h1 := HC.out j (by omega)
    rw [HI.out.at_.left.2 j (by rw [← HN.out]; exact hj)] at h1
    exact (HK3.out.cell (p := ⟨b, o + j, none⟩) (lt_of_cell h1) (by simp)).trans h1
  have HS := hide (splitInline b o N cap zss.length zss w3 rfl HN.out (by omega) HI.out.num HI.out.plain hcj)
  clear hcj
  go_wp2_with fail
  refine HS.out.mono ?_
  rintro e w4 ⟨v, rfl, hG, hk4⟩
  have HA : Hid (InlAns L x w zss v w4) := ⟨_, hG, HQ.out.1.keep (HK3.out.then hk4) (by simp), ((HK3.out.then hk4).cell (p := ⟨x, 0, none⟩) (lt_of_cell HQ.out.2.1) (by simp)).trans HQ.out.2.1, HQ.out.2.2.then ((HK3.out.then hk4).mono (by simp))⟩
  clear hG hk4 HS
  go_wp2_with fail
  go_ret2
  exact ⟨v, rfl, HA.out⟩

set_option maxRecDepth 100000 in
set_option maxHeartbeats 1600000 in
theorem cmd_inline (L : Lay) (x : Nat) (w : World) (p : Nat) (zss : List (List Int)) (e0 e1 e3 : Addr) (hE : Env L.B e0 e1 e3 w) (h : Rdr L x w p) (hI : Inl L p zss) (hne : zss ≠ []) (c : Int) (hc : L.src.getD p 0 = c) (h42 : ¬ c = 42) :
    Calls Tryd.prog 21 #[.pointer (some ⟨x, 0, none⟩)] w fun e w' => ∃ v, e = .returned (.tuple #[v, .nilIface]) ∧ InlAns L x w zss v w' := by
  have hfar : p < L.n := by have := hI.fit; omega
  have hat : L.at p = .int .u8 c := by show Value.int .u8 (L.src.getD p 0) = _; rw [hc]
  have HP := hide (peek_some L w p h.rd hfar)
  have HE : Hid (Env L.B e0 e1 e3 w ∧ Rdr L x w p ∧ Inl L p zss ∧ zss ≠ []) := ⟨hE, h, hI, hne⟩
  have hx := h.cell
  clear hE h hI hne hc
  go_enter Tryd.func21, Tryd.ntmps21
  go_wp2_with fail
  go_loopg [] 1 (fun gk wr => gk = 1 ∧ wr = w)
  case atStart => exact ⟨rfl, rfl⟩
  case round =>
    obtain ⟨rfl, rfl⟩ := hrel
    go_wp2_with fail
    refine HP.out.mono ?_
    rintro e w2 ⟨o, rfl, hR2, hc2, hk2, hs2⟩
    rw [hat] at hc2
    have HR2 : Hid (Rdr L x w2 p) := HE.out.2.1.turn hR2 hk2 HE.out.2.1.own
    have HK2 : Hid (Keep L.own wr w2) := hk2
    have HE2 : Hid (Env L.B e0 e1 e3 w2) := HE.out.1.turn HE.out.2.1.rd hk2
    clear hR2 hk2 hs2 hx HP hat
    go_wp2_with fail
    refine (readInline L x w2 p zss e0 e1 e3 HE2.out HR2.out HE.out.2.2.1).mono ?_
    rintro e w3 ⟨v, rfl, B, hG, hR3, hx3, hk3⟩
    obtain ⟨a, k, hv⟩ := hG.form
    have HQ : Hid (InlAns L x wr zss v w3) := ⟨B, hG, hR3, hx3, (HK2.out.mono fun _ hy => List.mem_cons_of_mem _ hy).then hk3⟩
    have hl0 : 0 < zss.length := List.length_pos_iff.2 HE.out.2.2.2
    obtain ⟨l, hl⟩ : ∃ l, l = zss.length := ⟨_, rfl⟩
    rw [← hl] at hv hl0
    clear hG hR3 hk3 hx3 hc2 hl
    subst hv
    have hl1 : (0 : Int) < (l : Int) := by omega
    go_wp2_with fail
    go_ret2
    exact ⟨_, rfl, HQ.out⟩

set_option maxRecDepth 100000 in
set_option maxHeartbeats 1600000 in
theorem cmd_blank (L : Lay) (x : Nat) (w : World) (p : Nat) (e0 e1 e3 : Addr) (hE : Env L.B e0 e1 e3 w) (h : Rdr L x w p) (hI : Inl L p []) :
    Calls Tryd.prog 21 #[.pointer (some ⟨x, 0, none⟩)] w fun e w' => e = .returned (.tuple #[.slice none 0 0, .iface 126 (.pointer (some e0))]) ∧ Keep (x :: L.own) w w' := by
  have hfar : p < L.n := by have := hI.fit; omega
  have hat : L.at p = .int .u8 13 := by show Value.int .u8 (L.src.getD p 0) = _; rw [show L.src.getD p 0 = 13 from hI.line.2.2]
  have HE : Hid (Env L.B e0 e1 e3 w ∧ Rdr L x w p ∧ Inl L p []) := ⟨hE, h, hI⟩
  clear hE h hI
  go_enter Tryd.func21, Tryd.ntmps21
  go_wp2_with fail
  go_loopg [] 2 (fun gk wr => (gk = 2 ∧ wr = w) ∨ (gk = 1 ∧ Env L.B e0 e1 e3 wr ∧ Rd L wr L.n ∧ wr.cell? ⟨x, 0, none⟩ = some (.pointer (some ⟨L.bb, 0, none⟩)) ∧ Keep (x :: L.own) w wr))
  case atStart => exact .inl ⟨rfl, rfl⟩
  case round =>
    rcases hrel with ⟨rfl, rfl⟩ | ⟨rfl, hEr, hRr, hx, hkr⟩
    · have HP := hide (peek_some L wr p HE.out.2.1.rd hfar)
      have hx := HE.out.2.1.cell
      go_wp2_with fail
      refine HP.out.mono ?_
      rintro e w2 ⟨o, rfl, hR2, hc2, hk2, hs2⟩
      rw [hat] at hc2
      have HR2 : Hid (Rdr L x w2 p) := HE.out.2.1.turn hR2 hk2 HE.out.2.1.own
      have HK2 : Hid (Keep L.own wr w2) := hk2
      have HE2 : Hid (Env L.B e0 e1 e3 w2) := HE.out.1.turn HE.out.2.1.rd hk2
      clear hR2 hk2 hs2 hx HP hat
      go_wp2_with fail
      refine (readInline L x w2 p [] e0 e1 e3 HE2.out HR2.out HE.out.2.2).mono ?_
      rintro e w3 ⟨v, rfl, B, hG, hR3, hx3, hk3⟩
      obtain ⟨a, k, hv⟩ := hG.form
      have HQ : Hid (Env L.B e0 e1 e3 w3 ∧ Rd L w3 L.n ∧ w3.cell? ⟨x, 0, none⟩ = some (.pointer (some ⟨L.bb, 0, none⟩)) ∧ Keep (x :: L.own) wr w3) := ⟨HE2.out.turnX HR2.out hk3, hR3, hx3, (HK2.out.mono fun _ hy => List.mem_cons_of_mem _ hy).then hk3⟩
      rw [List.length_nil] at hv
      clear hG hR3 hk3 hx3 hc2
      subst hv
      go_wp2_with fail
      go_roundg 1
      case measure => omega
      case rel => exact .inr ⟨rfl, HQ.out⟩
    · have HP := hide (peek_eof L wr e0 hRr hEr.eof.1 hEr.eof.2)
      have HKr : Hid (Keep (x :: L.own) w wr) := hkr
      clear hEr hRr hkr
      go_wp2_with fail
      refine HP.out.mono ?_
      rintro e w2 ⟨v, rfl, _, hk2, _⟩
      clear HP hx
      have HK : Hid (Keep (x :: L.own) w w2) := HKr.out.then (hk2.mono fun _ hy => List.mem_cons_of_mem _ hy)
      clear hk2
      go_wp2_with fail
      go_ret2
      exact ⟨rfl, HK.out⟩
end Go.Proofs.Qxb6616140aDoor
