/- io.ReadAtLeast and io.ReadFull over the reader. -/
import Derived.Test.Qxb6616140aDoorReadF
import Derived.Test.Qxb6616140aDoorErr
namespace Go.Proofs.Qxb6616140aDoor
open Go.RowKit

theorem nilAhead_bread (a : Addr) (w : World) : (nilAhead 291 59 (.pointer (some a)) "Read").run Tryd.prog w = .ok (some false) w := by kernel_rfl
theorem method_bread (a : Addr) (w : World) : (Go.method 291 59 (.pointer (some a)) "Read").run Tryd.prog w = .ok (116, .pointer (some a)) w := by kernel_rfl

theorem laid_laid (L : Lay) (p off k c : Nat) (f : Nat → Value) : laid L (p + k) (off + k) c (laid L p off k f) = laid L p off (k + c) f := by
  funext j
  unfold laid
  by_cases h1 : off + k ≤ j ∧ j < off + k + c
  · rw [if_pos h1, if_pos (by omega), show p + k + (j - (off + k)) = p + (j - off) by omega]
  · rw [if_neg h1]
    by_cases h2 : off ≤ j ∧ j < off + k
    · rw [if_pos h2, if_pos (by omega)]
    · rw [if_neg h2, if_neg (by omega)]

theorem laid_zero (L : Lay) (p off : Nat) (f : Nat → Value) : laid L p off 0 f = f := by
  funext j; exact if_neg (by omega)

/-- The destination stands behind a turn of the reader. -/
theorem Dest.turn {L : Lay} {w w' : World} {g off dl N : Nat} {t : TypeId} {f f' : Nat → Value} (h : Dest L w g off dl N t f) (hr : w'.rowIs g t N f') : Dest L w' g off dl N t f' := ⟨hr, h.fit, h.nbb, h.nbf, h.nrb, h.nsb⟩

theorem Dest.from' {L : Lay} {w : World} {g off dl N k : Nat} {t : TypeId} {f : Nat → Value} (h : Dest L w g off dl N t f) (hk : k ≤ dl) : Dest L w g (off + k) (dl - k) N t f := ⟨h.row, by have := h.fit; omega, h.nbb, h.nbf, h.nrb, h.nsb⟩

theorem Rd.keep {L : Lay} {w w' : World} {p : Nat} {O : List Nat} (h : Rd L w p) (hk : Keep O w w') (hO : ∀ x ∈ O, x ≠ L.bb ∧ x ≠ L.bf ∧ x ≠ L.rb ∧ x ≠ L.sb) : Rd L w' p := by
  obtain ⟨r, wi, h⟩ := h
  exact ⟨r, wi, h.keep hk hO⟩

theorem Rd.drew {L : Lay} {w : World} {p : Nat} (h : Rd L w p) : Rd L w.drew p := h.keep ((Keep.refl [] w).drew) (by simp)
theorem Rd.drewN {L : Lay} {w : World} {p : Nat} (h : Rd L w p) (n : Nat) : Rd L (w.drewN n) p := h.keep ((Keep.refl [] w).drewN n) (by simp)
theorem Dest.drew {L : Lay} {w : World} {g off dl N : Nat} {t : TypeId} {f : Nat → Value} (h : Dest L w g off dl N t f) : Dest L w.drew g off dl N t f := h.turn ((Keep.refl [] w).drew.rowIs h.row (by simp))
theorem Dest.drewN {L : Lay} {w : World} {g off dl N : Nat} {t : TypeId} {f : Nat → Value} (h : Dest L w g off dl N t f) (n : Nat) : Dest L (w.drewN n) g off dl N t f := h.turn (((Keep.refl [] w).drewN n).rowIs h.row (by simp))

set_option maxRecDepth 100000 in
set_option maxHeartbeats 800000 in
theorem readAtLeast_full (L : Lay) (w : World) (p g off dl dc N : Nat) (t : TypeId) (f : Nat → Value) (h : Rd L w p) (hd : Dest L w g off dl N t f) (hdc : dl ≤ dc) (hp : p + dl ≤ L.n) (hNb : dl ≤ 1152921504606846976) :
    Calls Tryd.prog 80 #[.iface 59 (.pointer (some ⟨L.bb, 0, none⟩)), .slice (some ⟨g, off, none⟩) dl dc, .int .i64 dl] w fun e w' => e = .returned (.tuple #[.int .i64 dl, .nilIface]) ∧
      Rd L w' (p + dl) ∧ w'.rowIs g t N (laid L p off dl f) ∧ Keep (g :: L.own) w w' ∧ w'.heap.size = w.heap.size := by
  have hfit := hd.fit
  go_enter Tryd.func80, Tryd.ntmps80
  go_wp2_with fail
  go_loopg [6, 7, 8] dl (fun gk s6 s7 _ wr => ∃ k : Nat, s6 = .int .i64 k ∧ s7 = .nilIface ∧ k ≤ dl ∧ gk = dl - k ∧ Rd L wr (p + k) ∧ wr.rowIs g t N (laid L p off k f) ∧ Keep (g :: L.own) w wr ∧ wr.heap.size = w.heap.size)
  case atStart => exact ⟨0, rfl, rfl, by omega, by omega, h, by rw [laid_zero]; exact hd.row, Keep.refl _ _, rfl⟩
  case round =>
    obtain ⟨k, rfl, rfl, hk, hgk, hR, hrow, hkeep, hsz⟩ := hrel
    have HRow : Hid (wr.rowIs g t N (laid L p off k f)) := hrow
    clear hrow
    by_cases hlt : k < dl
    · have hlt' : (k : Int) < (dl : Int) := by omega
      have hne : ¬ dc = k := by omega
      have nA := nilAhead_bread
      have mR := method_bread
      have hmf : ∀ (fn : Fn) (first cap : Array Value) (w : World), (Instr.makeFunc fn first cap).run Tryd.prog w = .ok (.func fn first cap) w := fun _ _ _ _ => rfl
      go_wp2_with fail
      have hk0 : (0 : Int) ≤ (k : Int) := by omega
      have hkl : (k : Int) ≤ (dl : Int) := by omega
      have HD : Hid (Dest L wr g (off + k) (dl - k) N t (laid L p off k f)) := (hd.turn HRow.out).from' hk
      go_region_held3 (fun _ => True) (trivial)
        (first | (go_at_call 116; refine (read_more L _ (p + k) g (off + k) (dl - k) (dc - k) N t _ (by first | exact hR.drew | exact hR.drewN _ | exact hR) (by first | exact HD.out.drew | exact HD.out.drewN _ | exact HD.out) (by omega) (by omega) (by omega)).mono ?_; rintro e w2 ⟨c, hc0, hc1, hc2, rfl, hR2, hrow2, hk2, hs2⟩))
      have HRow2 : Hid (w2.rowIs g t N (laid L p off (k + c) f)) := by rw [laid_laid] at hrow2; exact hrow2
      have HK2 : Hid (Keep (g :: L.own) w w2 ∧ w2.heap.size = w.heap.size) := ⟨hkeep.then hk2.of_drew, hs2.trans hsz⟩
      clear hrow2 hk2 hs2 nA mR hmf
      have hW : IntKind.i64.wrap ((k : Int) + (c : Int)) = (k : Int) + (c : Int) := wrap_ok _ (by omega) (by omega)
      go_wp2_with fail
      go_roundg (dl - (k + c))
      case measure => omega
      case rel => exact ⟨k + c, by go_num, rfl, by omega, rfl, by rw [← Nat.add_assoc]; exact hR2, HRow2.out, HK2.out.1, HK2.out.2⟩
    · obtain rfl : k = dl := by omega
      go_wp2_with fail
      go_ret2
      exact ⟨rfl, hR, HRow.out, hkeep, hsz⟩

set_option maxRecDepth 100000 in
set_option maxHeartbeats 800000 in
theorem readAtLeast_short (L : Lay) (w : World) (p g off dl dc N : Nat) (t : TypeId) (f : Nat → Value) (e0 e1 ee : Addr) (m : Nat) (hm : m = L.n - p) (hee : ee = if p = L.n then e0 else e1) (h : Rd L w p) (hd : Dest L w g off dl N t f) (hdc : dl ≤ dc) (hp : p ≤ L.n) (hp2 : L.n < p + dl) (hNb : dl ≤ 1152921504606846976)
    (g0 : w.cell? ⟨0, 0, none⟩ = some (.iface 126 (.pointer (some e0)))) (g1 : w.cell? ⟨1, 0, none⟩ = some (.iface 126 (.pointer (some e1)))) (hb : ∀ x ∈ g :: L.own, x ≠ 0 ∧ x ≠ 1) :
    Calls Tryd.prog 80 #[.iface 59 (.pointer (some ⟨L.bb, 0, none⟩)), .slice (some ⟨g, off, none⟩) dl dc, .int .i64 dl] w fun e w' => e = .returned (.tuple #[.int .i64 (m : Int), .iface 126 (.pointer (some ee))]) ∧
      Rd L w' L.n ∧ Keep (g :: L.own) w w' ∧ w'.heap.size = w.heap.size := by
  have hfit := hd.fit
  have HB : Hid (∀ x ∈ g :: L.own, x ≠ 0 ∧ x ≠ 1) := hb
  have HE : Hid (ee = if p = L.n then e0 else e1) := hee
  clear hee
  have hbb : L.bb ≠ 0 := (hb L.bb (by simp [Lay.own])).1
  clear hb
  go_enter Tryd.func80, Tryd.ntmps80
  go_wp2_with fail
  go_loopg [6, 7, 8] (2 * dl + 1) (fun gk s6 s7 _ wr => ∃ k : Nat, s6 = .int .i64 k ∧ k ≤ dl ∧ Keep (g :: L.own) w wr ∧ wr.heap.size = w.heap.size ∧ ((s7 = .nilIface ∧ gk = 2 * (dl - k) + 1 ∧ p + k ≤ L.n ∧ Rd L wr (p + k) ∧ wr.rowIs g t N (laid L p off k f)) ∨ (s7 = .iface 126 (.pointer (some e0)) ∧ gk = 0 ∧ k = L.n - p ∧ Rd L wr L.n)))
  case atStart => exact ⟨0, rfl, by omega, Keep.refl _ _, rfl, .inl ⟨rfl, by omega, by omega, h, by rw [laid_zero]; exact hd.row⟩⟩
  case round =>
    obtain ⟨k, rfl, hk, hkeep, hsz, hrel⟩ := hrel
    have HK : Hid (Keep (g :: L.own) w wr ∧ wr.heap.size = w.heap.size) := ⟨hkeep, hsz⟩
    have q0 : wr.cell? ⟨0, 0, none⟩ = some (.iface 126 (.pointer (some e0))) := (hkeep.cell (p := ⟨0, 0, none⟩) (lt_of_cell g0) (fun hm => (HB.out 0 hm).1 rfl)).trans g0
    have q1 : wr.cell? ⟨1, 0, none⟩ = some (.iface 126 (.pointer (some e1))) := (hkeep.cell (p := ⟨1, 0, none⟩) (lt_of_cell g1) (fun hm => (HB.out 1 hm).2 rfl)).trans g1
    clear hkeep hsz
    rcases hrel with ⟨rfl, hgk, hpk, hR, hrow⟩ | ⟨rfl, hgk, hkn, hR⟩
    · have HRow : Hid (wr.rowIs g t N (laid L p off k f)) := hrow
      clear hrow
      have hlt : k < dl := by omega
      have hlt' : (k : Int) < (dl : Int) := by omega
      have hne : ¬ dc = k := by omega
      have nA := nilAhead_bread
      have mR := method_bread
      have hmf : ∀ (fn : Fn) (first cap : Array Value) (w : World), (Instr.makeFunc fn first cap).run Tryd.prog w = .ok (.func fn first cap) w := fun _ _ _ _ => rfl
      have hk0 : (0 : Int) ≤ (k : Int) := by omega
      have hkl : (k : Int) ≤ (dl : Int) := by omega
      by_cases hend : p + k = L.n
      · have hR' : Rd L wr L.n := by rw [← hend]; exact hR
        go_wp2_with fail
        go_region_held3 (fun _ => True) (trivial)
          (first | (go_at_call 116; refine (read_eof L _ (dl - k) (dc - k) _ e0 (by first | exact hR'.drew | exact hR'.drewN _ | exact hR') (by omega) (by omega) (by exact q0) hbb).mono ?_; rintro e w2 ⟨rfl, hR2, hk2, hs2⟩))
        have HK2 : Hid (Keep (g :: L.own) w w2 ∧ w2.heap.size = w.heap.size) := ⟨HK.out.1.then (hk2.of_drew.mono fun _ hm => List.mem_cons_of_mem _ hm), hs2.trans HK.out.2⟩
        clear hk2 hs2 nA mR hmf q0 q1
        have hW : IntKind.i64.wrap (k : Int) = (k : Int) := wrap_ok _ (by omega) (by omega)
        go_wp2_with fail
        go_roundg 0
        case measure => omega
        case rel => exact ⟨k, by go_num, by omega, HK2.out.1, HK2.out.2, .inr ⟨rfl, rfl, by omega, hR2⟩⟩
      · have HD : Hid (Dest L wr g (off + k) (dl - k) N t (laid L p off k f)) := (hd.turn HRow.out).from' hk
        go_wp2_with fail
        go_region_held3 (fun _ => True) (trivial)
          (first | (go_at_call 116; refine (read_more L _ (p + k) g (off + k) (dl - k) (dc - k) N t _ (by first | exact hR.drew | exact hR.drewN _ | exact hR) (by first | exact HD.out.drew | exact HD.out.drewN _ | exact HD.out) (by omega) (by omega) (by omega)).mono ?_; rintro e w2 ⟨c, hc0, hc1, hc2, rfl, hR2, hrow2, hk2, hs2⟩))
        have HRow2 : Hid (w2.rowIs g t N (laid L p off (k + c) f)) := by rw [laid_laid] at hrow2; exact hrow2
        have HK2 : Hid (Keep (g :: L.own) w w2 ∧ w2.heap.size = w.heap.size) := ⟨HK.out.1.then hk2.of_drew, hs2.trans HK.out.2⟩
        clear hrow2 hk2 hs2 nA mR hmf q0 q1
        have hW : IntKind.i64.wrap ((k : Int) + (c : Int)) = (k : Int) + (c : Int) := wrap_ok _ (by omega) (by omega)
        go_wp2_with fail
        go_roundg (2 * (dl - (k + c)) + 1)
        case measure => omega
        case rel => exact ⟨k + c, by go_num, by omega, HK2.out.1, HK2.out.2, .inl ⟨rfl, rfl, by omega, by rw [← Nat.add_assoc]; exact hR2, HRow2.out⟩⟩
    · have hlt' : (k : Int) < (dl : Int) := by omega
      have hge : ¬ (dl : Int) ≤ (k : Int) := by omega
      have hEq := eq_same e0
      by_cases hpn : p = L.n
      · have hk0 : k = 0 := by omega
        go_wp2_with fail
        go_ret2
        have h1 := HE.out
        rw [if_pos hpn] at h1
        exact ⟨by rw [h1]; rfl, hR, HK.out.1, HK.out.2⟩
      · have hk0 : (0 : Int) < (k : Int) := by omega
        go_wp2_with fail
        go_ret2
        have h1 := HE.out
        rw [if_neg hpn] at h1
        exact ⟨by first | (rw [h1]; rfl) | (rw [h1, hm, hkn]; rfl), hR, HK.out.1, HK.out.2⟩

set_option maxRecDepth 100000 in
/-- io.ReadFull, where the bytes are there. -/
theorem readFull (L : Lay) (w : World) (p g off dl dc N : Nat) (t : TypeId) (f : Nat → Value) (h : Rd L w p) (hd : Dest L w g off dl N t f) (hdc : dl ≤ dc) (hp : p + dl ≤ L.n) (hNb : dl ≤ 1152921504606846976) :
    Calls Tryd.prog 65 #[.iface 59 (.pointer (some ⟨L.bb, 0, none⟩)), .slice (some ⟨g, off, none⟩) dl dc] w fun e w' => e = .returned (.tuple #[.int .i64 dl, .nilIface]) ∧
      Rd L w' (p + dl) ∧ w'.rowIs g t N (laid L p off dl f) ∧ Keep (g :: L.own) w w' ∧ w'.heap.size = w.heap.size := by
  go_enter Tryd.func65, Tryd.ntmps65
  go_wp2_with fail
  refine (readAtLeast_full L w p g off dl dc N t f h hd hdc hp hNb).mono ?_
  rintro e w2 ⟨rfl, hh⟩
  clear h hd
  go_wp2_with fail
  go_ret2
  exact ⟨rfl, hh⟩

set_option maxRecDepth 100000 in
/-- io.ReadFull, where the stream ends first. -/
theorem readFull_short (L : Lay) (w : World) (p g off dl dc N : Nat) (t : TypeId) (f : Nat → Value) (e0 e1 ee : Addr) (m : Nat) (hm : m = L.n - p) (hee : ee = if p = L.n then e0 else e1) (h : Rd L w p) (hd : Dest L w g off dl N t f) (hdc : dl ≤ dc) (hp : p ≤ L.n) (hp2 : L.n < p + dl) (hNb : dl ≤ 1152921504606846976)
    (g0 : w.cell? ⟨0, 0, none⟩ = some (.iface 126 (.pointer (some e0)))) (g1 : w.cell? ⟨1, 0, none⟩ = some (.iface 126 (.pointer (some e1)))) (hb : ∀ x ∈ g :: L.own, x ≠ 0 ∧ x ≠ 1) :
    Calls Tryd.prog 65 #[.iface 59 (.pointer (some ⟨L.bb, 0, none⟩)), .slice (some ⟨g, off, none⟩) dl dc] w fun e w' => e = .returned (.tuple #[.int .i64 (m : Int), .iface 126 (.pointer (some ee))]) ∧
      Rd L w' L.n ∧ Keep (g :: L.own) w w' ∧ w'.heap.size = w.heap.size := by
  go_enter Tryd.func65, Tryd.ntmps65
  go_wp2_with fail
  refine (readAtLeast_short L w p g off dl dc N t f e0 e1 ee m hm hee h hd hdc hp hp2 hNb g0 g1 hb).mono ?_
  rintro e w2 ⟨rfl, hh⟩
  clear h hd g0 g1 hee hm
  go_wp2_with fail
  go_ret2
  exact ⟨rfl, hh⟩

set_option maxRecDepth 100000 in
/-- io.ReadFull of nothing. -/
theorem readFull_none (rv : Value) (d : Option Addr) (dc : Nat) (w : World) :
    Calls Tryd.prog 65 #[rv, .slice d 0 dc] w fun e w' => e = .returned (.tuple #[.int .i64 0, .nilIface]) ∧ w' = w := by
  have h80 : Calls Tryd.prog 80 #[rv, .slice d 0 dc, .int .i64 0] w fun e w' => e = .returned (.tuple #[.int .i64 0, .nilIface]) ∧ w' = w := by
    go_enter Tryd.func80, Tryd.ntmps80
    go_wp2_with fail
    refine wp_loop_rounds 1 ?_
    rw [rounds_succ]
    go_wp2_with fail
    go_ret2
    exact ⟨rfl, rfl⟩
  go_enter Tryd.func65, Tryd.ntmps65
  go_wp2_with fail
  refine h80.mono ?_
  rintro e w2 ⟨rfl, rfl⟩
  go_wp2_with fail
  go_ret2
  exact ⟨rfl, rfl⟩
end Go.Proofs.Qxb6616140aDoor
