/- readBulk, where the stream ends too early. -/
import Derived.Test.Qxb6616140aDoorCut
import Derived.Deep.DeepCutAuto
namespace Go.Proofs.Qxb6616140aDoor
open Go.RowKit

/-- nil and an error that is one of the two ends. -/
def ShortAns (e : Ending) (e0 e1 : Addr) : Prop := ∃ ee, (ee = e0 ∨ ee = e1) ∧ e = .returned (.tuple #[.slice none 0 0, .iface 126 (.pointer (some ee))])

set_option maxRecDepth 100000 in
set_option maxHeartbeats 800000 in
theorem readBulk_short (L : Lay) (x : Nat) (w : World) (p n : Nat) (e0 e1 e3 : Addr) (hE : Env L.B e0 e1 e3 w) (h : Rdr L x w p) (hn : n ≤ 1048576) (hn0 : 0 < n) (hp : L.n < p + n + 2) :
    Calls Tryd.prog 52 #[.pointer (some ⟨x, 0, none⟩), .int .i64 n] w fun e w' => ShortAns e e0 e1 ∧ Rdr L x w' L.n ∧ Keep L.own w w' := by
  have HE : Hid (Env L.B e0 e1 e3 w) := hE
  have hB3 := hE.hB
  have hBs : L.B ≤ w.heap.size := by have := h.rd.ap.B1; have := h.rd.lts.1; omega
  have hOW : ∀ y ∈ L.own, y ≠ 0 ∧ y ≠ 1 := by have h1 := h.rd.ap.B1; have h2 := h.rd.ap.B2; have h3 := h.rd.ap.B3; simp [Lay.own]; omega
  clear hE
  have hmk : ∀ (m : Nat) (w : World), m ≤ 1048576 → (Instr.makeSlice 24 (.int .i64 m) (.int .i64 m)).run Tryd.prog w = .ok (.slice (some ⟨w.heap.size, 0, none⟩) m m) (w.alloc (.cells (madeCells #[.int .u8 0] m) 5)) := fun m w hm => run_make_row' (P := Tryd.prog) 24 5 (.int .u8 0) 1 Tryd.underlying24 info5 rfl .i64 .i64 m (by omega) (by omega) w
  go_enter Tryd.func52, Tryd.ntmps52
  go_upto_region 1 with fail
  go_cut [6] (fun s6 wc => ∃ m : Nat, s6 = .slice (some ⟨w.heap.size, 0, none⟩) m m ∧ 0 < m ∧ m ≤ n ∧ wc.rowIs w.heap.size 5 m (fun _ => .int .u8 0) ∧ Keep [] w wc)
  case first =>
    by_cases hle : n ≤ 65536
    · have h1 := fun w => hmk n w hn
      go_wp2_with fail
      go_meet
      case rel => exact ⟨n, rfl, hn0, Nat.le_refl _, World.rowIs_made w _ _ _, (Keep.refl [] w).alloc _⟩
    · have h1 : ∀ w : World, (Instr.makeSlice 24 (.int .i64 65536) (.int .i64 65536)).run Tryd.prog w = .ok (.slice (some ⟨w.heap.size, 0, none⟩) 65536 65536) (w.alloc (.cells (madeCells #[.int .u8 0] 65536) 5)) := fun w => hmk 65536 w (by omega)
      go_wp2_with fail
      go_meet
      case rel => exact ⟨65536, rfl, by omega, by omega, World.rowIs_made w _ _ _, (Keep.refl [] w).alloc _⟩
  case rest =>
    obtain ⟨m, rfl, hm0, hmn, hrow, hk⟩ := hcut
    clear hmk
    have HR0 : Hid (Rdr L x wc p) := h.keep hk (by simp)
    have HK0 : Hid (Keep [] w wc) := hk
    have HW0 : Hid (wc.rowIs w.heap.size 5 m (fun _ => .int .u8 0)) := hrow
    have hxs := lt_blk h.blk
    have hsz := hk.size
    clear hk hrow
    go_wp2_with fail
    go_loopg [6, 7, 8, 9] n (fun gk s6 s7 _ _ wr => ∃ (g k len N : Nat) (f : Nat → Value), s6 = .slice (some ⟨g, 0, none⟩) len N ∧ s7 = .int .i64 k ∧ k < len ∧ len ≤ n ∧ len ≤ N ∧ N ≤ maxLen ∧ gk = n - k ∧ w.heap.size ≤ g ∧ wr.rowIs g 5 N f ∧ (∀ j, j < k → f j = L.at (p + j)) ∧ Rdr L x wr (p + k) ∧ Keep L.own w wr)
    case atStart => exact ⟨w.heap.size, 0, m, m, _, rfl, rfl, hm0, hmn, Nat.le_refl _, by simp only [maxLen]; omega, rfl, Nat.le_refl _, HW0.out, fun j hj => by omega, HR0.out, HK0.out.mono (by simp)⟩
    case round =>
      obtain ⟨g, k, len, N, f, rfl, rfl, hkl, hln, hlN, hNm, hgk, hg, hrow, hf, hR, hk⟩ := hrel
      obtain ⟨l1, l2, l3, l4⟩ := h.rd.lts
      have nb : g ≠ L.bb ∧ g ≠ L.bf ∧ g ≠ L.rb ∧ g ≠ L.sb := ⟨by omega, by omega, by omega, by omega⟩
      have gx : g ≠ x := by omega
      have HD : Hid (Dest L wr g k (len - k) N 5 f) := ⟨hrow, by omega, nb.1, nb.2.1, nb.2.2.1, nb.2.2.2⟩
      have HF : Hid (∀ j, j < k → f j = L.at (p + j)) := hf
      have HR : Hid (Rdr L x wr (p + k)) := hR
      have HK : Hid (Keep L.own w wr) := hk
      have cx := hR.cell
      have hxo := hR.own
      have hne : ¬ N = k := by omega
      have hk0 : (k : Int) ≤ (len : Int) := by omega
      clear hrow hf hR hk
      have hEr : Env L.B e0 e1 e3 wr := HE.out.turn h.rd HK.out
      have hpk : p + k ≤ L.n := HR.out.rd.hp
      by_cases hshort : L.n < p + len
      · have g0 := hEr.g0
        have g1 := hEr.g1
        obtain ⟨mm, hmm⟩ : ∃ mm, mm = L.n - (p + k) := ⟨_, rfl⟩
        obtain ⟨ee, hee⟩ : ∃ ee, ee = (if p + k = L.n then e0 else e1) := ⟨_, rfl⟩
        have HEE : Hid (ee = e0 ∨ ee = e1) := by show _ ∨ _; rw [hee]; by_cases hh : p + k = L.n; exact .inl (if_pos hh); exact .inr (if_neg hh)
        have HM2 : Hid (mm = L.n - (p + k) ∧ ee = (if p + k = L.n then e0 else e1)) := ⟨hmm, hee⟩
        have hmb : mm ≤ 1048576 := by omega
        clear hmm hee
        go_wp2_with fail
        go_region_held3 (fun w' => w'.cell? ⟨x, 0, none⟩ = some (.pointer (some ⟨L.bb, 0, none⟩))) (first | go_keep | exact (hk2.cell (p := ⟨x, 0, none⟩) (lt_of_cell (w := wr) cx) (by simp [gx.symm, hxo])).trans cx)
          (first | (go_at_call 65; refine (readFull_short L _ (p + k) g k (len - k) (N - k) N 5 f e0 e1 ee mm HM2.out.1 HM2.out.2 (by first | exact HR.out.rd.drew | exact HR.out.rd.drewN _ | exact HR.out.rd) (by first | exact HD.out.drew | exact HD.out.drewN _ | exact HD.out) (by omega) (by omega) (by omega) (by omega) (by exact g0) (by exact g1) (fun y hy => by rcases List.mem_cons.1 hy with rfl | hy; omega; exact hOW y hy)).mono ?_; rintro e w2 ⟨rfl, hR2, hk2, hs2⟩))
        have HR2 : Hid (Rdr L x w2 L.n) := HR.out.turn hR2 hk2.of_drew (by simp [gx.symm, hxo])
        have HK2 : Hid (Keep L.own w w2) := HK.out.trans hk2.of_drew (by intro y hy; rcases List.mem_cons.1 hy with rfl | hy; exact .inr hg; exact .inl hy)
        clear hR2 hk2 hs2 HD HF HR HK cx hne g0 g1
        have hW : IntKind.i64.wrap ((k : Int) + (mm : Int)) = (k : Int) + (mm : Int) := wrap_ok _ (by omega) (by omega)
        go_wp2_with fail
        go_ret2
        exact ⟨⟨ee, HEE.out, rfl⟩, HR2.out, HK2.out⟩
      have hfull : p + len ≤ L.n := by omega
      clear hEr hpk
      go_wp2_with fail
      go_region_held3 (fun w' => w'.cell? ⟨x, 0, none⟩ = some (.pointer (some ⟨L.bb, 0, none⟩))) (first | go_keep | exact (hk2.cell (p := ⟨x, 0, none⟩) (lt_of_cell (w := wr) cx) (by simp [gx.symm, hxo])).trans cx)
        (first | (go_at_call 65; refine (readFull L _ (p + k) g k (len - k) (N - k) N 5 f (by first | exact HR.out.rd.drew | exact HR.out.rd.drewN _ | exact HR.out.rd) (by first | exact HD.out.drew | exact HD.out.drewN _ | exact HD.out) (by omega) (by omega) (by omega)).mono ?_; rintro e w2 ⟨rfl, hR2, hrow2, hk2, hs2⟩))
      have HR2 : Hid (Rdr L x w2 (p + len)) := by
        have h1 := HR.out.turn hR2 hk2.of_drew (by simp [gx.symm, hxo])
        rwa [show p + k + (len - k) = p + len by omega] at h1
      have HF2 : Hid (∀ j, j < len → laid L (p + k) k (len - k) f j = L.at (p + j)) := fun j hj => by
        unfold laid
        by_cases hjk : k ≤ j
        · rw [if_pos (by omega), show p + k + (j - k) = p + j by omega]
        · rw [if_neg (by omega), HF.out j (by omega)]
      have HW2 : Hid (w2.rowIs g 5 N (laid L (p + k) k (len - k) f)) := hrow2
      have HK2 : Hid (Keep L.own w w2) := HK.out.trans hk2.of_drew (by intro y hy; rcases List.mem_cons.1 hy with rfl | hy; exact .inr hg; exact .inl hy)
      obtain ⟨f2, hf2⟩ : ∃ f2, f2 = laid L (p + k) k (len - k) f := ⟨_, rfl⟩
      rw [← hf2] at HF2 HW2
      clear hR2 hrow2 hk2 hs2 hf2 HD HF HR HK cx hne
      have hsum : (k : Int) + ((len - k : Nat) : Int) = (len : Int) := by omega
      have hsumN : k + (len - k) = len := by omega
      by_cases hend : len = n
      · subst hend
        go_wp2_with fail
        obtain ⟨w3, hw3⟩ : ∃ w3, w3 = w2.alloc (.cells #[.int .u8 0, .int .u8 0] 97) := ⟨_, rfl⟩
        have hk3 : Keep [] w2 w3 := by rw [hw3]; exact (Keep.refl [] w2).alloc _
        have hrow3 : w3.rowIs w2.heap.size 97 2 (fun _ => .int .u8 0) := by
          rw [hw3]
          exact World.rowIs_alloc w2 _ 97 _ (fun i hi => by simp at hi; obtain rfl | rfl : i = 0 ∨ i = 1 := by omega
                                                            all_goals rfl)
        have hR3 := HR2.out.keep hk3 (by simp)
        rw [← hw3]
        clear hw3
        obtain ⟨be, hbe⟩ : ∃ be, be = w2.heap.size := ⟨_, rfl⟩
        have hbs : w.heap.size ≤ be := by rw [hbe]; exact HK2.out.size
        rw [← hbe] at hrow3 ⊢
        have nb3 : be ≠ L.bb ∧ be ≠ L.bf ∧ be ≠ L.rb ∧ be ≠ L.sb := ⟨by omega, by omega, by omega, by omega⟩
        have gx3 : be ≠ x := by omega
        have gg3 : g ≠ be := by have := HW2.out.lt; omega
        have HD3 : Hid (Dest L w3 be 0 2 2 97 (fun _ => .int .u8 0)) := ⟨hrow3, by omega, nb3.1, nb3.2.1, nb3.2.2.1, nb3.2.2.2⟩
        have cx := hR3.cell
        have HR3 : Hid (Rdr L x w3 (p + len)) := hR3
        have HW3 : Hid (w3.rowIs g 5 N f2) := hk3.rowIs HW2.out (by simp)
        have HK3 : Hid (Keep L.own w w3) := HK2.out.then (hk3.mono (by simp))
        have hE3 : Env L.B e0 e1 e3 w3 := HE.out.turn h.rd HK3.out
        have g0 := hE3.g0
        have g1 := hE3.g1
        obtain ⟨mm, hmm⟩ : ∃ mm, mm = L.n - (p + len) := ⟨_, rfl⟩
        obtain ⟨ee, hee⟩ : ∃ ee, ee = (if p + len = L.n then e0 else e1) := ⟨_, rfl⟩
        have HEE : Hid (ee = e0 ∨ ee = e1) := by show _ ∨ _; rw [hee]; by_cases hh : p + len = L.n; exact .inl (if_pos hh); exact .inr (if_neg hh)
        have HM2 : Hid (mm = L.n - (p + len) ∧ ee = (if p + len = L.n then e0 else e1)) := ⟨hmm, hee⟩
        clear hk3 hrow3 hR3 HR2 HW2 HK2 hbe hmm hee hE3
        go_region_held3 (fun w' => w'.cell? ⟨x, 0, none⟩ = some (.pointer (some ⟨L.bb, 0, none⟩))) (first | go_keep | exact (hk2.cell (p := ⟨x, 0, none⟩) (lt_of_cell (w := w3) cx) (by simp [gx3.symm, hxo])).trans cx)
          (first | (go_at_call 65; refine (readFull_short L _ (p + len) be 0 2 2 2 97 _ e0 e1 ee mm HM2.out.1 HM2.out.2 (by first | exact HR3.out.rd.drew | exact HR3.out.rd.drewN _ | exact HR3.out.rd) (by first | exact HD3.out.drew | exact HD3.out.drewN _ | exact HD3.out) (by omega) (by omega) (by omega) (by omega) (by exact g0) (by exact g1) (fun y hy => by rcases List.mem_cons.1 hy with rfl | hy; omega; exact hOW y hy)).mono ?_; rintro e w4 ⟨rfl, hR4, hk2, hs4⟩))
        have HR4 : Hid (Rdr L x w4 L.n) := HR3.out.turn hR4 hk2.of_drew (by simp [gx3.symm, hxo])
        have HK4 : Hid (Keep L.own w w4) := HK3.out.trans hk2.of_drew (by intro y hy; rcases List.mem_cons.1 hy with rfl | hy; exact .inr hbs; exact .inl hy)
        clear hR4 hk2 hs4 g0 g1
        go_wp2_with fail
        go_ret2
        exact ⟨⟨ee, HEE.out, rfl⟩, HR4.out, HK4.out⟩
      · have hend' : ((len : Int) == (n : Int)) = false := by simp; omega
        by_cases hle : len ≤ n - len
        · go_wp2_with (at_builtin; refine wpList_append_zeros _ rfl (.tmp 37) (.tmp 42) rfl g len N len f2 rfl rfl HW2.out (by omega) hNm (by omega) (by omega) ?_; intro g' N' f' w3 hrow3 hf3 hN3 hNm3 hk3 hg3)
          go_roundg (n - len)
          case measure => omega
          case rel =>
            exact ⟨g', len, len + len, N', f', rfl, rfl, by omega, by omega, hN3, hNm3, rfl, by rcases hg3 with rfl | rfl; exact hg; have := HK2.out.size; omega, hrow3, fun j hj => by rw [hf3 j hj]; exact HF2.out j hj, HR2.out.keep hk3 (by simp [nb, gx]), HK2.out.trans hk3 (by simp [hg])⟩
        · have hsub : (n : Int) - (len : Int) = ((n - len : Nat) : Int) := by omega
          have hle' : ¬ (len : Int) ≤ ((n - len : Nat) : Int) := by omega
          go_wp2_with (at_builtin; refine wpList_append_zeros _ rfl (.tmp 37) (.tmp 42) rfl g len N (n - len) f2 rfl rfl HW2.out (by omega) hNm (by omega) (by omega) ?_; intro g' N' f' w3 hrow3 hf3 hN3 hNm3 hk3 hg3)
          go_roundg (n - len)
          case measure => omega
          case rel =>
            exact ⟨g', len, n, N', f', rfl, rfl, by omega, by omega, by omega, hNm3, rfl, by rcases hg3 with rfl | rfl; exact hg; have := HK2.out.size; omega, hrow3, fun j hj => by rw [hf3 j hj]; exact HF2.out j hj, HR2.out.keep hk3 (by simp [nb, gx]), HK2.out.trans hk3 (by simp [hg])⟩

set_option maxRecDepth 100000 in
set_option maxHeartbeats 800000 in
theorem readBulk_zero_short (L : Lay) (x : Nat) (w : World) (p : Nat) (e0 e1 e3 : Addr) (hE : Env L.B e0 e1 e3 w) (h : Rdr L x w p) (hp : L.n < p + 2) :
    Calls Tryd.prog 52 #[.pointer (some ⟨x, 0, none⟩), .int .i64 0] w fun e w' => ShortAns e e0 e1 ∧ Rdr L x w' L.n ∧ Keep L.own w w' := by
  have HE : Hid (Env L.B e0 e1 e3 w) := hE
  have hB3 := hE.hB
  have hBs : L.B ≤ w.heap.size := by have := h.rd.ap.B1; have := h.rd.lts.1; omega
  have hOW : ∀ y ∈ L.own, y ≠ 0 ∧ y ≠ 1 := by have h1 := h.rd.ap.B1; have h2 := h.rd.ap.B2; have h3 := h.rd.ap.B3; simp [Lay.own]; omega
  have hpn : p ≤ L.n := h.rd.hp
  have HRD : Hid (Rd L w p) := h.rd
  clear hE
  have hmk : ∀ w : World, (Instr.makeSlice 24 (.int .i64 0) (.int .i64 0)).run Tryd.prog w = .ok (.slice (some ⟨w.heap.size, 0, none⟩) 0 0) (w.alloc (.cells (madeCells #[.int .u8 0] 0) 5)) := fun w => run_make_row' (P := Tryd.prog) 24 5 (.int .u8 0) 1 Tryd.underlying24 info5 rfl .i64 .i64 0 (by omega) (by omega) w
  obtain ⟨l1, l2, l3, l4⟩ := h.rd.lts
  have hxs := lt_blk h.blk
  have hxo := h.own
  have HR0 : Hid (Rdr L x w p) := h
  clear h
  go_enter Tryd.func52, Tryd.ntmps52
  go_upto_region 2 with fail
  obtain ⟨w1, hw1⟩ : ∃ w1, w1 = w.alloc (.cells (madeCells #[.int .u8 0] 0) 5) := ⟨_, rfl⟩
  have hk1 : Keep [] w w1 := by rw [hw1]; exact (Keep.refl [] w).alloc _
  have HR1 : Hid (Rdr L x w1 p) := HR0.out.keep hk1 (by simp)
  have HW1 : Hid (w1.rowIs w.heap.size 5 0 (fun _ => .int .u8 0)) := by show w1.rowIs _ _ _ _; rw [hw1]; exact World.rowIs_made w _ _ _
  have HK1 : Hid (Keep [] w w1) := hk1
  have cx1 := HR1.out.cell
  rw [← hw1]
  clear hw1 hmk hk1
  go_wp2_with fail
  refine wp_loop_rounds 1 ?_
  rw [rounds_succ]
  go_wp2_with fail
  go_quiet ((go_at_call 65; exact Calls.quiet_of_same (readFull_none _ _ _ _)))
  go_wp2_with fail
  obtain ⟨w2, hw2⟩ : ∃ w2, w2 = w1.drewN nq := ⟨_, rfl⟩
  have hk2 : Keep [] w1 w2 := by rw [hw2]; exact (Keep.refl [] w1).drewN nq
  have HR2 : Hid (Rdr L x w2 p) := HR1.out.keep hk2 (by simp)
  have HW2 : Hid (w2.rowIs w.heap.size 5 0 (fun _ => .int .u8 0)) := hk2.rowIs HW1.out (by simp)
  have HK2 : Hid (Keep L.own w w2) := (HK1.out.then hk2).mono (by simp)
  have hw2s : w1.heap.size = w2.heap.size := by rw [hw2]; rfl
  rw [← hw2]
  clear hw2 hk2 HR1 HW1 HK1 cx1
  rw [hw2s]
  clear hw2s
  have nb : w.heap.size ≠ L.bb ∧ w.heap.size ≠ L.bf ∧ w.heap.size ≠ L.rb ∧ w.heap.size ≠ L.sb := ⟨by omega, by omega, by omega, by omega⟩
  obtain ⟨w3, hw3⟩ : ∃ w3, w3 = w2.alloc (.cells #[.int .u8 0, .int .u8 0] 97) := ⟨_, rfl⟩
  have hk3 : Keep [] w2 w3 := by rw [hw3]; exact (Keep.refl [] w2).alloc _
  have hrow3 : w3.rowIs w2.heap.size 97 2 (fun _ => .int .u8 0) := by
    rw [hw3]
    exact World.rowIs_alloc w2 _ 97 _ (fun i hi => by simp at hi; obtain rfl | rfl : i = 0 ∨ i = 1 := by omega
                                                      all_goals rfl)
  have hR3 := HR2.out.keep hk3 (by simp)
  rw [← hw3]
  clear hw3
  obtain ⟨be, hbe⟩ : ∃ be, be = w2.heap.size := ⟨_, rfl⟩
  have hbs : w.heap.size ≤ be := by rw [hbe]; exact HK2.out.size
  rw [← hbe] at hrow3 ⊢
  have nb3 : be ≠ L.bb ∧ be ≠ L.bf ∧ be ≠ L.rb ∧ be ≠ L.sb := ⟨by omega, by omega, by omega, by omega⟩
  have gx3 : be ≠ x := by omega
  have gg3 : w.heap.size ≠ be := by have := HW2.out.lt; omega
  have HD3 : Hid (Dest L w3 be 0 2 2 97 (fun _ => .int .u8 0)) := ⟨hrow3, by omega, nb3.1, nb3.2.1, nb3.2.2.1, nb3.2.2.2⟩
  have cx := hR3.cell
  have HR3 : Hid (Rdr L x w3 (p)) := hR3
  have HW3 : Hid (w3.rowIs w.heap.size 5 0 (fun _ => .int .u8 0)) := hk3.rowIs HW2.out (by simp)
  have HK3 : Hid (Keep L.own w w3) := HK2.out.then (hk3.mono (by simp))
  have hE3 : Env L.B e0 e1 e3 w3 := HE.out.turn HRD.out HK3.out
  have g0 := hE3.g0
  have g1 := hE3.g1
  obtain ⟨mm, hmm⟩ : ∃ mm, mm = L.n - p := ⟨_, rfl⟩
  obtain ⟨ee, hee⟩ : ∃ ee, ee = (if p = L.n then e0 else e1) := ⟨_, rfl⟩
  have HEE : Hid (ee = e0 ∨ ee = e1) := by show _ ∨ _; rw [hee]; by_cases hh : p = L.n; exact .inl (if_pos hh); exact .inr (if_neg hh)
  have HM2 : Hid (mm = L.n - p ∧ ee = (if p = L.n then e0 else e1)) := ⟨hmm, hee⟩
  clear hk3 hrow3 hR3 HR2 HW2 HK2 hbe hmm hee hE3
  go_region_held3 (fun w' => w'.cell? ⟨x, 0, none⟩ = some (.pointer (some ⟨L.bb, 0, none⟩))) (first | go_keep | exact (hk2.cell (p := ⟨x, 0, none⟩) (lt_of_cell (w := w3) cx) (by simp [gx3.symm, hxo])).trans cx)
    (first | (go_at_call 65; refine (readFull_short L _ p be 0 2 2 2 97 _ e0 e1 ee mm HM2.out.1 HM2.out.2 (by first | exact HR3.out.rd.drew | exact HR3.out.rd.drewN _ | exact HR3.out.rd) (by first | exact HD3.out.drew | exact HD3.out.drewN _ | exact HD3.out) (by omega) (by omega) (by omega) (by omega) (by exact g0) (by exact g1) (fun y hy => by rcases List.mem_cons.1 hy with rfl | hy; omega; exact hOW y hy)).mono ?_; rintro e w4 ⟨rfl, hR4, hk2, hs4⟩))
  have HR4 : Hid (Rdr L x w4 L.n) := HR3.out.turn hR4 hk2.of_drew (by simp [gx3.symm, hxo])
  have HK4 : Hid (Keep L.own w w4) := HK3.out.trans hk2.of_drew (by intro y hy; rcases List.mem_cons.1 hy with rfl | hy; exact .inr hbs; exact .inl hy)
  clear hR4 hk2 hs4 g0 g1
  go_wp2_with fail
  go_ret2
  exact ⟨⟨ee, HEE.out, rfl⟩, HR4.out, HK4.out⟩

end Go.Proofs.Qxb6616140aDoor
