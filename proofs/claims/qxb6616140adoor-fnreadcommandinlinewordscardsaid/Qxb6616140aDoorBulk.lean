/- readBulk, where the bytes are there. -/
import Derived.Test.Qxb6616140aDoorNew
import Derived.Test.Qxb6616140aDoorApp
import Derived.OwnWalk
import Derived.Deep.DeepCutAuto
namespace Go.Proofs.Qxb6616140aDoor
open Go.RowKit

theorem Rd.lts {L : Lay} {w : World} {p : Nat} (h : Rd L w p) : L.bb < w.heap.size ∧ L.bf < w.heap.size ∧ L.rb < w.heap.size ∧ L.sb < w.heap.size := by
  obtain ⟨r, wi, h⟩ := h
  obtain ⟨_, _, e1⟩ := h.blk
  obtain ⟨_, e2⟩ := h.brd
  obtain ⟨_, e3, _⟩ := h.buf
  exact ⟨lt_blk e1, e3.lt, lt_blk e2, h.src.1⟩

theorem crlf (w : World) : (Op.equalIn 10000 97 (.agg #[.int .u8 13, .int .u8 10]) (.agg #[.int .u8 13, .int .u8 10])).run Tryd.prog w = .ok true w := by kernel_rfl

theorem Rdr.cell {L : Lay} {x : Nat} {w : World} {p : Nat} (h : Rdr L x w p) : w.cell? ⟨x, 0, none⟩ = some (.pointer (some ⟨L.bb, 0, none⟩)) := (cells2 h.blk).1

theorem Rdr.drew {L : Lay} {x : Nat} {w : World} {p : Nat} (h : Rdr L x w p) : Rdr L x w.drew p := h.keep ((Keep.refl [] w).drew) (by simp)

set_option maxRecDepth 100000 in
set_option maxHeartbeats 800000 in
theorem readBulk (L : Lay) (x : Nat) (w : World) (p n : Nat) (h : Rdr L x w p) (hn : n ≤ 1048576) (hn0 : 0 < n) (hp : p + n + 2 ≤ L.n) (h13 : L.src.getD (p + n) 0 = 13) (h10 : L.src.getD (p + n + 1) 0 = 10) :
    Calls Tryd.prog 52 #[.pointer (some ⟨x, 0, none⟩), .int .i64 n] w fun e w' => ∃ g N f, e = .returned (.tuple #[.slice (some ⟨g, 0, none⟩) n N, .nilIface]) ∧
      Rdr L x w' (p + n + 2) ∧ w'.rowIs g 5 N f ∧ n ≤ N ∧ (∀ j, j < n → f j = L.at (p + j)) ∧ w.heap.size ≤ g ∧ Keep L.own w w' := by
  have hmk : ∀ (m : Nat) (w : World), m ≤ 1048576 → (Instr.makeSlice 24 (.int .i64 m) (.int .i64 m)).run Tryd.prog w = .ok (.slice (some ⟨w.heap.size, 0, none⟩) m m) (w.alloc (.cells (madeCells #[.int .u8 0] m) 5)) := fun m w hm => run_make_row' (P := Tryd.prog) 24 5 (.int .u8 0) 1 Tryd.underlying24 info5 rfl .i64 .i64 m (by omega) (by omega) w
  go_enter Tryd.func52, Tryd.ntmps52
  go_upto_region 1 with fail
  go_cut [6] (fun s6 wc => ∃ m : Nat, s6 = .slice (some ⟨w.heap.size, 0, none⟩) m m ∧ 0 < m ∧ m ≤ n ∧ wc.rowIs w.heap.size 5 m (fun _ => .int .u8 0) ∧ Keep [] w wc)
  case first =>
    by_cases hle : n ≤ 65536
    · have h1 := fun w => hmk n w hn
      go_wp2_with fail
      go_meet
      case rel => exact ⟨n, rfl, hn0, Nat.le_refl _, World.rowIs_made w _ _ _, (Keep.refl [] w).alloc _⟩
    · have h1 : ∀ w : World, (Instr.makeSlice 24 (.int .i64 65536) (.int .i64 65536)).run Tryd.prog w = .ok (.slice (some ⟨w.heap.size, 0, none⟩) 65536 65536) (w.alloc (.cells (madeCells #[.int .u8 0] 65536) 5)) := fun w => hmk 65536 w (by omega)
      go_wp2_with fail
      go_meet
      case rel => exact ⟨65536, rfl, by omega, by omega, World.rowIs_made w _ _ _, (Keep.refl [] w).alloc _⟩
  case rest =>
    obtain ⟨m, rfl, hm0, hmn, hrow, hk⟩ := hcut
    clear hmk
    have HR0 : Hid (Rdr L x wc p) := h.keep hk (by simp)
    have HK0 : Hid (Keep [] w wc) := hk
    have HW0 : Hid (wc.rowIs w.heap.size 5 m (fun _ => .int .u8 0)) := hrow
    have hxs := lt_blk h.blk
    have hsz := hk.size
    clear hk hrow
    go_wp2_with fail
    go_loopg [6, 7, 8, 9] n (fun gk s6 s7 _ _ wr => ∃ (g k len N : Nat) (f : Nat → Value), s6 = .slice (some ⟨g, 0, none⟩) len N ∧ s7 = .int .i64 k ∧ k < len ∧ len ≤ n ∧ len ≤ N ∧ N ≤ maxLen ∧ gk = n - k ∧ w.heap.size ≤ g ∧ wr.rowIs g 5 N f ∧ (∀ j, j < k → f j = L.at (p + j)) ∧ Rdr L x wr (p + k) ∧ Keep L.own w wr)
    case atStart => exact ⟨w.heap.size, 0, m, m, _, rfl, rfl, hm0, hmn, Nat.le_refl _, by simp only [maxLen]; omega, rfl, Nat.le_refl _, HW0.out, fun j hj => by omega, HR0.out, HK0.out.mono (by simp)⟩
    case round =>
      obtain ⟨g, k, len, N, f, rfl, rfl, hkl, hln, hlN, hNm, hgk, hg, hrow, hf, hR, hk⟩ := hrel
      obtain ⟨l1, l2, l3, l4⟩ := h.rd.lts
      have nb : g ≠ L.bb ∧ g ≠ L.bf ∧ g ≠ L.rb ∧ g ≠ L.sb := ⟨by omega, by omega, by omega, by omega⟩
      have gx : g ≠ x := by omega
      have HD : Hid (Dest L wr g k (len - k) N 5 f) := ⟨hrow, by omega, nb.1, nb.2.1, nb.2.2.1, nb.2.2.2⟩
      have HF : Hid (∀ j, j < k → f j = L.at (p + j)) := hf
      have HR : Hid (Rdr L x wr (p + k)) := hR
      have HK : Hid (Keep L.own w wr) := hk
      have cx := hR.cell
      have hxo := hR.own
      have hne : ¬ N = k := by omega
      have hk0 : (k : Int) ≤ (len : Int) := by omega
      clear hrow hf hR hk
      go_wp2_with fail
      go_region_held3 (fun w' => w'.cell? ⟨x, 0, none⟩ = some (.pointer (some ⟨L.bb, 0, none⟩))) (first | go_keep | exact (hk2.cell (p := ⟨x, 0, none⟩) (lt_of_cell (w := wr) cx) (by simp [gx.symm, hxo])).trans cx)
        (first | (go_at_call 65; refine (readFull L _ (p + k) g k (len - k) (N - k) N 5 f (by first | exact HR.out.rd.drew | exact HR.out.rd.drewN _ | exact HR.out.rd) (by first | exact HD.out.drew | exact HD.out.drewN _ | exact HD.out) (by omega) (by omega) (by omega)).mono ?_; rintro e w2 ⟨rfl, hR2, hrow2, hk2, hs2⟩))
      have HR2 : Hid (Rdr L x w2 (p + len)) := by
        have h1 := HR.out.turn hR2 hk2.of_drew (by simp [gx.symm, hxo])
        rwa [show p + k + (len - k) = p + len by omega] at h1
      have HF2 : Hid (∀ j, j < len → laid L (p + k) k (len - k) f j = L.at (p + j)) := fun j hj => by
        unfold laid
        by_cases hjk : k ≤ j
        · rw [if_pos (by omega), show p + k + (j - k) = p + j by omega]
        · rw [if_neg (by omega), HF.out j (by omega)]
      have HW2 : Hid (w2.rowIs g 5 N (laid L (p + k) k (len - k) f)) := hrow2
      have HK2 : Hid (Keep L.own w w2) := HK.out.trans hk2.of_drew (by intro y hy; rcases List.mem_cons.1 hy with rfl | hy; exact .inr hg; exact .inl hy)
      obtain ⟨f2, hf2⟩ : ∃ f2, f2 = laid L (p + k) k (len - k) f := ⟨_, rfl⟩
      rw [← hf2] at HF2 HW2
      clear hR2 hrow2 hk2 hs2 hf2 HD HF HR HK cx hne
      have hsum : (k : Int) + ((len - k : Nat) : Int) = (len : Int) := by omega
      have hsumN : k + (len - k) = len := by omega
      by_cases hend : len = n
      · subst hend
        go_wp2_with fail
        obtain ⟨w3, hw3⟩ : ∃ w3, w3 = w2.alloc (.cells #[.int .u8 0, .int .u8 0] 97) := ⟨_, rfl⟩
        have hk3 : Keep [] w2 w3 := by rw [hw3]; exact (Keep.refl [] w2).alloc _
        have hrow3 : w3.rowIs w2.heap.size 97 2 (fun _ => .int .u8 0) := by
          rw [hw3]
          exact World.rowIs_alloc w2 _ 97 _ (fun i hi => by simp at hi; obtain rfl | rfl : i = 0 ∨ i = 1 := by omega
                                                            all_goals rfl)
        have hR3 := HR2.out.keep hk3 (by simp)
        rw [← hw3]
        clear hw3
        obtain ⟨be, hbe⟩ : ∃ be, be = w2.heap.size := ⟨_, rfl⟩
        have hbs : w.heap.size ≤ be := by rw [hbe]; exact HK2.out.size
        rw [← hbe] at hrow3 ⊢
        have nb3 : be ≠ L.bb ∧ be ≠ L.bf ∧ be ≠ L.rb ∧ be ≠ L.sb := ⟨by omega, by omega, by omega, by omega⟩
        have gx3 : be ≠ x := by omega
        have gg3 : g ≠ be := by have := HW2.out.lt; omega
        have HD3 : Hid (Dest L w3 be 0 2 2 97 (fun _ => .int .u8 0)) := ⟨hrow3, by omega, nb3.1, nb3.2.1, nb3.2.2.1, nb3.2.2.2⟩
        have cx := hR3.cell
        have HR3 : Hid (Rdr L x w3 (p + len)) := hR3
        have HW3 : Hid (w3.rowIs g 5 N f2) := hk3.rowIs HW2.out (by simp)
        have HK3 : Hid (Keep L.own w w3) := HK2.out.then (hk3.mono (by simp))
        clear hk3 hrow3 hR3 HR2 HW2 HK2 hbe
        go_region_held3 (fun w' => w'.cell? ⟨x, 0, none⟩ = some (.pointer (some ⟨L.bb, 0, none⟩))) (first | go_keep | exact (hk2.cell (p := ⟨x, 0, none⟩) (lt_of_cell (w := w3) cx) (by simp [gx3.symm, hxo])).trans cx)
          (first | (go_at_call 65; refine (readFull L _ (p + len) be 0 2 2 2 97 _ (by first | exact HR3.out.rd.drew | exact HR3.out.rd.drewN _ | exact HR3.out.rd) (by first | exact HD3.out.drew | exact HD3.out.drewN _ | exact HD3.out) (by omega) (by omega) (by omega)).mono ?_; rintro e w4 ⟨rfl, hR4, hrow4, hk2, hs4⟩))
        have d0 := hrow4.cell (i := 0) (by omega)
        have d1 := hrow4.cell (i := 1) (by omega)
        have e0 : laid L (p + len) 0 2 (fun _ => Value.int .u8 0) 0 = .int .u8 13 := by
          unfold laid; rw [if_pos (by omega)]; show Value.int .u8 (L.src.getD (p + len + (0 - 0)) 0) = _; rw [show p + len + (0 - 0) = p + len by omega, h13]
        have e1 : laid L (p + len) 0 2 (fun _ => Value.int .u8 0) 1 = .int .u8 10 := by
          unfold laid; rw [if_pos (by omega)]; show Value.int .u8 (L.src.getD (p + len + (1 - 0)) 0) = _; rw [show p + len + (1 - 0) = p + len + 1 by omega, h10]
        rw [e0] at d0
        rw [e1] at d1
        have HR4 : Hid (Rdr L x w4 (p + len + 2)) := HR3.out.turn hR4 hk2.of_drew (by simp [gx3.symm, hxo])
        have HW4 : Hid (w4.rowIs g 5 N f2) := hk2.of_drew.rowIs HW3.out (by simp [gg3, Lay.own, nb])
        have HK4 : Hid (Keep L.own w w4) := HK3.out.trans hk2.of_drew (by intro y hy; rcases List.mem_cons.1 hy with rfl | hy; exact .inr hbs; exact .inl hy)
        clear hR4 hrow4 hk2 hs4 e0 e1
        have hcr := crlf
        go_wp2_with fail
        go_ret2
        exact ⟨g, N, f2, rfl, HR4.out, HW4.out, hlN, HF2.out, hg, HK4.out⟩
      · have hend' : ((len : Int) == (n : Int)) = false := by simp; omega
        by_cases hle : len ≤ n - len
        · go_wp2_with (at_builtin; refine wpList_append_zeros _ rfl (.tmp 37) (.tmp 42) rfl g len N len f2 rfl rfl HW2.out (by omega) hNm (by omega) (by omega) ?_; intro g' N' f' w3 hrow3 hf3 hN3 hNm3 hk3 hg3)
          go_roundg (n - len)
          case measure => omega
          case rel =>
            exact ⟨g', len, len + len, N', f', rfl, rfl, by omega, by omega, hN3, hNm3, rfl, by rcases hg3 with rfl | rfl; exact hg; have := HK2.out.size; omega, hrow3, fun j hj => by rw [hf3 j hj]; exact HF2.out j hj, HR2.out.keep hk3 (by simp [nb, gx]), HK2.out.trans hk3 (by simp [hg])⟩
        · have hsub : (n : Int) - (len : Int) = ((n - len : Nat) : Int) := by omega
          have hle' : ¬ (len : Int) ≤ ((n - len : Nat) : Int) := by omega
          go_wp2_with (at_builtin; refine wpList_append_zeros _ rfl (.tmp 37) (.tmp 42) rfl g len N (n - len) f2 rfl rfl HW2.out (by omega) hNm (by omega) (by omega) ?_; intro g' N' f' w3 hrow3 hf3 hN3 hNm3 hk3 hg3)
          go_roundg (n - len)
          case measure => omega
          case rel =>
            exact ⟨g', len, n, N', f', rfl, rfl, by omega, by omega, by omega, hNm3, rfl, by rcases hg3 with rfl | rfl; exact hg; have := HK2.out.size; omega, hrow3, fun j hj => by rw [hf3 j hj]; exact HF2.out j hj, HR2.out.keep hk3 (by simp [nb, gx]), HK2.out.trans hk3 (by simp [hg])⟩

set_option maxRecDepth 100000 in
set_option maxHeartbeats 800000 in
theorem readBulk_zero (L : Lay) (x : Nat) (w : World) (p : Nat) (h : Rdr L x w p) (hp : p + 2 ≤ L.n) (h13 : L.src.getD p 0 = 13) (h10 : L.src.getD (p + 1) 0 = 10) :
    Calls Tryd.prog 52 #[.pointer (some ⟨x, 0, none⟩), .int .i64 0] w fun e w' => ∃ g N f, e = .returned (.tuple #[.slice (some ⟨g, 0, none⟩) 0 N, .nilIface]) ∧
      Rdr L x w' (p + 2) ∧ w'.rowIs g 5 N f ∧ 0 ≤ N ∧ (∀ j, j < 0 → f j = L.at (p + j)) ∧ w.heap.size ≤ g ∧ Keep L.own w w' := by
  have hmk : ∀ w : World, (Instr.makeSlice 24 (.int .i64 0) (.int .i64 0)).run Tryd.prog w = .ok (.slice (some ⟨w.heap.size, 0, none⟩) 0 0) (w.alloc (.cells (madeCells #[.int .u8 0] 0) 5)) := fun w => run_make_row' (P := Tryd.prog) 24 5 (.int .u8 0) 1 Tryd.underlying24 info5 rfl .i64 .i64 0 (by omega) (by omega) w
  obtain ⟨l1, l2, l3, l4⟩ := h.rd.lts
  have hxs := lt_blk h.blk
  have hxo := h.own
  have HR0 : Hid (Rdr L x w p) := h
  clear h
  go_enter Tryd.func52, Tryd.ntmps52
  go_upto_region 2 with fail
  obtain ⟨w1, hw1⟩ : ∃ w1, w1 = w.alloc (.cells (madeCells #[.int .u8 0] 0) 5) := ⟨_, rfl⟩
  have hk1 : Keep [] w w1 := by rw [hw1]; exact (Keep.refl [] w).alloc _
  have HR1 : Hid (Rdr L x w1 p) := HR0.out.keep hk1 (by simp)
  have HW1 : Hid (w1.rowIs w.heap.size 5 0 (fun _ => .int .u8 0)) := by show w1.rowIs _ _ _ _; rw [hw1]; exact World.rowIs_made w _ _ _
  have HK1 : Hid (Keep [] w w1) := hk1
  have cx1 := HR1.out.cell
  rw [← hw1]
  clear hw1 hmk hk1
  go_wp2_with fail
  refine wp_loop_rounds 1 ?_
  rw [rounds_succ]
  go_wp2_with fail
  go_quiet ((go_at_call 65; exact Calls.quiet_of_same (readFull_none _ _ _ _)))
  go_wp2_with fail
  obtain ⟨w2, hw2⟩ : ∃ w2, w2 = w1.drewN nq := ⟨_, rfl⟩
  have hk2 : Keep [] w1 w2 := by rw [hw2]; exact (Keep.refl [] w1).drewN nq
  have HR2 : Hid (Rdr L x w2 p) := HR1.out.keep hk2 (by simp)
  have HW2 : Hid (w2.rowIs w.heap.size 5 0 (fun _ => .int .u8 0)) := hk2.rowIs HW1.out (by simp)
  have HK2 : Hid (Keep L.own w w2) := (HK1.out.then hk2).mono (by simp)
  have hw2s : w1.heap.size = w2.heap.size := by rw [hw2]; rfl
  rw [← hw2]
  clear hw2 hk2 HR1 HW1 HK1 cx1
  rw [hw2s]
  clear hw2s
  have nb : w.heap.size ≠ L.bb ∧ w.heap.size ≠ L.bf ∧ w.heap.size ≠ L.rb ∧ w.heap.size ≠ L.sb := ⟨by omega, by omega, by omega, by omega⟩
  obtain ⟨w3, hw3⟩ : ∃ w3, w3 = w2.alloc (.cells #[.int .u8 0, .int .u8 0] 97) := ⟨_, rfl⟩
  have hk3 : Keep [] w2 w3 := by rw [hw3]; exact (Keep.refl [] w2).alloc _
  have hrow3 : w3.rowIs w2.heap.size 97 2 (fun _ => .int .u8 0) := by
    rw [hw3]
    exact World.rowIs_alloc w2 _ 97 _ (fun i hi => by simp at hi; obtain rfl | rfl : i = 0 ∨ i = 1 := by omega
                                                      all_goals rfl)
  have hR3 := HR2.out.keep hk3 (by simp)
  rw [← hw3]
  clear hw3
  obtain ⟨be, hbe⟩ : ∃ be, be = w2.heap.size := ⟨_, rfl⟩
  have hbs : w.heap.size ≤ be := by rw [hbe]; exact HK2.out.size
  rw [← hbe] at hrow3 ⊢
  have nb3 : be ≠ L.bb ∧ be ≠ L.bf ∧ be ≠ L.rb ∧ be ≠ L.sb := ⟨by omega, by omega, by omega, by omega⟩
  have gx3 : be ≠ x := by omega
  have gg3 : w.heap.size ≠ be := by have := HW2.out.lt; omega
  have HD3 : Hid (Dest L w3 be 0 2 2 97 (fun _ => .int .u8 0)) := ⟨hrow3, by omega, nb3.1, nb3.2.1, nb3.2.2.1, nb3.2.2.2⟩
  have cx := hR3.cell
  have HR3 : Hid (Rdr L x w3 (p)) := hR3
  have HW3 : Hid (w3.rowIs w.heap.size 5 0 (fun _ => .int .u8 0)) := hk3.rowIs HW2.out (by simp)
  have HK3 : Hid (Keep L.own w w3) := HK2.out.then (hk3.mono (by simp))
  clear hk3 hrow3 hR3 HR2 HW2 HK2 hbe
  go_region_held3 (fun w' => w'.cell? ⟨x, 0, none⟩ = some (.pointer (some ⟨L.bb, 0, none⟩))) (first | go_keep | exact (hk2.cell (p := ⟨x, 0, none⟩) (lt_of_cell (w := w3) cx) (by simp [gx3.symm, hxo])).trans cx)
    (first | (go_at_call 65; refine (readFull L _ p be 0 2 2 2 97 _ (by first | exact HR3.out.rd.drew | exact HR3.out.rd.drewN _ | exact HR3.out.rd) (by first | exact HD3.out.drew | exact HD3.out.drewN _ | exact HD3.out) (by omega) (by omega) (by omega)).mono ?_; rintro e w4 ⟨rfl, hR4, hrow4, hk2, hs4⟩))
  have d0 := hrow4.cell (i := 0) (by omega)
  have d1 := hrow4.cell (i := 1) (by omega)
  have e0 : laid L (p) 0 2 (fun _ => Value.int .u8 0) 0 = .int .u8 13 := by
    unfold laid; rw [if_pos (by omega)]; show Value.int .u8 (L.src.getD (p + (0 - 0)) 0) = _; rw [show p + (0 - 0) = p by omega, h13]
  have e1 : laid L (p) 0 2 (fun _ => Value.int .u8 0) 1 = .int .u8 10 := by
    unfold laid; rw [if_pos (by omega)]; show Value.int .u8 (L.src.getD (p + (1 - 0)) 0) = _; rw [show p + (1 - 0) = p + 1 by omega, h10]
  rw [e0] at d0
  rw [e1] at d1
  have HR4 : Hid (Rdr L x w4 (p + 2)) := HR3.out.turn hR4 hk2.of_drew (by simp [gx3.symm, hxo])
  have HW4 : Hid (w4.rowIs w.heap.size 5 0 (fun _ => .int .u8 0)) := hk2.of_drew.rowIs HW3.out (by simp [gg3, Lay.own, nb])
  have HK4 : Hid (Keep L.own w w4) := HK3.out.trans hk2.of_drew (by intro y hy; rcases List.mem_cons.1 hy with rfl | hy; exact .inr hbs; exact .inl hy)
  clear hR4 hrow4 hk2 hs4 e0 e1
  have hcr := crlf
  go_wp2_with fail
  go_ret2
  exact ⟨w.heap.size, 0, _, rfl, HR4.out, HW4.out, Nat.le_refl _, (fun j hj => absurd hj (by omega)), Nat.le_refl _, HK4.out⟩
end Go.Proofs.Qxb6616140aDoor
