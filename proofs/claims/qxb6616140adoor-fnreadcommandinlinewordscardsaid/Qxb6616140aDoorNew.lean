/- resp.NewReader over bytes.NewReader. -/
import Derived.Test.Qxb6616140aDoorFull
namespace Go.Proofs.Qxb6616140aDoor
open Go.RowKit

theorem heap_alloc_last (w : World) (o : Obj) : (w.alloc o).heap[w.heap.size]? = some o := by
  show (w.heap.push o)[w.heap.size]? = _
  simp

set_option maxRecDepth 100000 in
theorem bytesNewReader (a : Option Addr) (len cap : Nat) (w : World) :
    Calls Tryd.prog 36 #[.slice a len cap] w fun e w' => e = .returned (.pointer (some ⟨w.heap.size, 0, none⟩)) ∧ w'.heap[w.heap.size]? = some (.cells #[.slice a len cap, .int .i64 0, .int .i64 (-1)] 72 (0, 0)) ∧ Keep [] w w' ∧ w'.heap.size = w.heap.size + 1 := by
  go_enter Tryd.func36, Tryd.ntmps36
  go_wp2
  go_ret
  exact ⟨rfl, heap_alloc_last w _, (Keep.refl [] w).alloc _, by simp⟩

theorem noBufio (v : Value) (xT : TypeId) (w : World) : (Instr.typeAssert (.iface 55 v) xT 59 true).run Tryd.prog w = .ok (.tuple #[.pointer none, .bool false]) w := by kernel_rfl

set_option maxRecDepth 100000 in
theorem bnewReader (r : Nat) (w : World) :
    Calls Tryd.prog 61 #[.iface 55 (.pointer (some ⟨r, 0, none⟩)), .int .i64 4096] w fun e w' => e = .returned (.pointer (some ⟨w.heap.size, 0, none⟩)) ∧
      w'.heap[w.heap.size]? = some (.cells #[.slice (some ⟨w.heap.size + 1, 0, none⟩) 4096 4096, .iface 55 (.pointer (some ⟨r, 0, none⟩)), .int .i64 0, .int .i64 0, .nilIface, .int .i64 (-1), .int .i64 (-1)] 74 (0, 0)) ∧
      w'.rowIs (w.heap.size + 1) 5 4096 (fun _ => .int .u8 0) ∧ Keep [] w w' ∧ w'.heap.size = w.heap.size + 2 := by
  have hn := noBufio
  have hmk : ∀ w : World, (Instr.makeSlice 24 (.int .i64 4096) (.int .i64 4096)).run Tryd.prog w = .ok (.slice (some ⟨w.heap.size, 0, none⟩) 4096 4096) (w.alloc (.cells (madeCells #[.int .u8 0] 4096) 5)) := run_make_row' (P := Tryd.prog) 24 5 (.int .u8 0) 1 Tryd.underlying24 info5 rfl .i64 .i64 4096 (by omega) (by omega)
  go_enter Tryd.func61, Tryd.ntmps61
  go_wp2
  go_end0
  go_wp2
  go_ret
  refine ⟨rfl, ?_, ?_, ?_, ?_⟩
  · exact (Below.heap_alloc _ _ _ (by simp)).trans (heap_alloc_last w _)
  · have := World.rowIs_made (w.alloc (.cells #[.slice (some ⟨w.heap.size + 1, 0, none⟩) 4096 4096, .iface 55 (.pointer (some ⟨r, 0, none⟩)), .int .i64 0, .int .i64 0, .nilIface, .int .i64 (-1), .int .i64 (-1)] 74 (0, 0))) (.int .u8 0) 4096 5
    simpa using this
  · exact ((Keep.refl [] w).alloc _).alloc _
  · simp

set_option maxRecDepth 100000 in
theorem respNewReader (r : Nat) (w : World) :
    Calls Tryd.prog 35 #[.iface 55 (.pointer (some ⟨r, 0, none⟩))] w fun e w' => e = .returned (.pointer (some ⟨w.heap.size + 2, 0, none⟩)) ∧
      w'.heap[w.heap.size]? = some (.cells #[.slice (some ⟨w.heap.size + 1, 0, none⟩) 4096 4096, .iface 55 (.pointer (some ⟨r, 0, none⟩)), .int .i64 0, .int .i64 0, .nilIface, .int .i64 (-1), .int .i64 (-1)] 74 (0, 0)) ∧
      w'.rowIs (w.heap.size + 1) 5 4096 (fun _ => .int .u8 0) ∧ w'.heap[w.heap.size + 2]? = some (.cells #[.pointer (some ⟨w.heap.size, 0, none⟩), .slice none 0 0] 61 (0, 0)) ∧ Keep [] w w' ∧ w'.heap.size = w.heap.size + 3 := by
  have h45 : Calls Tryd.prog 45 #[.iface 55 (.pointer (some ⟨r, 0, none⟩))] w fun e w' => e = .returned (.pointer (some ⟨w.heap.size, 0, none⟩)) ∧
      w'.heap[w.heap.size]? = some (.cells #[.slice (some ⟨w.heap.size + 1, 0, none⟩) 4096 4096, .iface 55 (.pointer (some ⟨r, 0, none⟩)), .int .i64 0, .int .i64 0, .nilIface, .int .i64 (-1), .int .i64 (-1)] 74 (0, 0)) ∧
      w'.rowIs (w.heap.size + 1) 5 4096 (fun _ => .int .u8 0) ∧ Keep [] w w' ∧ w'.heap.size = w.heap.size + 2 := by
    go_enter Tryd.func45, Tryd.ntmps45
    go_wp2_with fail
    refine (bnewReader r w).mono ?_
    rintro e w1 ⟨rfl, hh⟩
    have H : Hid _ := hh
    clear hh
    go_wp2_with fail
    go_ret
    exact ⟨rfl, H.out⟩
  go_enter Tryd.func35, Tryd.ntmps35
  go_wp2_with fail
  refine h45.mono ?_
  rintro e w1 ⟨rfl, hh⟩
  have H : Hid (w1.heap[w.heap.size]? = some (.cells #[.slice (some ⟨w.heap.size + 1, 0, none⟩) 4096 4096, .iface 55 (.pointer (some ⟨r, 0, none⟩)), .int .i64 0, .int .i64 0, .nilIface, .int .i64 (-1), .int .i64 (-1)] 74 (0, 0)) ∧ w1.rowIs (w.heap.size + 1) 5 4096 (fun _ => .int .u8 0) ∧ Keep [] w w1 ∧ w1.heap.size = w.heap.size + 2) := hh
  clear hh h45
  go_wp2_with fail
  go_ret
  obtain ⟨h1, h2, h3, h4⟩ := H.out
  refine ⟨by rw [← h4]; rfl, (Below.heap_alloc _ _ _ (lt_blk h1)).trans h1, ((Keep.refl [] w1).alloc _).rowIs h2 (by simp), by rw [← h4]; exact heap_alloc_last w1 _, h3.alloc _, by simp [h4]⟩

/-- The resp.Reader at block x over the reader L: p bytes are handed out; no long line waits. -/
structure Rdr (L : Lay) (x : Nat) (w : World) (p : Nat) : Prop where
  rd : Rd L w p
  blk : w.heap[x]? = some (.cells #[.pointer (some ⟨L.bb, 0, none⟩), .slice none 0 0] 61 (0, 0))
  nx : x ≠ L.bb ∧ x ≠ L.bf ∧ x ≠ L.rb ∧ x ≠ L.sb
  hx : L.B ≤ x

theorem Rdr.keep {L : Lay} {x : Nat} {w w' : World} {p : Nat} {O : List Nat} (h : Rdr L x w p) (hk : Keep O w w') (hO : ∀ y ∈ O, (y ≠ L.bb ∧ y ≠ L.bf ∧ y ≠ L.rb ∧ y ≠ L.sb) ∧ y ≠ x) : Rdr L x w' p :=
  ⟨h.rd.keep hk fun y hy => (hO y hy).1, (hk.block x (lt_blk h.blk) fun hm => (hO x hm).2 rfl).trans h.blk, h.nx, h.hx⟩

/-- .. behind a turn of the reader's own. -/
theorem Rdr.turn {L : Lay} {x : Nat} {w w' : World} {p q : Nat} {O : List Nat} (h : Rdr L x w p) (hr : Rd L w' q) (hk : Keep O w w') (hO : x ∉ O) : Rdr L x w' q :=
  ⟨hr, (hk.block x (lt_blk h.blk) hO).trans h.blk, h.nx, h.hx⟩

theorem Rdr.own {L : Lay} {x : Nat} {w : World} {p : Nat} (h : Rdr L x w p) : x ∉ L.own := by simp [Lay.own, h.nx]

set_option maxRecDepth 100000 in
theorem newReader (L : Lay) (w : World) (hB : L.B ≤ w.heap.size) (hrb : L.rb = w.heap.size) (hbb : L.bb = w.heap.size + 1) (hbf : L.bf = w.heap.size + 2) (hs : Src L w) (hcap : L.n ≤ L.scap) (hbig : L.n ≤ 1152921504606846976) (hlen : L.src.length = L.n) (hr : ∀ j : Nat, 0 ≤ L.src.getD j 0 ∧ L.src.getD j 0 < 256) :
    Calls Tryd.prog 19 #[.slice (some ⟨L.sb, L.so, none⟩) L.n L.scap] w fun e w' => e = .returned (.pointer (some ⟨w.heap.size + 3, 0, none⟩)) ∧ Rdr L (w.heap.size + 3) w' 0 ∧ Keep [] w w' ∧ w'.heap.size = w.heap.size + 4 := by
  have HH : Hid (L.B ≤ w.heap.size ∧ L.rb = w.heap.size ∧ L.bb = w.heap.size + 1 ∧ L.bf = w.heap.size + 2 ∧ Src L w ∧ L.n ≤ L.scap ∧ L.n ≤ 1152921504606846976 ∧ L.src.length = L.n ∧ ∀ j : Nat, 0 ≤ L.src.getD j 0 ∧ L.src.getD j 0 < 256) := ⟨hB, hrb, hbb, hbf, hs, hcap, hbig, hlen, hr⟩
  clear hB hrb hbb hbf hs hcap hbig hlen hr
  go_enter Tryd.func19, Tryd.ntmps19
  go_wp2_with fail
  refine (bytesNewReader _ _ _ _).mono ?_
  rintro e w1 ⟨rfl, h1, hk1, hs1⟩
  have H1 : Hid (w1.heap[w.heap.size]? = some (.cells #[.slice (some ⟨L.sb, L.so, none⟩) L.n L.scap, .int .i64 0, .int .i64 (-1)] 72 (0, 0)) ∧ Keep [] w w1 ∧ w1.heap.size = w.heap.size + 1) := ⟨h1, hk1, hs1⟩
  clear h1 hk1 hs1
  go_wp2_with fail
  refine (respNewReader _ _).mono ?_
  rintro e w2 ⟨rfl, h2, h3, h4, hk2, hs2⟩
  have H2 : Hid (w2.heap[w1.heap.size]? = some (.cells #[.slice (some ⟨w1.heap.size + 1, 0, none⟩) 4096 4096, .iface 55 (.pointer (some ⟨w.heap.size, 0, none⟩)), .int .i64 0, .int .i64 0, .nilIface, .int .i64 (-1), .int .i64 (-1)] 74 (0, 0)) ∧ w2.rowIs (w1.heap.size + 1) 5 4096 (fun _ => .int .u8 0) ∧ w2.heap[w1.heap.size + 2]? = some (.cells #[.pointer (some ⟨w1.heap.size, 0, none⟩), .slice none 0 0] 61 (0, 0)) ∧ Keep [] w1 w2 ∧ w2.heap.size = w1.heap.size + 3) := ⟨h2, h3, h4, hk2, hs2⟩
  clear h2 h3 h4 hk2 hs2
  go_wp2_with fail
  go_ret
  obtain ⟨hB, hrb, hbb, hbf, hs, hcap, hbig, hlen, hr⟩ := HH.out
  obtain ⟨h1, hk1, hs1⟩ := H1.out
  obtain ⟨h2, h3, h4, hk2, hs2⟩ := H2.out
  have hsb := hs.1
  rw [hs1] at h2 h3 h4 hs2
  refine ⟨by rw [hs1]; rfl, ⟨⟨0, 0, ⟨⟨by omega, by omega, by omega, by omega, by omega, by omega, by omega, by omega, by omega, hcap, hbig, hlen, hr⟩, Nat.le_refl _, by omega, by omega, (hs.keep hk1 (by simp)).keep hk2 (by simp), ⟨-1, ?_⟩, ⟨-1, -1, ?_⟩, ⟨_, by rw [hbf]; exact h3, fun i h1 h2 => by omega⟩⟩⟩, ?_, ⟨by omega, by omega, by omega, by omega⟩, by omega⟩, hk1.then hk2, by omega⟩
  · rw [hrb, hk2.block _ (lt_blk h1) (by simp), h1]; rfl
  · rw [hbb, h2, hbf, hrb]; rfl
  · rw [hbb]; exact h4
end Go.Proofs.Qxb6616140aDoor
