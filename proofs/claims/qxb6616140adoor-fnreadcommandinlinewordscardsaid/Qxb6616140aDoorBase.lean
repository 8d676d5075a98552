/- Closed facts of this program; the sentinels ('Env'); the reader in memory ('Rd'). -/
import Derived.Test.Qxb6616140aDoorRows
import Derived.Test.Qxb6616140aDoorMem
import Derived.ProofKit
import Derived.Deep.QuietTactic
import Derived.BigQuiet
import Derived.Deep.RegionHeld3
import Derived.WalkSpells
import Derived.WalkLawsBesides
import Derived.Deep.LoopGhost
namespace Go.Proofs.Qxb6616140aDoor
open Go.RowKit

theorem info5 : (Tryd.prog.info? 5).map (fun i => (i.zero, i.size, i.bytes)) = some (some (.int .u8 0), 1, 1) := by kernel_rfl
theorem size5 : (Tryd.prog.info? 5).map (·.size) = some 1 := by kernel_rfl
theorem info24 : (Tryd.prog.info? 24).map (fun i => (i.zero, i.size, i.bytes)) = some (some (.slice none 0 0), 1, 24) := by kernel_rfl

/-! ### A block known whole -/
theorem cell_blk {w : World} {b : Nat} {cs : Array Value} {t : TypeId} (h : w.heap[b]? = some (.cells cs t (0, 0))) (i : Nat) {v : Value} (hi : cs[i]? = some v) : w.cell? ⟨b, i, none⟩ = some v := by
  simp [World.cell?, h, hi]
theorem cells7 {w : World} {b : Nat} {t : TypeId} {v0 v1 v2 v3 v4 v5 v6 : Value} (h : w.heap[b]? = some (.cells #[v0, v1, v2, v3, v4, v5, v6] t (0, 0))) :
    w.cell? ⟨b, 0, none⟩ = some v0 ∧ w.cell? ⟨b, 1, none⟩ = some v1 ∧ w.cell? ⟨b, 2, none⟩ = some v2 ∧ w.cell? ⟨b, 3, none⟩ = some v3 ∧ w.cell? ⟨b, 4, none⟩ = some v4 ∧ w.cell? ⟨b, 5, none⟩ = some v5 ∧ w.cell? ⟨b, 6, none⟩ = some v6 :=
  ⟨cell_blk h 0 rfl, cell_blk h 1 rfl, cell_blk h 2 rfl, cell_blk h 3 rfl, cell_blk h 4 rfl, cell_blk h 5 rfl, cell_blk h 6 rfl⟩
theorem cells3 {w : World} {b : Nat} {t : TypeId} {v0 v1 v2 : Value} (h : w.heap[b]? = some (.cells #[v0, v1, v2] t (0, 0))) :
    w.cell? ⟨b, 0, none⟩ = some v0 ∧ w.cell? ⟨b, 1, none⟩ = some v1 ∧ w.cell? ⟨b, 2, none⟩ = some v2 :=
  ⟨cell_blk h 0 rfl, cell_blk h 1 rfl, cell_blk h 2 rfl⟩
theorem cells2 {w : World} {b : Nat} {t : TypeId} {v0 v1 : Value} (h : w.heap[b]? = some (.cells #[v0, v1] t (0, 0))) :
    w.cell? ⟨b, 0, none⟩ = some v0 ∧ w.cell? ⟨b, 1, none⟩ = some v1 :=
  ⟨cell_blk h 0 rfl, cell_blk h 1 rfl⟩
theorem frozen_blk {w : World} {b : Nat} {cs : Array Value} {t : TypeId} (h : w.heap[b]? = some (.cells cs t (0, 0))) (i : Nat) : w.frozen? ⟨b, i, none⟩ = false := by
  simp [World.frozen?, h]
theorem lt_blk {w : World} {b : Nat} {o : Obj} (h : w.heap[b]? = some o) : b < w.heap.size := (Array.getElem?_eq_some_iff.1 h).1
theorem blk_setCell {w : World} {b : Nat} {cs : Array Value} {t : TypeId} (h : w.heap[b]? = some (.cells cs t (0, 0))) (i : Nat) (v : Value) : (w.setCell ⟨b, i, none⟩ v).heap[b]? = some (.cells (cs.setIfInBounds i v) t (0, 0)) := by
  simp [World.setCell, Array.getElem?_modify, h]
theorem blk_setCell_ne {w : World} {b : Nat} {a : Addr} (hne : b ≠ a.block) (v : Value) : (w.setCell a v).heap[b]? = w.heap[b]? := Below.heap_setCell _ _ _ _ hne
theorem blk_drewN {w : World} {b : Nat} (n : Nat) : (w.drewN n).heap[b]? = w.heap[b]? := rfl

/-! ### The sentinels -/
/-- io.EOF, io.ErrUnexpectedEOF, bufio.ErrBufferFull: three pointers of errors.New's make, below block B. -/
structure Env (B : Nat) (e0 e1 e3 : Addr) (w : World) : Prop where
  hB : 3 < B
  g0 : w.cell? ⟨0, 0, none⟩ = some (.iface 126 (.pointer (some e0)))
  g1 : w.cell? ⟨1, 0, none⟩ = some (.iface 126 (.pointer (some e1)))
  g3 : w.cell? ⟨3, 0, none⟩ = some (.iface 126 (.pointer (some e3)))
  n01 : e0 ≠ e1
  n03 : e0 ≠ e3
  l0 : e0.block < B
  l1 : e1.block < B
  l3 : e3.block < B
  b0 : ∃ c t, w.heap[e0.block]? = some (.cells c t (0, 0))
  b1 : ∃ c t, w.heap[e1.block]? = some (.cells c t (0, 0))
  b3 : ∃ c t, w.heap[e3.block]? = some (.cells c t (0, 0))

theorem Env.below {B : Nat} {e0 e1 e3 : Addr} {w w' : World} (h : Env B e0 e1 e3 w) (hb : Below B w w') : Env B e0 e1 e3 w' where
  hB := h.hB
  g0 := (hb.cell (p := ⟨0, 0, none⟩) (by have := h.hB; show 0 < B; omega)).trans h.g0
  g1 := (hb.cell (p := ⟨1, 0, none⟩) (by have := h.hB; show 1 < B; omega)).trans h.g1
  g3 := (hb.cell (p := ⟨3, 0, none⟩) h.hB).trans h.g3
  n01 := h.n01
  n03 := h.n03
  l0 := h.l0
  l1 := h.l1
  l3 := h.l3
  b0 := by obtain ⟨c, t, e⟩ := h.b0; exact ⟨c, t, (hb.block _ h.l0).trans e⟩
  b1 := by obtain ⟨c, t, e⟩ := h.b1; exact ⟨c, t, (hb.block _ h.l1).trans e⟩
  b3 := by obtain ⟨c, t, e⟩ := h.b3; exact ⟨c, t, (hb.block _ h.l3).trans e⟩

theorem Env.keep {B : Nat} {e0 e1 e3 : Addr} {w w' : World} {O : List Nat} (h : Env B e0 e1 e3 w) (hk : Keep O w w') (hB : B ≤ w.heap.size) (hO : ∀ x ∈ O, B ≤ x) : Env B e0 e1 e3 w' :=
  h.below (hk.below hB hO)

/-! ### The reader in memory -/
/-- Where the reader's parts lie, and what it reads: the source's n bytes. -/
structure Lay where
  B : Nat
  bb : Nat
  bf : Nat
  rb : Nat
  sb : Nat
  so : Nat
  n : Nat
  scap : Nat
  src : List Int

/-- The byte at place j of the source, as a cell. -/
def Lay.at (L : Lay) (j : Nat) : Value := .int .u8 (L.src.getD j 0)

/-- The blocks lie apart; the source is not among the reader's own. -/
structure Apart (L : Lay) : Prop where
  h1 : L.bb ≠ L.bf
  h2 : L.bb ≠ L.rb
  h3 : L.bf ≠ L.rb
  s1 : L.sb ≠ L.bb
  s2 : L.sb ≠ L.bf
  s3 : L.sb ≠ L.rb
  B1 : L.B ≤ L.bb
  B2 : L.B ≤ L.bf
  B3 : L.B ≤ L.rb
  hcap : L.n ≤ L.scap
  hbig : L.n ≤ 1152921504606846976
  hlen : L.src.length = L.n
  hr : ∀ j : Nat, 0 ≤ L.src.getD j 0 ∧ L.src.getD j 0 < 256

/-- The source's cells. -/
def Src (L : Lay) (w : World) : Prop := L.sb < w.heap.size ∧ ∀ j, j < L.n → w.cell? ⟨L.sb, L.so + j, none⟩ = some (L.at j)

/-- The bytes.Reader: it stands at place 'pos'. -/
def BRd (L : Lay) (w : World) (pos : Nat) : Prop :=
  ∃ pr : Int, w.heap[L.rb]? = some (.cells #[.slice (some ⟨L.sb, L.so, none⟩) L.n L.scap, .int .i64 pos, .int .i64 pr] 72 (0, 0))

/-- The bufio.Reader: p bytes have been handed out; buf[r:wi] holds the next ones; its error cell. -/
structure RdAt (L : Lay) (w : World) (p r wi : Nat) (err : Value) : Prop where
  ap : Apart L
  hr : r ≤ wi
  hw : wi ≤ 4096
  hp : p + (wi - r) ≤ L.n
  src : Src L w
  brd : BRd L w (p + (wi - r))
  blk : ∃ lb lr : Int, w.heap[L.bb]? = some (.cells #[.slice (some ⟨L.bf, 0, none⟩) 4096 4096, .iface 55 (.pointer (some ⟨L.rb, 0, none⟩)), .int .i64 r, .int .i64 wi, err, .int .i64 lb, .int .i64 lr] 74 (0, 0))
  buf : ∃ f : Nat → Value, w.rowIs L.bf 5 4096 f ∧ ∀ i, r ≤ i → i < wi → f i = L.at (p + (i - r))

/-- The reader between two calls: no error waits. -/
def Rd (L : Lay) (w : World) (p : Nat) : Prop := ∃ r wi, RdAt L w p r wi .nilIface

/-- What a call on the reader may turn. -/
def Lay.own (L : Lay) : List Nat := [L.bb, L.bf, L.rb]

theorem Src.keep {L : Lay} {w w' : World} {O : List Nat} (h : Src L w) (hk : Keep O w w') (hO : L.sb ∉ O) : Src L w' :=
  ⟨Nat.lt_of_lt_of_le h.1 hk.size, fun j hj => (hk.cell (p := ⟨L.sb, L.so + j, none⟩) h.1 hO).trans (h.2 j hj)⟩

theorem RdAt.keep {L : Lay} {w w' : World} {p r wi : Nat} {err : Value} {O : List Nat} (h : RdAt L w p r wi err) (hk : Keep O w w') (hO : ∀ x ∈ O, x ≠ L.bb ∧ x ≠ L.bf ∧ x ≠ L.rb ∧ x ≠ L.sb) : RdAt L w' p r wi err where
  ap := h.ap
  hr := h.hr
  hw := h.hw
  hp := h.hp
  src := h.src.keep hk (fun hm => (hO _ hm).2.2.2 rfl)
  brd := by obtain ⟨pr, e⟩ := h.brd; exact ⟨pr, (hk.block _ (lt_blk e) (fun hm => (hO _ hm).2.2.1 rfl)).trans e⟩
  blk := by obtain ⟨lb, lr, e⟩ := h.blk; exact ⟨lb, lr, (hk.block _ (lt_blk e) (fun hm => (hO _ hm).1 rfl)).trans e⟩
  buf := by obtain ⟨f, e, hf⟩ := h.buf; exact ⟨f, hk.rowIs e (fun hm => (hO _ hm).2.1 rfl), hf⟩

end Go.Proofs.Qxb6616140aDoor
