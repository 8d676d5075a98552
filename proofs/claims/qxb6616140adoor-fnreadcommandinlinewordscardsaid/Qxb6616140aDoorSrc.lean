/- (*bytes.Reader).Read. -/
import Derived.Test.Qxb6616140aDoorBase
namespace Go.Proofs.Qxb6616140aDoor
open Go.RowKit

set_option maxRecDepth 100000 in
set_option maxHeartbeats 400000 in
theorem srcRead_eof (L : Lay) (d : Option Addr) (dl dc : Nat) (w : World) (pos : Nat) (e0 : Addr) (hp : L.n ≤ pos) (hb : BRd L w pos) (g0 : w.cell? ⟨0, 0, none⟩ = some (.iface 126 (.pointer (some e0)))) :
    Calls Tryd.prog 115 #[.pointer (some ⟨L.rb, 0, none⟩), .slice d dl dc] w fun e w' => e = .returned (.tuple #[.int .i64 0, .iface 126 (.pointer (some e0))]) ∧ ∃ k, w' = w.drewN k := by
  obtain ⟨pr, hblk⟩ := hb
  obtain ⟨c0, c1, _⟩ := cells3 hblk
  clear hblk
  have hge : (L.n : Int) ≤ (pos : Int) := by omega
  go_enter Tryd.func115, Tryd.ntmps115
  go_wp2
  go_quiet (fail)
  go_wp2
  go_quiet (fail)
  go_wp2
  go_ret2
  exact ⟨rfl, _, World.drewN_drewN _ _ _⟩

set_option maxRecDepth 100000 in
set_option maxHeartbeats 400000 in
theorem srcRead {t : TypeId} (L : Lay) (ap : Apart L) (g off N dl dc : Nat) (f : Nat → Value) (w : World) (pos c : Nat) (hp : pos < L.n) (hb : BRd L w pos) (hs : Src L w)
    (hrow : w.rowIs g t N f) (hgr : g ≠ L.rb) (hfit : off + dl ≤ N) (hc : c = min (L.n - pos) dl) :
    Calls Tryd.prog 115 #[.pointer (some ⟨L.rb, 0, none⟩), .slice (some ⟨g, off, none⟩) dl dc] w fun e w' => e = .returned (.tuple #[.int .i64 c, .nilIface]) ∧
      w'.rowIs g t N (fun j => if off ≤ j ∧ j < off + c then L.at (pos + (j - off)) else f j) ∧ BRd L w' (pos + c) ∧ Keep [g, L.rb] w w' ∧ w'.heap.size = w.heap.size := by
  obtain ⟨pr, hblk⟩ := hb
  obtain ⟨c0, c1, c2⟩ := cells3 hblk
  have z1 := frozen_blk hblk 1
  have z2 := frozen_blk hblk 2
  have hcap := ap.hcap
  have hbig := ap.hbig
  have hlt : ¬ (L.n : Int) ≤ (pos : Int) := by omega
  have hlt1 : (pos : Int) ≤ (L.n : Int) := by omega
  have hne : ¬ L.scap = pos := by omega
  have HB : Hid (w.heap[L.rb]? = some (.cells #[.slice (some ⟨L.sb, L.so, none⟩) L.n L.scap, .int .i64 pos, .int .i64 pr] 72 (0, 0))) := hblk
  clear hblk
  go_enter Tryd.func115, Tryd.ntmps115
  go_wp2
  go_quiet (fail)
  go_wp2
  obtain ⟨w1, hw1⟩ : ∃ w1, w1 = (w.drewN nq).setCell ⟨L.rb, 2, none⟩ (.int .i64 (-1)) := ⟨_, rfl⟩
  have hblk1 : w1.heap[L.rb]? = some (.cells #[.slice (some ⟨L.sb, L.so, none⟩) L.n L.scap, .int .i64 pos, .int .i64 (-1)] 72 (0, 0)) := by
    rw [hw1]; exact blk_setCell (w := w.drewN nq) HB.out 2 _
  have hk1 : Keep [L.rb] w w1 := by rw [hw1]; exact ((Keep.refl _ w).drewN nq).setCell (.inl (by simp)) _
  have hsz1 : w1.heap.size = w.heap.size := by rw [hw1]; simp
  rw [← hw1]
  clear hw1 c0 c1 c2 z1 z2 HB
  have hrow1 := hk1.rowIs hrow (by simpa using hgr)
  have hs1 := hs.keep hk1 (by simpa using ap.s3)
  obtain ⟨c0, c1, _⟩ := cells3 hblk1
  have HB : Hid (w1.heap[L.rb]? = some (.cells #[.slice (some ⟨L.sb, L.so, none⟩) L.n L.scap, .int .i64 pos, .int .i64 (-1)] 72 (0, 0))) := hblk1
  have HS : Hid (w1.heap.size = w.heap.size) := hsz1
  have HC : Hid (c = min (L.n - pos) dl) := hc
  clear hblk1 hsz1 hc
  have hcn : c = Nat.min (L.n - pos) dl := HC.out
  have HCN : Hid (c = Nat.min (L.n - pos) dl) := hcn
  have hcle : c ≤ dl := by rw [hcn]; exact Nat.min_le_right _ _
  have hcle2 : c ≤ L.n - pos := by rw [hcn]; exact Nat.min_le_left _ _
  clear hcn
  have hcell : ∀ j, j < c → w1.drew.cell? ((⟨L.sb, L.so + pos, none⟩ : Addr).add j) = some (L.at (pos + j)) := fun j hj => by
    rw [WideShapes.add_plain, Nat.add_assoc]; exact hs1.2 (pos + j) (by omega)
  have HCell : Hid (∀ j, j < c → w1.drew.cell? ((⟨L.sb, L.so + pos, none⟩ : Addr).add j) = some (L.at (pos + j))) := hcell
  clear hcell
  have hgr' : L.rb ≠ g := fun h => hgr h.symm
  go_region_held3 (fun w' => w'.cell? ⟨L.rb, 0, none⟩ = some (.slice (some ⟨L.sb, L.so, none⟩) L.n L.scap) ∧ w'.cell? ⟨L.rb, 1, none⟩ = some (.int .i64 pos))
    (first | go_keep | exact ⟨(hk2.cell (p := ⟨L.rb, 0, none⟩) (lt_of_cell c0) (by simpa using hgr')).trans c0, (hk2.cell (p := ⟨L.rb, 1, none⟩) (lt_of_cell c1) (by simpa using hgr')).trans c1⟩)
    ((refine step_copy_fn (by rfl) (.tmp 20) (.tmp 29) 24 24 (by rfl) 5 Tryd.underlying24 size5 _ _ _ _ _ _ (by rfl) (by rfl) g off N t f hrow1 c HCN.out (fun j => L.at (pos + j)) (fun _ => ⟨by rfl, _, by rfl, HCell.out⟩) (by omega) (fun _ => rfl) ?_; intro w2 hrow2 hk2 hsz2))
  have hblk2 : w2.heap[L.rb]? = some (.cells #[.slice (some ⟨L.sb, L.so, none⟩) L.n L.scap, .int .i64 pos, .int .i64 (-1)] 72 (0, 0)) := (hk2.block L.rb (lt_blk (w := w1) HB.out) (by simpa using hgr')).trans HB.out
  obtain ⟨_, d1, _⟩ := cells3 hblk2
  have z1 := frozen_blk hblk2 1
  have HB2 : Hid (w2.heap[L.rb]? = some (.cells #[.slice (some ⟨L.sb, L.so, none⟩) L.n L.scap, .int .i64 pos, .int .i64 (-1)] 72 (0, 0))) := hblk2
  have HS2 : Hid (w2.heap.size = w1.drew.heap.size) := hsz2
  clear hblk2 hsz2
  go_wp2
  go_ret2
  refine ⟨rfl, hrow2.setOther hgr _, ⟨-1, ?_⟩, ?_, ?_⟩
  · exact (blk_setCell HB2.out 1 _).trans (by simp)
  · have hk12 : Keep [g, L.rb] w w2 := (hk1.mono (O' := [g, L.rb]) (by simp)).drew.trans hk2 (by simp)
    exact hk12.setCell (.inl (by simp)) _
  · have h1 := HS.out
    have h2 := HS2.out
    simp at h2 ⊢
    omega
end Go.Proofs.Qxb6616140aDoor
