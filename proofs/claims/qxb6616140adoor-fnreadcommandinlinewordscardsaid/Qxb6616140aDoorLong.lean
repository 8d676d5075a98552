/- readLine at lines longer than the buffer. -/
import Derived.Test.Qxb6616140aDoorLine
import Derived.Test.Qxb6616140aDoorEnc
import Derived.Test.Qxb6616140aDoorSliceF
namespace Go.Proofs.Qxb6616140aDoor
open Go.RowKit

/-- m bytes of the source from place p on -/
def seg (L : Lay) (p m : Nat) : List Int := (List.range m).map fun j => L.src.getD (p + j) 0

theorem seg_length (L : Lay) (p m : Nat) : (seg L p m).length = m := by simp [seg]

theorem seg_getD (L : Lay) (p m j : Nat) (h : j < m) : (seg L p m).getD j 0 = L.src.getD (p + j) 0 := by
  rw [List.getD, seg, List.getElem?_map, List.getElem?_range h]; rfl

theorem seg_append (L : Lay) (p a b : Nat) : seg L p a ++ seg L (p + a) b = seg L p (a + b) := by
  simp only [seg, List.range_add, List.map_append, List.map_map]
  congr 1
  refine List.map_congr_left fun j _ => ?_
  simp [Nat.add_assoc]

/-- In the midst of a long line: what is gathered is zs, in the reader's own slice v. -/
structure Mid (L : Lay) (x : Nat) (w wr : World) (q : Nat) (v : Value) (zs : List Int) (e0 e1 e3 : Addr) : Prop where
  rd : Rd L wr q
  blk : wr.heap[x]? = some (.cells #[.pointer (some ⟨L.bb, 0, none⟩), v] 61 (0, 0))
  own : Own w.heap.size wr v zs
  keep : Keep (x :: L.own) w wr
  env : Env L.B e0 e1 e3 wr

theorem Rdr.low {L : Lay} {x : Nat} {w : World} {p : Nat} (h : Rdr L x w p) : x < w.heap.size ∧ (∀ y ∈ L.own, y < w.heap.size) ∧ L.sb < w.heap.size := by
  have := h.rd.lts
  exact ⟨lt_blk h.blk, by simp [Lay.own]; omega, this.2.2.2⟩

theorem Mid.start {L : Lay} {x : Nat} {w : World} {p : Nat} {e0 e1 e3 : Addr} (S : Rdr L x w p) (hE : Env L.B e0 e1 e3 w) : Mid L x w w p (.slice none 0 0) [] e0 e1 e3 :=
  ⟨S.rd, S.blk, Own.nil _ _, Keep.refl _ _, hE⟩

theorem Mid.read {L : Lay} {x : Nat} {w wr w2 : World} {p q q' : Nat} {v : Value} {zs : List Int} {e0 e1 e3 : Addr} (M : Mid L x w wr q v zs e0 e1 e3) (S : Rdr L x w p) (hr : Rd L w2 q') (hk : Keep L.own wr w2) : Mid L x w w2 q' v zs e0 e1 e3 where
  rd := hr
  blk := (hk.block x (lt_blk M.blk) S.own).trans M.blk
  own := M.own.keep hk fun k hkk hm => by
    have h1 := M.own.base k (by simp [hkk])
    have h2 := S.low.2.1 k hm
    omega
  keep := M.keep.then (hk.mono fun _ hy => List.mem_cons_of_mem _ hy)
  env := M.env.turn M.rd hk

theorem Mid.store {L : Lay} {x : Nat} {w w2 w3 : World} {p q : Nat} {v v' : Value} {zs zs' : List Int} {e0 e1 e3 : Addr} (M : Mid L x w w2 q v zs e0 e1 e3) (S : Rdr L x w p) (hown : Own w.heap.size w3 v' zs') (hk : Keep v.ownBlock.toList w2 w3) :
    w3.heap[x]? = some (.cells #[.pointer (some ⟨L.bb, 0, none⟩), v] 61 (0, 0)) ∧ Mid L x w (w3.setCell ⟨x, 1, none⟩ v') q v' zs' e0 e1 e3 := by
  obtain ⟨hx, hlo, hsb⟩ := S.low
  have hbase := M.own.base
  have hxn : x ∉ v.ownBlock.toList := fun hm => by have := hbase x hm; omega
  have hb3 : w3.heap[x]? = some (.cells #[.pointer (some ⟨L.bb, 0, none⟩), v] 61 (0, 0)) := (hk.block x (lt_blk M.blk) hxn).trans M.blk
  have hks : Keep [x] w3 (w3.setCell ⟨x, 1, none⟩ v') := (Keep.refl _ w3).setCell (.inl (by simp)) _
  have hB : L.B ≤ w.heap.size := by have := S.rd.ap.B1; have := S.rd.lts.1; omega
  have hB2 : w.heap.size ≤ w2.heap.size := M.keep.size
  have hlo' := hlo
  simp [Lay.own] at hlo'
  refine ⟨hb3, ⟨(M.rd.keep hk fun y hy => ?_).keep hks fun y hy => ?_, blk_setCell hb3 1 v', hown.keep hks fun k hkk hm => ?_, (M.keep.trans hk fun y hy => .inr (hbase y hy)).then (hks.mono (by simp)), ?_⟩⟩
  · have := hbase y hy
    refine ⟨by omega, by omega, by omega, by omega⟩
  · simp at hy; subst hy; exact S.nx
  · have := hown.base k (by simp [hkk]); simp at hm; omega
  · exact (M.env.keep hk (by omega) (fun y hy => by have := hbase y hy; omega)).keep hks (by have := hk.size; omega) (fun y hy => by simp at hy; subst hy; exact S.hx)

theorem cells_off {w : World} {b o m : Nat} {ys : List Int} (h : ∀ j, j < m → w.cell? ⟨b, o + j, none⟩ = some (.int .u8 (ys.getD j 0))) (ad : Addr) (had : some (⟨b, o, none⟩ : Addr) = some ad) (j : Nat) (hj : j < m) : w.cell? (ad.add j) = some (.int .u8 (ys.getD j 0)) := by
  obtain rfl := Option.some.inj had
  rw [WideShapes.add_plain]
  exact h j hj

theorem hideL {p : Prop} (h : p) : Hid p := h

theorem own_form {B : Nat} {w : World} {v : Value} {zs : List Int} (h : Own B w v zs) (m : Nat) (hm : zs.length = m + 1) : ∃ g l cap, v = .slice (some ⟨g, 0, none⟩) l cap := by
  obtain ⟨g, cap, _, hv, _⟩ := h.row (by intro e; rw [e] at hm; cases hm)
  exact ⟨g, _, cap, hv⟩

def LongAns (L : Lay) (x : Nat) (w : World) (p : Nat) (e : Ending) (w' : World) : Prop :=
  ∃ b o cap, e = .returned (.tuple #[.slice (some ⟨b, o, none⟩) (L.n - p) cap, .nilIface]) ∧ L.n - p ≤ cap ∧ (∀ j, j < L.n - p → w'.cell? ⟨b, o + j, none⟩ = some (L.at (p + j))) ∧ Rd L w' L.n ∧ w'.cell? ⟨x, 0, none⟩ = some (.pointer (some ⟨L.bb, 0, none⟩)) ∧ Keep (x :: L.own) w w'

set_option maxRecDepth 100000 in
set_option maxHeartbeats 3200000 in
theorem readLine_long (L : Lay) (x : Nat) (w : World) (p : Nat) (e0 e1 e3 : Addr) (msg : Value) (hE : Env L.B e0 e1 e3 w) (h : Rdr L x w p) (hlong : p + 4096 < L.n) (hmax : L.n - p ≤ 65536) (hnl : L.src.getD (L.n - 1) 0 = 10) (hno : ∀ j, p ≤ j → j < L.n - 1 → L.src.getD j 0 ≠ 10) :
    Calls Tryd.prog 48 #[.pointer (some ⟨x, 0, none⟩), msg] w fun e w' => LongAns L x w p e w' := by
  have cx := h.cell
  have S : Hid (Rdr L x w p) := h
  have HM : Hid (Mid L x w w p (.slice none 0 0) [] e0 e1 e3) := Mid.start h hE
  have HNO : Hid (∀ j, p ≤ j → j < L.n - 1 → L.src.getD j 0 ≠ 10) := hno
  have hB := hE.hB
  have g3 := hE.g3
  clear h hE hno
  go_enter Tryd.func48, Tryd.ntmps48
  go_wp2_with fail
  refine (readSlice_full L w p e3 S.out.rd (by omega) (fun j hj => HNO.out (p + j) (by omega) (by omega)) hB g3).mono ?_
  rintro e w2 ⟨rfl, hR2, hc2, hk2, hs2⟩
  have HM2 : Hid (Mid L x w w2 (p + 4096) (.slice none 0 0) [] e0 e1 e3) := HM.out.read S.out hR2 hk2
  have HC2 : Hid (∀ j, j < 4096 → w2.cell? ⟨L.bf, 0 + j, none⟩ = some (.int .u8 ((seg L p 4096).getD j 0))) := fun j hj => by rw [Nat.zero_add, hc2 j hj, seg_getD _ _ _ _ hj]; rfl
  have g3' := HM2.out.env.g3
  have cx2 := cells2 HM2.out.blk
  obtain ⟨cx0, cx1⟩ := cx2
  clear hR2 hc2 hk2 hs2 HM cx g3
  go_wp2_with fail
  refine (is_same e3 w2).mono ?_
  rintro e w2' ⟨rfl, hw⟩
  obtain rfl := hw.symm
  have hsl := seg_length L p 4096
  have hsz2 : w.heap.size ≤ w2.heap.size := HM2.out.keep.size
  go_wp2_with (at_builtin; refine wpList_append_bytes _ rfl (.tmp 27) (.tmp 28) rfl w.heap.size _ [] rfl HM2.out.own _ 4096 4096 (seg L p 4096) rfl hsl (fun h => by cases h) (cells_off HC2.out) (by rw [List.length_nil]; omega) hsz2 ?_; intro v3 w3 hown3 hk3; rw [List.nil_append] at hown3; obtain ⟨gg, ll, cc, hvv⟩ := own_form hown3 4095 hsl; subst hvv; have HM4 := hideL (HM2.out.store S.out hown3 hk3); have z3 := frozen_blk HM4.out.1 1; obtain ⟨d0, d1⟩ := cells2 HM4.out.1; clear hown3 hk3)
  obtain ⟨w4, hw4⟩ : ∃ w4, w4 = w3.setCell ⟨x, 1, none⟩ (.slice (some ⟨gg, 0, none⟩) ll cc) := ⟨_, rfl⟩
  rw [← hw4] at HM4 ⊢
  clear hw4 z3 d0 d1 g3' cx0 cx1 HC2 HM2 hsl
  go_loopg [7] (L.n - (p + 4096)) (fun gk s7 wr => ∃ (q : Nat) (v : Value), Mid L x w wr q v (seg L p (q - p)) e0 e1 e3 ∧ p + 4096 ≤ q ∧ q ≤ L.n ∧ gk = L.n - q ∧ ((s7 = .iface 126 (.pointer (some e3)) ∧ q < L.n) ∨ (s7 = .nilIface ∧ q = L.n)))
  case atStart => exact ⟨p + 4096, _, by rw [Nat.add_sub_cancel_left]; exact HM4.out.2, Nat.le_refl _, by omega, rfl, .inl ⟨rfl, hlong⟩⟩
  case round =>
    clear HM4
    obtain ⟨q, v, hM, hq1, hq2, hgk, hs⟩ := hrel
    have HMr : Hid (Mid L x w wr q v (seg L p (q - p)) e0 e1 e3) := hM
    obtain ⟨k, hk⟩ : ∃ k, k = q - p := ⟨_, rfl⟩
    have HKq : Hid (k = q - p) := hk
    have hkb : k ≤ 65536 := by omega
    have hk0 : 0 < k := by omega
    have hsg : (seg L p (q - p)) ≠ [] := by intro e; have := congrArg List.length e; rw [seg_length] at this; simp at this; omega
    obtain ⟨g, cap, f, hv, hg, hrow, hlc, hcm, hf⟩ := hM.own.row hsg
    rw [seg_length, ← hk] at hv hlc
    have HROW : Hid (wr.rowIs g 5 cap f ∧ k ≤ cap ∧ ∀ j, j < (seg L p (q - p)).length → f j = .int .u8 ((seg L p (q - p)).getD j 0)) := ⟨hrow, hlc, hf⟩
    obtain ⟨cx0, cx1⟩ := cells2 hM.blk
    have g3 := hM.env.g3
    have hszr : w.heap.size ≤ wr.heap.size := hM.keep.size
    have hgk' : L.n - q = gk := hgk.symm
    have HGK : Hid (gk = L.n - q) := hgk
    clear hM hk hsg hg hrow hlc hcm hf hgk hgk'
    subst hv
    rcases hs with ⟨rfl, hqn⟩ | ⟨rfl, hqn⟩
    · have hkl : (k : Int) ≤ 65536 := by omega
      go_wp2_with fail
      refine (is_same e3 wr).mono ?_
      rintro e wr' ⟨rfl, hw⟩
      obtain rfl := hw.symm
      go_wp2_with fail
      by_cases hfar : q + 4096 < L.n
      · refine (readSlice_full L wr q e3 HMr.out.rd (by omega) (fun j hj => HNO.out (q + j) (by omega) (by omega)) hB g3).mono ?_
        rintro e w2 ⟨rfl, hR2, hc2, hk2, hs2⟩
        have HM2 := hideL (HMr.out.read S.out hR2 hk2)
        have HC2 : Hid (∀ j, j < 4096 → w2.cell? ⟨L.bf, 0 + j, none⟩ = some (.int .u8 ((seg L q 4096).getD j 0))) := fun j hj => by rw [Nat.zero_add, hc2 j hj, seg_getD _ _ _ _ hj]; rfl
        obtain ⟨cy0, cy1⟩ := cells2 HM2.out.blk
        have hsl := seg_length L q 4096
        have hsum : (seg L p (q - p) ++ seg L q 4096).length = q - p + 4095 + 1 := by rw [List.length_append, seg_length, seg_length]
        have hlen : (seg L p (q - p)).length + 4096 ≤ 1073741824 := by rw [seg_length]; omega
        have hsz2 : w.heap.size ≤ w2.heap.size := HM2.out.keep.size
        clear hR2 hc2 hk2 hs2 cx0 cx1 g3 HROW
        go_wp2_with (at_builtin; refine wpList_append_bytes _ rfl (.tmp 55) (.tmp 56) rfl w.heap.size _ (seg L p (q - p)) rfl HM2.out.own _ 4096 4096 (seg L q 4096) rfl hsl (fun h => by cases h) (cells_off HC2.out) hlen hsz2 ?_; intro v3 w3 hown3 hk3; obtain ⟨gg, ll, cc, hvv⟩ := own_form hown3 _ hsum; subst hvv; have HST := hideL (HM2.out.store S.out hown3 hk3); have z3 := frozen_blk HST.out.1 1; obtain ⟨d0, d1⟩ := cells2 HST.out.1; clear hown3 hk3)
        go_roundg (L.n - (q + 4096))
        case measure => rw [HGK.out]; omega
        case rel =>
          refine ⟨q + 4096, .slice (some ⟨gg, 0, none⟩) ll cc, ?_, by omega, by omega, rfl, .inl ⟨rfl, hfar⟩⟩
          have e := seg_append L p (q - p) 4096
          rw [show p + (q - p) = q by omega, show q - p + 4096 = q + 4096 - p by omega] at e
          rw [← e]; exact HST.out.2
      · obtain ⟨i, hi⟩ : ∃ i, i = L.n - q - 1 := ⟨_, rfl⟩
        have HI : Hid (i = L.n - q - 1) := hi
        have hi4 : i < 4096 := by omega
        have hiq : q + i + 1 = L.n := by omega
        refine (readSlice_found L wr q i HMr.out.rd (by omega) hi4 (by rw [show q + i = L.n - 1 by omega]; exact hnl) (fun j hj => HNO.out (q + j) (by omega) (by omega))).mono ?_
        rintro e w2 ⟨o, rfl, ho, hR2, hc2, hk2, hs2⟩
        rw [hiq] at hR2
        have HM2 := hideL (HMr.out.read S.out hR2 hk2)
        have HC2 : Hid (∀ j, j < i + 1 → w2.cell? ⟨L.bf, o + j, none⟩ = some (.int .u8 ((seg L q (i + 1)).getD j 0))) := fun j hj => by rw [hc2 j (by omega), seg_getD _ _ _ _ hj]; rfl
        obtain ⟨cy0, cy1⟩ := cells2 HM2.out.blk
        have hsl := seg_length L q (i + 1)
        have hsum : (seg L p (q - p) ++ seg L q (i + 1)).length = q - p + i + 1 := by rw [List.length_append, seg_length, seg_length]; omega
        have hlen : (seg L p (q - p)).length + (i + 1) ≤ 1073741824 := by rw [seg_length]; omega
        have hsz2 : w.heap.size ≤ w2.heap.size := HM2.out.keep.size
        have HIQ : Hid (q + i + 1 = L.n) := hiq
        clear hR2 hc2 hk2 hs2 cx0 cx1 g3 HROW hi hiq
        go_wp2_with (at_builtin; refine wpList_append_bytes _ rfl (.tmp 55) (.tmp 56) rfl w.heap.size _ (seg L p (q - p)) rfl HM2.out.own _ (i + 1) (4096 - o) (seg L q (i + 1)) rfl hsl (fun h => by cases h) (cells_off HC2.out) hlen hsz2 ?_; intro v3 w3 hown3 hk3; obtain ⟨gg, ll, cc, hvv⟩ := own_form hown3 _ hsum; subst hvv; have HST := hideL (HM2.out.store S.out hown3 hk3); have z3 := frozen_blk HST.out.1 1; obtain ⟨d0, d1⟩ := cells2 HST.out.1; clear hown3 hk3)
        go_roundg 0
        case measure => rw [HGK.out]; omega
        case rel =>
          refine ⟨L.n, .slice (some ⟨gg, 0, none⟩) ll cc, ?_, by omega, by omega, by omega, .inr ⟨rfl, rfl⟩⟩
          have e := seg_append L p (q - p) (i + 1)
          have hh := HIQ.out
          rw [show p + (q - p) = q by omega, show q - p + (i + 1) = L.n - p by omega] at e
          rw [← e]; exact HST.out.2
    · have hkl : ¬ (65536 : Int) < (k : Int) := by omega
      have HQN : Hid (q = L.n) := hqn
      clear hqn
      go_wp2_with fail
      refine (is_nil e3 wr).mono ?_
      rintro e wr' ⟨rfl, hw⟩
      obtain rfl := hw.symm
      go_wp2_with fail
      go_ret2
      have hq := HQN.out
      have hkq := HKq.out
      obtain ⟨h1, h2, h3⟩ := HROW.out
      rw [hq] at hkq
      refine ⟨g, 0, cap, by rw [← hkq]; rfl, by omega, fun j hj => ?_, by rw [← hq]; exact HMr.out.rd, cx0, HMr.out.keep⟩
      have h4 := h3 j (by rw [seg_length, hq]; exact hj)
      rw [Nat.zero_add, h1.cell (i := j) (by omega), h4, seg_getD _ _ _ _ (by rw [hq]; exact hj)]
      rfl

/-- readLine, where the line is the rest of the stream. -/
theorem readLine_all (L : Lay) (x : Nat) (w : World) (p : Nat) (e0 e1 e3 : Addr) (msg : Value) (hE : Env L.B e0 e1 e3 w) (h : Rdr L x w p) (hp : p < L.n) (hmax : L.n - p ≤ 65536) (hnl : L.src.getD (L.n - 1) 0 = 10) (hno : ∀ j, p ≤ j → j < L.n - 1 → L.src.getD j 0 ≠ 10) :
    Calls Tryd.prog 48 #[.pointer (some ⟨x, 0, none⟩), msg] w fun e w' => LongAns L x w p e w' := by
  by_cases hlong : p + 4096 < L.n
  · exact readLine_long L x w p e0 e1 e3 msg hE h hlong hmax hnl hno
  · refine (readLine_found L x w p (L.n - p - 1) e0 e1 e3 msg hE h (by omega) (by omega) (by rw [show p + (L.n - p - 1) = L.n - 1 by omega]; exact hnl) (fun j hj => hno _ (by omega) (by omega))).mono ?_
    rintro e w' ⟨o, rfl, ho, hR, hc, hk, _⟩
    refine ⟨L.bf, o, 4096 - o, by rw [show L.n - p - 1 + 1 = L.n - p by omega], by omega, fun j hj => hc j (by omega), ?_, hR.cell, hk.mono fun _ hy => List.mem_cons_of_mem _ hy⟩
    have := hR.rd
    rwa [show p + (L.n - p - 1) + 1 = L.n by omega] at this
end Go.Proofs.Qxb6616140aDoor
