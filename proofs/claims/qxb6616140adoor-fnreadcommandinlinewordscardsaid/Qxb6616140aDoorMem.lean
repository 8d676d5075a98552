/- Memory, of no program: what a call leaves as it was ('Keep'), and copy into a row told by a function. -/
import Derived.WalkKit
import Derived.Laws.CopyOwn
import Derived.Deep.OwnRows
import Derived.WalkSmall
namespace Go.Proofs.Qxb6616140aDoor
open Go.RowKit

/-- Of what was there, only blocks in O may have turned. -/
structure Keep (O : List Nat) (w w' : World) : Prop where
  os : w'.os = w.os
  tape : w'.tape = w.tape
  output : w'.output = w.output
  size : w.heap.size ≤ w'.heap.size
  block : ∀ k, k < w.heap.size → k ∉ O → w'.heap[k]? = w.heap[k]?

theorem Keep.refl (O : List Nat) (w : World) : Keep O w w := ⟨rfl, rfl, rfl, Nat.le_refl _, fun _ _ _ => rfl⟩

theorem Keep.trans {O O' : List Nat} {a b c : World} (h : Keep O a b) (k : Keep O' b c) (hO : ∀ x ∈ O', x ∈ O ∨ a.heap.size ≤ x) : Keep O a c :=
  ⟨k.os.trans h.os, k.tape.trans h.tape, k.output.trans h.output, Nat.le_trans h.size k.size, fun i hi hn =>
    (k.block i (Nat.lt_of_lt_of_le hi h.size) (fun hm => by rcases hO i hm with h1 | h1; exact hn h1; omega)).trans (h.block i hi hn)⟩

theorem Keep.then {O : List Nat} {a b c : World} (h : Keep O a b) (k : Keep O b c) : Keep O a c := h.trans k fun _ hx => .inl hx

theorem Keep.mono {O O' : List Nat} {a b : World} (h : Keep O a b) (hO : ∀ x ∈ O, x ∈ O') : Keep O' a b :=
  ⟨h.os, h.tape, h.output, h.size, fun i hi hn => h.block i hi fun hm => hn (hO i hm)⟩

theorem Keep.drew {O : List Nat} {a b : World} (h : Keep O a b) : Keep O a b.drew := ⟨h.os, h.tape, h.output, h.size, h.block⟩
theorem Keep.drewN {O : List Nat} {a b : World} (h : Keep O a b) (n : Nat) : Keep O a (b.drewN n) := ⟨h.os, h.tape, h.output, h.size, h.block⟩

theorem Keep.of_drew {O : List Nat} {a b : World} (h : Keep O a.drew b) : Keep O a b := ⟨h.os, h.tape, h.output, h.size, h.block⟩
theorem Keep.of_drewN {O : List Nat} {a b : World} {n : Nat} (h : Keep O (a.drewN n) b) : Keep O a b := ⟨h.os, h.tape, h.output, h.size, h.block⟩

theorem Keep.alloc {O : List Nat} {a b : World} (h : Keep O a b) (o : Obj) : Keep O a (b.alloc o) :=
  h.trans (O' := []) ⟨rfl, rfl, rfl, by simp, fun k hk _ => Below.heap_alloc _ _ _ hk⟩ (fun _ hx => by cases hx)

theorem Keep.setCell {O : List Nat} {a b : World} (h : Keep O a b) {p : Addr} (hp : p.block ∈ O ∨ a.heap.size ≤ p.block) (u : Value) : Keep O a (b.setCell p u) :=
  h.trans (O' := [p.block]) ⟨rfl, rfl, rfl, by simp [World.setCell], fun k _ hn => Below.heap_setCell _ _ _ _ (by simpa using hn)⟩ (fun x hx => by simp at hx; subst hx; exact hp)

theorem Keep.of_below {w w' : World} (h : Below w.heap.size w w') (O : List Nat) : Keep O w w' := ⟨h.os, h.tape, h.output, h.size, fun k hk _ => h.block k hk⟩

theorem Keep.of_grown {w w' : World} {row : Option Nat} (h : w.grownBy w' row) : Keep row.toList w w' :=
  ⟨h.os, h.tape, h.output, h.size, fun k hk hn => h.block k hk (fun e => hn (by rw [← e]; simp))⟩

theorem Keep.below {O : List Nat} {w w' : World} {B : Nat} (h : Keep O w w') (hB : B ≤ w.heap.size) (hO : ∀ x ∈ O, B ≤ x) : Below B w w' :=
  ⟨h.os, h.tape, h.output, h.size, fun k hk => h.block k (by omega) fun hm => by have := hO k hm; omega⟩

theorem Keep.cell {O : List Nat} {w w' : World} (h : Keep O w w') {p : Addr} (hp : p.block < w.heap.size) (hn : p.block ∉ O) : w'.cell? p = w.cell? p :=
  World.cell?_of_block (w := w) (h.block _ hp hn)
theorem Keep.frozen {O : List Nat} {w w' : World} (h : Keep O w w') {p : Addr} (hp : p.block < w.heap.size) (hn : p.block ∉ O) : w'.frozen? p = w.frozen? p :=
  World.frozen?_of_block (w := w) (h.block _ hp hn)
theorem Keep.rowIs {O : List Nat} {w w' : World} (h : Keep O w w') {b : Nat} {t : TypeId} {n : Nat} {f : Nat → Value} (hr : w.rowIs b t n f) (hn : b ∉ O) : w'.rowIs b t n f :=
  hr.of_block (h.block b hr.lt hn)

theorem lt_of_cell {w : World} {p : Addr} {v : Value} (h : w.cell? p = some v) : p.block < w.heap.size := by
  by_cases hb : p.block < w.heap.size
  · exact hb
  · simp only [World.cell?] at h
    rw [Array.getElem?_eq_none (by omega)] at h
    simp at h

theorem rowIs_setRow {w : World} {g : Nat} {t : TypeId} {N : Nat} {f : Nat → Value} (hrow : w.rowIs g t N f) (off c : Nat) (hfit : off + c ≤ N) (src : Nat → Value) (cur : Array Value) (hg : w.heap[g]? = some (.cells cur t (0, 0))) :
    (w.setRow g (cur.toList.take off ++ ((List.range c).map src ++ cur.toList.drop (off + ((List.range c).map src).length))).toArray).rowIs g t N (fun j => if off ≤ j ∧ j < off + c then src (j - off) else f j) := by
  obtain ⟨cur', hg', hn, hc⟩ := hrow
  rw [hg] at hg'
  obtain rfl : cur = cur' := by simpa using hg'
  have hlen : cur.toList.length = N := by simpa using hn
  refine ⟨_, setRow_heap w g cur _ t _ hg, ?_, fun i hi => ?_⟩
  · simp; omega
  · have hci := hc i hi
    rw [List.getElem?_toArray]
    show _ = some (if off ≤ i ∧ i < off + c then src (i - off) else f i)
    by_cases h1 : i < off
    · rw [if_neg (by omega), List.getElem?_append_left (by simp; omega), List.getElem?_take_of_lt h1]
      simpa using hci
    · rw [List.getElem?_append_right (by simp; omega)]
      have e1 : (List.take off cur.toList).length = off := by simp; omega
      rw [e1]
      by_cases h2 : i < off + c
      · rw [if_pos ⟨by omega, h2⟩, List.getElem?_append_left (by simp; omega), List.getElem?_map, List.getElem?_range (by omega)]
        rfl
      · rw [if_neg (by omega), List.getElem?_append_right (by simp; omega), List.getElem?_drop]
        have e2 : off + (List.map src (List.range c)).length + (i - off - (List.map src (List.range c)).length) = i := by simp; omega
        rw [e2]
        simpa using hci

theorem keep_setRow (w : World) (g : Nat) (cs : Array Value) : Keep [g] w (w.setRow g cs) :=
  ⟨rfl, rfl, rfl, by simp [World.setRow], fun k _ hn => setRow_other w g k cs (by simpa using hn)⟩

/-- copy AS ONE STEP OF A REGION THAT DRAWS, dst in a row told by a function. -/
theorem step_copy_fn {P : Program} {ops : Array Oper} {o : Oper} {a : Act} {w : World} {K : Act → World → Prop} {Q : Exit → Act → World → Prop} {E : Prop} (hgd : o.guard = none) (d s : Operand) (dT sT : TypeId)
    (ho : o.op = .call { callee := .builtin .copy, args := #[d, s], argTypes := #[dT, sT] }) (elem : TypeId) (hu : P.underlying dT = some (.slice elem)) (hsz : (P.info? elem).map (·.size) = some 1)
    (dp sp : Option Addr) (dLen dCap sLen sCap : Nat) (hd : a.eval d = .slice dp dLen dCap) (hs : a.eval s = .slice sp sLen sCap)
    (g off N : Nat) (t : TypeId) (f : Nat → Value) (hrow : w.rowIs g t N f) (c : Nat) (hc : c = Nat.min sLen dLen) (src : Nat → Value)
    (hpos : 0 < c → dp = some ⟨g, off, none⟩ ∧ ∃ ad, sp = some ad ∧ ∀ j, j < c → w.cell? (ad.add j) = some (src j)) (hfit : off + c ≤ N) (h1 : ∀ j, (src j).oneCell' = true)
    (h : ∀ w', w'.rowIs g t N (fun j => if off ≤ j ∧ j < off + c then src (j - off) else f j) → Keep [g] w w' → w'.heap.size = w.heap.size → K (a.put o.dst (goInt c)) w') :
    if Region.wanted o (yielded ops a.tmps) = true then Oper.wp P o a w K Q else E := by
  have hw : Region.wanted o (yielded ops a.tmps) = true := by simp [Region.wanted, hgd]
  rw [if_pos hw]
  by_cases h0 : c = 0
  · subst h0
    have hrun := run_copy_none (P := P) w dT sT o.type elem dp sp dLen dCap sLen sCap hu hsz hc.symm
    unfold Oper.wp
    simp [execOp, ho, resolve, invoke, builtin, hd, hs, hrun, Result.andThen]
    exact h w (hrow.congr fun i hi => by rw [if_neg (by omega)]) (Keep.refl _ _) rfl
  · obtain ⟨rfl, ad, rfl, hsrc⟩ := hpos (by omega)
    obtain ⟨cur, hg, hn, hcur⟩ := hrow
    have hlen : ((List.range c).map src).length = c := by simp
    have hrun := run_copy_row (P := P) w dT sT o.type elem g off dLen dCap ad sLen sCap cur t ((List.range c).map src) hu hsz hg (by rw [hlen]; exact hc)
      (fun j v hv => by
        rw [List.getElem?_map] at hv
        by_cases hj : j < c
        · rw [List.getElem?_range hj] at hv
          simp at hv
          subst hv
          exact hsrc j hj
        · rw [List.getElem?_eq_none (by simp; omega)] at hv
          simp at hv) (by rw [hlen]; omega) (fun v hv => by
        obtain ⟨j, _, rfl⟩ := List.mem_map.1 hv
        exact h1 j)
    unfold Oper.wp
    simp [execOp, ho, resolve, invoke, builtin, hd, hs, hrun, Result.andThen]
    have hfin := h _ (rowIs_setRow ⟨cur, hg, hn, hcur⟩ off c hfit src cur hg) (keep_setRow _ _ _) (by simp [World.setRow])
    simpa [Oper.upon_value] using hfin

end Go.Proofs.Qxb6616140aDoor
