/- append(b, make([]byte, m)...) and append(out, xs...) over bytes of our own. -/
import Derived.Test.Qxb6616140aDoorBase
import Derived.Laws.AppendOwn
import Derived.Laws.AppendOwnNone
namespace Go.Proofs.Qxb6616140aDoor
open Go.RowKit

theorem rowIs_arr {w : World} {g : Nat} {t : TypeId} {cur : Array Value} (h : w.heap[g]? = some (.cells cur t (0, 0))) {N : Nat} (hN : cur.size = N) : w.rowIs g t N (fun j => (cur[j]?).getD undef) :=
  ⟨cur, h, hN, fun i hi => by simp [Array.getElem?_eq_getElem (show i < cur.size by omega)]⟩

theorem isInt3 : ∃ k, Tryd.prog.underlying 3 = some (.int k) := ⟨_, Tryd.underlying3⟩

theorem zero_oneCell (m : Nat) : ∀ u ∈ (Builtin.zeroCells (Value.cells (.int .u8 0)) m).toList, u.oneCell' = true := by
  intro u hu
  have h : u ∈ (Builtin.zeroCells #[(Value.int .u8 0)] m).toList := hu
  simp [Builtin.zeroCells] at h
  obtain ⟨a, _, rfl⟩ := h
  simp [Nat.mod_one, Value.oneCell']

/-- append of make: the same row, or a new one; the bytes that were there stay. -/
theorem run_append_zeros (w : World) (ty : TypeId) (g n N m : Nat) (f : Nat → Value) (hrow : w.rowIs g 5 N f) (hn : n ≤ N) (hN : N ≤ maxLen) (hm : 0 < m) (hb : n + m ≤ 1073741824) :
    ∃ g' N' f' w', (Builtin.append_ #[24, 3] ty #[.slice (some ⟨g, 0, none⟩) n N, .int .i64 (m : Int)]).run Tryd.prog w = .ok (.slice (some ⟨g', 0, none⟩) (n + m) N') w' ∧
      w'.rowIs g' 5 N' f' ∧ (∀ j, j < n → f' j = f j) ∧ n + m ≤ N' ∧ N' ≤ maxLen ∧ Keep [g] w w' ∧ (g' = g ∨ g' = w.heap.size) := by
  obtain ⟨i, hi, hz, hs, hby⟩ := info_parts info5
  obtain ⟨cur, hg, hcs, hcur⟩ := hrow
  have hw : IntKind.i64.wrap (m : Int) = (m : Int) := by simp [IntKind.wrap_i64]; omega
  have hzs : (Builtin.zeroCells (Value.cells (.int .u8 0)) m).toList.length = m := by
    rw [Array.length_toList, size_zeroCells]; show m * 1 = m; omega
  have h48 : ¬ ((m : Int) > 281474976710656) := by omega
  have hm0 : m ≠ 0 := by omega
  by_cases hroom : n + m ≤ N
  · have hst := run_storeCells_at Tryd.prog g n 5 (Builtin.zeroCells (Value.cells (.int .u8 0)) m).toList 0 cur w hg (by omega) (zero_oneCell m)
    simp only [Nat.add_zero] at hst
    obtain ⟨arr, harr⟩ : ∃ arr, arr = (cur.toList.take n ++ (Builtin.zeroCells (Value.cells (.int .u8 0)) m).toList ++ cur.toList.drop (n + (Builtin.zeroCells (Value.cells (.int .u8 0)) m).toList.length)).toArray := ⟨_, rfl⟩
    rw [← harr] at hst
    have hsz : arr.size = N := by rw [harr]; simp only [List.size_toArray, List.length_append, List.length_take, List.length_drop, Array.length_toList] at hzs ⊢; omega
    refine ⟨g, N, fun j => (arr[j]?).getD undef, w.setRow g arr, ?_, rowIs_arr (setRow_heap w g cur arr 5 _ hg) hsz, ?_, hroom, hN, ⟨rfl, rfl, rfl, by simp, fun k _ hk => setRow_other w g k _ (by simpa using hk)⟩, .inl rfl⟩
    · simp [Builtin.append_, run_underlying Tryd.underlying24, run_underlying Tryd.underlying3, sizeOf, typeInfo, hi, hz, hs, hby, zeroValue, asInt, asIntOf, hw, h48, hroom, hm0, Addr.add_lit, hst]
      exact fun h => absurd h (by omega)
    · intro j hj
      have h1 := hcur j (by omega)
      rw [harr]
      simp only [List.getElem?_toArray]
      rw [List.getElem?_append_left (by simp; omega), List.getElem?_append_left (by simp; omega), List.getElem?_take_of_lt hj, Array.getElem?_toList, h1]
      rfl
  · have hnr : ¬ (n + m ≤ N) := hroom
    have holds : ∀ j v, (cur.toList.take n)[j]? = some v → w.drew.cell? ((⟨g, 0, none⟩ : Addr).add j) = some v := by
      intro j v hv
      have hjn : j < n := by
        by_cases h : j < n
        · exact h
        · rw [List.getElem?_eq_none (by simp; omega)] at hv; cases hv
      rw [List.getElem?_take_of_lt hjn, Array.getElem?_toList] at hv
      rw [WideShapes.add_plain]
      show w.cell? ⟨g, 0 + j, none⟩ = some v
      rw [cell_of_row w g (0 + j) cur 5 (0, 0) hg, Nat.zero_add]
      exact hv
    have hfo := run_firstCells_some (P := Tryd.prog) w.drew i.size n ⟨g, 0, none⟩ n N (cur.toList.take n) (by rw [hs]; simp; omega) holds
    rw [hs] at hfo
    have hfit := growslice_fits (need := n + m) (old := N) (bytes := 1) (by omega) (by omega)
    have h63' : ¬ (9223372036854775807 < ((n : Int) + (m : Int))) := by omega
    have h48' : ¬ (281474976710656 < Builtin.nextslicecap (n + m) N) := by omega
    obtain ⟨arr, harr⟩ : ∃ arr : Array Value, arr = ((cur.toList.take n).toArray ++ (Builtin.zeroCells (Value.cells (.int .u8 0)) m ++ Builtin.zeroCells (Value.cells (.int .u8 0)) (grownCap w (n + m) N 5 - (n + m)))) := ⟨_, rfl⟩
    have hge := grownCap_ge w (n + m) N 5
    have hsz : arr.size = grownCap w (n + m) N 5 := by
      rw [harr]
      simp only [Array.size_append, size_zeroCells, List.size_toArray, List.length_take, Array.length_toList]
      show min n cur.size + (m * 1 + (grownCap w (n + m) N 5 - (n + m)) * 1) = _
      omega
    refine ⟨w.heap.size, grownCap w (n + m) N 5, fun j => (arr[j]?).getD undef, w.drew.alloc (.cells arr 5), ?_, rowIs_arr (heap_alloc_new w.drew _) hsz, ?_, hge, grownCap_le_maxLen _ _ _ _ (by simp only [maxLen]; omega), ((Keep.refl _ w).drew).alloc _, .inr rfl⟩
    · simp [Builtin.append_, run_underlying Tryd.underlying24, run_underlying Tryd.underlying3, sizeOf, typeInfo, hi, hz, hs, hby, zeroValue, asInt, asIntOf, hw, h48, hnr, hm0, h63', h48', Question.forced, hfo, newRow, grownCap, harr]
      exact fun h => absurd h (by omega)
    · intro j hj
      have h1 := hcur j (by omega)
      rw [harr]
      simp only
      rw [Array.getElem?_append_left (by simp; omega)]
      simp only [List.getElem?_toArray]
      rw [List.getElem?_take_of_lt hj, Array.getElem?_toList, h1]
      rfl

theorem wpList_append_zeros (w : World) {ops : Array Oper} {rest : List Oper} {o : Oper} {a : Act} {Q : Exit → Act → World → Prop} (hgd : o.guard = none) (s x : Operand)
    (ho : o.op = .call { callee := .builtin .append, args := #[s, x], argTypes := #[24, 3] }) (g n N m : Nat) (f : Nat → Value) (hs : a.eval s = .slice (some ⟨g, 0, none⟩) n N) (hx : a.eval x = .int .i64 (m : Int))
    (hrow : w.rowIs g 5 N f) (hn : n ≤ N) (hN : N ≤ maxLen) (hm : 0 < m) (hb : n + m ≤ 1073741824)
    (h : ∀ g' N' f' w', w'.rowIs g' 5 N' f' → (∀ j, j < n → f' j = f j) → n + m ≤ N' → N' ≤ maxLen → Keep [g] w w' → (g' = g ∨ g' = w.heap.size) → wpList Tryd.prog ops Q rest (a.put o.dst (.slice (some ⟨g', 0, none⟩) (n + m) N')) w') : wpList Tryd.prog ops Q (o :: rest) a w := by
  refine wpList_plain hgd fun K hK => ?_
  obtain ⟨g', N', f', w', hr, h1, h2, h3, h4, h5, h6⟩ := run_append_zeros w o.type g n N m f hrow hn hN hm hb
  unfold Oper.wp execOp
  simp only [ho, resolve, invoke, builtin, Sem.run_bind, Sem.run_pure, Result.andThen_ok, List.map_toArray, List.map_cons, List.map_nil, hs, hx, hr]
  exact hK _ _ (h g' N' f' w' h1 h2 h3 h4 h5 h6)

/-! ### bytes of our own -/
/-- v is a slice of ours (or nil), at its row's head, that holds the bytes zs. -/
def Own (B : Nat) (w : World) (v : Value) (zs : List Int) : Prop := w.ownsRow B 5 1 v zs.length (zs.map (Value.int .u8))

theorem Own.nil (B : Nat) (w : World) : Own B w (.slice none 0 0) [] := World.ownsRow_nil w B 5 1

theorem Own.keep {B : Nat} {w w' : World} {v : Value} {zs : List Int} {O : List Nat} (h : Own B w v zs) (hk : Keep O w w') (hO : ∀ k, v.ownBlock = some k → k ∉ O) : Own B w' v zs := by
  refine ⟨h.1, ?_⟩
  rcases h.2 with hn | ⟨g, cap, cur, rfl, hb, hgg, rest⟩
  · exact .inl hn
  · exact .inr ⟨g, cap, cur, rfl, hb, (hk.block g (Array.getElem?_eq_some_iff.1 hgg).1 (hO g rfl)).trans hgg, rest⟩

theorem Own.alloc {B : Nat} {w : World} {v : Value} {zs : List Int} (h : Own B w v zs) (o : Obj) : Own B (w.alloc o) v zs := World.ownsRow.alloc h o

/-- Where it is not empty it has a row. -/
theorem Own.row {B : Nat} {w : World} {v : Value} {zs : List Int} (h : Own B w v zs) (hz : zs ≠ []) :
    ∃ g cap f, v = .slice (some ⟨g, 0, none⟩) zs.length cap ∧ B ≤ g ∧ w.rowIs g 5 cap f ∧ zs.length ≤ cap ∧ cap ≤ maxLen ∧ ∀ j, j < zs.length → f j = .int .u8 (zs.getD j 0) := by
  rcases h.2 with ⟨_, h0⟩ | ⟨g, cap, cur, rfl, hb, hg, hn, hcm, hcs, htake⟩
  · exact absurd (List.eq_nil_of_length_eq_zero h0) hz
  · refine ⟨g, cap, _, rfl, hb, rowIs_arr hg (by omega), hn, hcm, fun j hj => ?_⟩
    have e : (cur.toList.take (zs.length * 1))[j]? = some (Value.int .u8 (zs.getD j 0)) := by
      rw [htake, List.getElem?_map, List.getElem?_eq_getElem hj]
      simp [List.getD, List.getElem?_eq_getElem hj]
    rw [List.getElem?_take_of_lt (by omega), Array.getElem?_toList] at e
    simp only [e, Option.getD_some]

theorem wpList_append_bytes (w : World) {ops : Array Oper} {rest : List Oper} {o : Oper} {a : Act} {Q : Exit → Act → World → Prop} (hgd : o.guard = none) (s x : Operand)
    (ho : o.op = .call { callee := .builtin .append, args := #[s, x], argTypes := #[24, 24] }) (B : Nat) (v : Value) (zs : List Int) (hs : a.eval s = v) (hown : Own B w v zs)
    (ao : Option Addr) (m c : Nat) (ys : List Int) (hx : a.eval x = .slice ao m c) (hm : ys.length = m) (hnil : ao = none → m = 0 ∧ c = 0)
    (hcells : ∀ ad, ao = some ad → ∀ j, j < m → w.cell? (ad.add j) = some (.int .u8 (ys.getD j 0))) (hlen : zs.length + m ≤ 1073741824) (hB : B ≤ w.heap.size)
    (h : ∀ v' w', Own B w' v' (zs ++ ys) → Keep v.ownBlock.toList w w' → wpList Tryd.prog ops Q rest (a.put o.dst v') w') : wpList Tryd.prog ops Q (o :: rest) a w := by
  obtain ⟨i, hi, hz, hsz, hby⟩ := info_parts info5
  cases ao with
  | none =>
    obtain ⟨rfl, rfl⟩ := hnil rfl
    have hy : ys = [] := List.eq_nil_of_length_eq_zero hm
    subst hy
    refine wpList_append_own_none hgd s x 24 ho B 5 i 1 Tryd.underlying24 hi v _ _ hs hown hx ?_
    exact h v w (by rw [List.append_nil]; exact hown) (Keep.refl _ _)
  | some ad =>
    refine wpList_append_own w hgd s x 24 ho B 5 i (.int .u8 0) 1 1 Tryd.underlying24 hi hz hsz hby rfl (by decide) v zs.length (zs.map (Value.int .u8)) hs hown ad m c (ys.map (Value.int .u8)) hx (by simp [hm]) ?_ ?_ (by simp only [maxLen]; omega) (by omega) hB ?_
    · intro j u hu
      rw [List.getElem?_map] at hu
      by_cases hj : j < ys.length
      · rw [List.getElem?_eq_getElem hj] at hu
        rw [hcells ad rfl j (by omega), ← hu]
        simp [List.getD, List.getElem?_eq_getElem hj]
      · rw [List.getElem?_eq_none (by omega)] at hu; cases hu
    · intro u hu
      simp only [List.mem_map] at hu
      obtain ⟨z, _, rfl⟩ := hu
      rfl
    · intro v' w' h1 h2 _
      refine h v' w' ?_ (Keep.of_grown h2)
      show w'.ownsRow B 5 1 v' (zs ++ ys).length ((zs ++ ys).map (Value.int .u8))
      rw [List.map_append, List.length_append, hm]
      exact h1
end Go.Proofs.Qxb6616140aDoor
