/- What the row's premises give: the sentinels; the arguments' rows; the witness's world. -/
import Derived.Test.Qxb6616140aDoorLaw7
import Derived.Deep.Matrix
import Derived.LaidMore
import Derived.LaidLaws
import Derived.Stop.LaidErr
import Derived.Stop.LaidTwo
import Derived.Stop.ErrReads
import Derived.OpenShut
import Derived.Stop.Joined
namespace Go.Proofs.Qxb6616140aDoor
open Go.ChangeShapes Go.WideShapes Go.ChangeAt Go.RowKit Go.Deep

theorem own : ownKnob Tryd.prog.godebug = none := by kernel_rfl
theorem laidOut : laidOutB Tryd.prog = true := by kernel_rfl
theorem gEOF : Tryd.prog.globalNamed "io.EOF" = some 0 := by kernel_rfl
theorem gUnx : Tryd.prog.globalNamed "io.ErrUnexpectedEOF" = some 1 := by kernel_rfl
theorem gFull : Tryd.prog.globalNamed "bufio.ErrBufferFull" = some 3 := by kernel_rfl
theorem gProg : Tryd.prog.globalNamed "io.ErrNoProgress" = some 5 := by kernel_rfl
theorem tEOF : (Tryd.prog.globals[0]?).map (·.type) = some 42 := by kernel_rfl
theorem tUnx : (Tryd.prog.globals[1]?).map (·.type) = some 42 := by kernel_rfl
theorem tFull : (Tryd.prog.globals[3]?).map (·.type) = some 42 := by kernel_rfl
theorem tProg : (Tryd.prog.globals[5]?).map (·.type) = some 42 := by kernel_rfl
theorem cells128 : Tryd.prog.cellsOf 128 = 1 := by kernel_rfl
theorem cells9' : Tryd.prog.cellsOf 9 = 1 := by kernel_rfl
theorem cells24 : Tryd.prog.cellsOf 24 = 1 := by kernel_rfl
theorem cells5 : Tryd.prog.cellsOf 5 = 1 := by kernel_rfl
/-- the name of an interface datum's type -/
def nameOf : DataW Unit → String
  | .iface s _ => s
  | _ => ""
theorem row126 (u : TypeId) (h : Tryd.prog.typeName? 3 u = some (nameOf Rows.laid_io_EOF)) : u = 126 :=
  typeName_ptr_named (nm := "errors.errorString") (by kernel_rfl) (by kernel_rfl) (by decide) u h

/-- The four sentinels in a row, wherever they stand in the list. -/
theorem env_of {W : World} {r : List (String × DataW Unit)} (h : laidMet Tryd.prog (("io.EOF", Rows.laid_io_EOF) :: ("io.ErrUnexpectedEOF", Rows.laid_io_ErrUnexpectedEOF) :: ("io.ErrNoProgress", Rows.laid_io_ErrNoProgress) :: ("bufio.ErrBufferFull", Rows.laid_bufio_ErrBufferFull) :: r) W) :
    ∃ e0 e1 e3, Env W.heap.size e0 e1 e3 W := by
  obtain ⟨a0, a1, s0, s1, c0, c1, t0, t1, v0, v1, k0, x0, _, k1, _, _, ne, b0, b1⟩ := laid_sentinels2 (n0 := "io.EOF") (n1 := "io.ErrUnexpectedEOF") h gEOF tEOF gUnx tUnx Tryd.underlying42 row126 Tryd.underlying126 Tryd.underlying128 rfl rfl Tryd.underlying9 cells128 cells9'
  obtain ⟨a2, a3, s2, s3, c2, c3, t2, t3, _, v3, _, _, _, k3, x3, _, _, _, b3⟩ := laid_sentinels2 (n0 := "io.ErrNoProgress") (n1 := "bufio.ErrBufferFull") h.tail.tail gProg tProg gFull tFull Tryd.underlying42 row126 Tryd.underlying126 Tryd.underlying128 rfl rfl Tryd.underlying9 cells128 cells9'
  have g3 : W.cell? ⟨3, 0, none⟩ = some (.iface 126 (.pointer (some a3))) := by simpa using World.var?_cell gFull v3 0
  refine ⟨a0, a1, a3, lt_of_cell g3, by simpa using World.var?_cell gEOF v0 0, by simpa using World.var?_cell gUnx v1 0, g3, ne, ?_, lt_blk b0, lt_blk b1, lt_blk b3, ⟨_, _, b0⟩, ⟨_, _, b1⟩, ⟨_, _, b3⟩⟩
  rintro rfl
  rw [k0] at k3
  simp only [Option.some.injEq, Value.string.injEq] at k3
  subst k3
  rw [x0] at x3
  exact absurd x3 (by decide)

/-- An argument of type [][]byte. -/
theorem mat_of {H : Type} {en : TypeId × Value → H} {W : World} {ao : Option Addr} {n c : Nat} {d : DataW H} {p : List MemPlace} (h : DataW.Trod en Tryd.prog W 0 (fun _ => true) true 35 (.slice ao n c) d p) :
    ∃ xs : List (List Int), n = xs.length ∧ Mat W.heap.size W ao xs ∧ n ≤ 9223372036854775807 ∧ (∀ i, i < xs.length → (xs.getD i []).length ≤ 9223372036854775807) ∧ Bytes88 xs := by
  obtain ⟨fuel, hf⟩ := h
  rcases open_int_rows Tryd.underlying35 Tryd.underlying24 Tryd.underlying5 cells24 cells5 hf with ⟨hcs, _⟩ | ⟨a, len, cap, A, L, C, Z, hcs, _, hl, hm, _, hrows⟩
  · simp [Value.cells] at hcs
    obtain ⟨rfl, rfl, rfl⟩ := hcs
    exact ⟨[], rfl, ⟨fun _ => rfl, fun a h => (by cases h)⟩, by omega, fun i hi => by simp at hi, fun zs hz => by simp at hz⟩
  · simp [Value.cells] at hcs
    obtain ⟨rfl, rfl, rfl⟩ := hcs
    have hget : ∀ r, r < n → ((List.range n).map fun r => (Z r).take (L r)).getD r [] = (Z r).take (L r) := fun r hr => by
      rw [List.getD, List.getElem?_map, List.getElem?_range hr]; rfl
    have hlen : ∀ r, r < n → ((Z r).take (L r)).length = L r := fun r hr => by
      obtain ⟨_, h1, _, h2, _⟩ := hrows r (by omega)
      rw [List.length_take]; omega
    refine ⟨(List.range n).map fun r => (Z r).take (L r), by simp, ⟨fun h => (by cases h), fun a' ha r hr => ?_⟩, by simp only [maxLen] at hm; omega, fun i hi => ?_, fun zs hz => ?_⟩
    · cases ha
      have hr' : r < n := by simpa using hr
      rw [hget r hr', hlen r hr']
      obtain ⟨h1, h2, h3, h4, h5, h6, h7⟩ := hrows r (by omega)
      refine ⟨A r, C r, h1, lt_of_cell h1, fun h => ?_, fun a' e j hj => ?_⟩
      · have h8 := h6 h
        refine ⟨List.eq_nil_of_length_eq_zero (by rw [hlen r hr']; omega), h8⟩
      · have h8 := (h7 a' e).2 j (by omega)
        have e2 : ((Z r).take (L r)).getD j 0 = (Z r).getD j 0 := by rw [List.getD, List.getD, List.getElem?_take_of_lt hj]
        rw [e2]
        exact ⟨h8, lt_of_cell h8⟩
    · have hi' : i < n := by simpa using hi
      rw [hget i hi', hlen i hi']
      obtain ⟨_, h1, h2, _⟩ := hrows i (by omega)
      simp only [maxLen] at h2
      omega
    · obtain ⟨r, hr, rfl⟩ := List.mem_map.1 hz
      intro z hz
      have hz' := List.mem_of_mem_take hz
      obtain ⟨_, _, _, _, h5, _⟩ := hrows r (by have := List.mem_range.1 hr; omega)
      have := h5 z hz'
      simp [Lit.wf] at this
      have h8 : IntKind.u8.min = 0 := by decide
      have h9 : IntKind.u8.max = 255 := by decide
      rw [h8, h9] at this
      omega
end Go.Proofs.Qxb6616140aDoor
