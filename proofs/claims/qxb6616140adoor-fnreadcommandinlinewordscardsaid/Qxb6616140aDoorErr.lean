/- What errors compare as: errors.Is, unexpected, ZZerrCode. -/
import Derived.Test.Qxb6616140aDoorBase
import Derived.LaidEql
import Derived.Stop.Asserts
namespace Go.Proofs.Qxb6616140aDoor
open Go.RowKit Go.Extern.Stop Go.Stop Go.Extern

theorem isTypeOf (v : Value) (w : World) : (Extern.ReflectliteType.typeOf #[.iface 126 v]).run Tryd.prog w = .ok (.iface 130 (.agg #[.pointer (some ⟨14, 126, none⟩)])) w := by kernel_rfl
theorem isComparable (w : World) : ((Extern.ReflectliteType.method fun t => do Go.Extern.Rtype.noPackHeld "Comparable" t; pure (.bool (← typeInfo t).comparable)) #[.agg #[.pointer (some ⟨14, 126, none⟩)]]).run Tryd.prog w = .ok (.bool true) w := by kernel_rfl
theorem isMethodComparable (v : Value) (w : World) : (Go.method 291 130 v "Comparable").run Tryd.prog w = .ok (125, v) w := by kernel_rfl
theorem isComp : (Tryd.prog.info? 126).map (·.comparable) = some true := by kernel_rfl
theorem isSize : (Tryd.prog.info? 128).map (·.size) = some 1 := by kernel_rfl
theorem noIsE (v : Value) (xT : TypeId) (w : World) : (Instr.typeAssert (.iface 126 v) xT 132 true).run Tryd.prog w = .ok (.tuple #[.nilIface, .bool false]) w := run_typeAssert_lacksB Tryd.underlying132 (by kernel_rfl) (by kernel_rfl) v xT w
theorem noUnwrapE (v : Value) (xT : TypeId) (w : World) : (Instr.typeAssert (.iface 126 v) xT 135 true).run Tryd.prog w = .ok (.tuple #[.nilIface, .bool false]) w := run_typeAssert_lacksB Tryd.underlying135 (by kernel_rfl) (by kernel_rfl) v xT w
theorem noUnwrapsE (v : Value) (xT : TypeId) (w : World) : (Instr.typeAssert (.iface 126 v) xT 136 true).run Tryd.prog w = .ok (.tuple #[.nilIface, .bool false]) w := run_typeAssert_lacksB Tryd.underlying136 (by kernel_rfl) (by kernel_rfl) v xT w

theorem call77 (v : Value) (w : World) : (callFunc 77 #[.iface 126 v]).run Tryd.prog w = .ok (.value (.iface 130 (.agg #[.pointer (some ⟨14, 126, none⟩)]))) w := by
  rw [@run_callFunc_extern Tryd.prog 77 _ Extern.ReflectliteType.typeOf Tryd.func77 (by kernel_rfl) (by kernel_rfl) (by kernel_rfl) (by kernel_rfl), isTypeOf]; rfl
theorem call125 (w : World) : (callFunc 125 #[.agg #[.pointer (some ⟨14, 126, none⟩)]]).run Tryd.prog w = .ok (.value (.bool true)) w := by
  rw [@run_callFunc_extern Tryd.prog 125 _ (Extern.ReflectliteType.method fun t => do Go.Extern.Rtype.noPackHeld "Comparable" t; pure (.bool (← typeInfo t).comparable)) Tryd.func125 (by kernel_rfl) (by kernel_rfl) (by kernel_rfl) (by kernel_rfl), isComparable]; rfl

theorem eq_same (a : Addr) (w : World) : (binOp .eql 42 (.iface 126 (.pointer (some a))) (.iface 126 (.pointer (some a)))).run Tryd.prog w = .ok (.bool true) w := by
  obtain ⟨i, hi, hcmp⟩ := Option.map_eq_some_iff.1 isComp
  obtain ⟨j, hj, hjs⟩ := Option.map_eq_some_iff.1 isSize
  exact run_eql_iface_ptr_same (P := Tryd.prog) w a Tryd.underlying42 Tryd.underlying126 hi hcmp hj

theorem eq_other (a b : Addr) (w : World) (hne : a ≠ b) (ha : ∃ c t, w.heap[a.block]? = some (.cells c t (0, 0))) (hb : ∃ c t, w.heap[b.block]? = some (.cells c t (0, 0))) :
    (binOp .eql 42 (.iface 126 (.pointer (some a))) (.iface 126 (.pointer (some b)))).run Tryd.prog w = .ok (.bool false) w := by
  obtain ⟨i, hi, hcmp⟩ := Option.map_eq_some_iff.1 isComp
  obtain ⟨j, hj, hjs⟩ := Option.map_eq_some_iff.1 isSize
  obtain ⟨ca, ta, ha⟩ := ha
  obtain ⟨cb, tb, hb⟩ := hb
  exact run_eql_iface_ptr_other (P := Tryd.prog) w Tryd.underlying42 Tryd.underlying126 hi hcmp hj (by rw [hjs]; decide) hne ha hb

theorem is_nil (b : Addr) (w : World) :
    Calls Tryd.prog 63 #[.nilIface, .iface 126 (.pointer (some b))] w fun e w' => e = .returned (.bool false) ∧ w' = w := by
  have hn := run_eql_iface_nil_left (P := Tryd.prog) w 126 (.pointer (some b)) Tryd.underlying42
  go_enter Tryd.func63, Tryd.ntmps63
  go_wp2
  go_ret
  exact ⟨rfl, rfl⟩

theorem is_same (a : Addr) (w : World) :
    Calls Tryd.prog 63 #[.iface 126 (.pointer (some a)), .iface 126 (.pointer (some a))] w fun e w' => e = .returned (.bool true) ∧ w' = w := by
  have h8 := call77
  have h32 := call125
  have mR := isMethodComparable
  have heq := eq_same a w
  go_enter Tryd.func63, Tryd.ntmps63
  go_wp2
  refine wp_loop_rounds 1 ?_
  rw [rounds_succ]
  go_wp2
  go_ret
  exact ⟨rfl, rfl⟩

theorem is_other (a b : Addr) (w : World) (hne : a ≠ b) (ha : ∃ c t, w.heap[a.block]? = some (.cells c t (0, 0))) (hb : ∃ c t, w.heap[b.block]? = some (.cells c t (0, 0))) :
    Calls Tryd.prog 63 #[.iface 126 (.pointer (some a)), .iface 126 (.pointer (some b))] w fun e w' => e = .returned (.bool false) ∧ w' = w := by
  have h8 := call77
  have h32 := call125
  have mR := isMethodComparable
  have nE := noIsE
  have uE := noUnwrapE
  have vE := noUnwrapsE
  have heq := eq_other a b w hne ha hb
  clear ha hb
  go_enter Tryd.func63, Tryd.ntmps63
  go_wp2
  refine wp_loop_rounds 1 ?_
  rw [rounds_succ]
  go_wp2
  go_ret
  exact ⟨rfl, rfl⟩

/-- unexpected(io.EOF) -/
theorem unexpected_eof {B : Nat} {e0 e1 e3 : Addr} (w : World) (h : Env B e0 e1 e3 w) :
    Calls Tryd.prog 49 #[.iface 126 (.pointer (some e0))] w fun e w' => e = .returned (.iface 126 (.pointer (some e1))) ∧ w' = w := by
  have g0 := h.g0
  have g1 := h.g1
  have heq := eq_same e0 w
  go_enter Tryd.func49, Tryd.ntmps49
  go_wp2
  go_ret
  exact ⟨rfl, rfl⟩

/-- unexpected(io.ErrUnexpectedEOF) -/
theorem unexpected_same {B : Nat} {e0 e1 e3 : Addr} (w : World) (h : Env B e0 e1 e3 w) :
    Calls Tryd.prog 49 #[.iface 126 (.pointer (some e1))] w fun e w' => e = .returned (.iface 126 (.pointer (some e1))) ∧ w' = w := by
  have g0 := h.g0
  have heq := eq_other e1 e0 w (fun x => h.n01 x.symm) h.b1 h.b0
  go_enter Tryd.func49, Tryd.ntmps49
  go_wp2
  go_ret
  exact ⟨rfl, rfl⟩

/-- ZZerrCode(io.EOF) = 1 -/
theorem errCode_eof {B : Nat} {e0 e1 e3 : Addr} (w : World) (h : Env B e0 e1 e3 w) :
    Calls Tryd.prog 22 #[.iface 126 (.pointer (some e0))] w fun e w' => e = .returned (.int .i64 1) ∧ w' = w := by
  have g0 := h.g0
  have heq := eq_same e0 w
  go_enter Tryd.func22, Tryd.ntmps22
  go_wp2
  go_ret
  exact ⟨rfl, rfl⟩

/-- ZZerrCode(io.ErrUnexpectedEOF) = 2 -/
theorem errCode_unexpected {B : Nat} {e0 e1 e3 : Addr} (w : World) (h : Env B e0 e1 e3 w) :
    Calls Tryd.prog 22 #[.iface 126 (.pointer (some e1))] w fun e w' => e = .returned (.int .i64 2) ∧ w' = w := by
  have g0 := h.g0
  have g1 := h.g1
  have heq := eq_other e1 e0 w (fun x => h.n01 x.symm) h.b1 h.b0
  have heq1 := eq_same e1 w
  go_enter Tryd.func22, Tryd.ntmps22
  go_wp2
  go_ret
  exact ⟨rfl, rfl⟩
end Go.Proofs.Qxb6616140aDoor
