/-
  Seat b6612715aF: errors.Is by its contracts, after the kit's worked text on 'sentry', turned to this program's numbers.
-/
import Derived.Test.Qxb6612715aFmtSmall
import Derived.LaidEql
import Derived.Stop.Asserts
import Derived.RowKitTokens
namespace Go.Proofs.Qxb6612715aFmt.W
open Go.RowKit Go.Extern.Stop Go.Stop Go.Extern
set_option linter.unusedVariables false

/-! ### CLOSED FACTS: what 'reflectlite.TypeOf(target).Comparable()' gives at such a target -/
theorem is_TypeOf (v : Value) (w : World) : (callFunc 20 #[.iface 76 v]).run Tryf.prog w = .ok (.value (.iface 65 (.agg #[.pointer (some ⟨9, 76, none⟩)]))) w := by kernel_rfl
theorem is_Comparable (w : World) : (callFunc 53 #[.agg #[.pointer (some ⟨9, 76, none⟩)]]).run Tryf.prog w = .ok (.value (.bool true)) w := by kernel_rfl
theorem is_MethodComparable (v : Value) (w : World) : (Go.method 218 65 v "Comparable").run Tryf.prog w = .ok (53, v) w := by kernel_rfl
theorem is_Comp : (Tryf.prog.info? 76).map (·.comparable) = some true := by kernel_rfl
theorem is_Size : (Tryf.prog.info? 78).map (·.size) = some 1 := by kernel_rfl

/-! ### CLOSED FACTS ON THE METHOD SETS: what errors.is's assertions find -/
theorem no_IsE (v : Value) (xT : TypeId) (w : World) : (Instr.typeAssert (.iface 76 v) xT 67 true).run Tryf.prog w = .ok (.tuple #[.nilIface, .bool false]) w := run_typeAssert_lacksB Tryf.underlying67 (by kernel_rfl) (by kernel_rfl) v xT w
theorem no_UnwrapE (v : Value) (xT : TypeId) (w : World) : (Instr.typeAssert (.iface 76 v) xT 70 true).run Tryf.prog w = .ok (.tuple #[.nilIface, .bool false]) w := run_typeAssert_lacksB Tryf.underlying70 (by kernel_rfl) (by kernel_rfl) v xT w
theorem no_UnwrapsE (v : Value) (xT : TypeId) (w : World) : (Instr.typeAssert (.iface 76 v) xT 71 true).run Tryf.prog w = .ok (.tuple #[.nilIface, .bool false]) w := run_typeAssert_lacksB Tryf.underlying71 (by kernel_rfl) (by kernel_rfl) v xT w
theorem no_IsW (v : Value) (xT : TypeId) (w : World) : (Instr.typeAssert (.iface 63 v) xT 67 true).run Tryf.prog w = .ok (.tuple #[.nilIface, .bool false]) w := run_typeAssert_lacksB Tryf.underlying67 (by kernel_rfl) (by kernel_rfl) v xT w
theorem has_UnwrapW (v : Value) (xT : TypeId) (w : World) : (Instr.typeAssert (.iface 63 v) xT 70 true).run Tryf.prog w = .ok (.tuple #[.iface 63 v, .bool true]) w := run_typeAssert_hasB Tryf.underlying70 (by kernel_rfl) v xT w
theorem method_Unwrap (v : Value) (w : World) : (Go.method 218 63 v "Unwrap").run Tryf.prog w = .ok (49, v) w := by kernel_rfl

set_option maxRecDepth 100000 in
/-- errors.Is(x, x), x a pointer to an errors.errorString. -/
theorem is_same (a : Addr) (w : World) :
    Calls Tryf.prog 14 #[.iface 76 (.pointer (some a)), .iface 76 (.pointer (some a))] w fun e w' => e = .returned (.bool true) ∧ w' = w := by
  obtain ⟨i, hi, hcmp⟩ := Option.map_eq_some_iff.1 is_Comp
  obtain ⟨j, hj, hjs⟩ := Option.map_eq_some_iff.1 is_Size
  have tT := is_TypeOf
  have cT := is_Comparable
  have mR := is_MethodComparable
  have heq := run_eql_iface_ptr_same (P := Tryf.prog) w a Tryf.underlying32 Tryf.underlying76 hi hcmp hj
  go_enter Tryf.func14, Tryf.ntmps14
  go_wp2
  refine wp_loop_rounds 1 ?_
  rw [rounds_succ]
  go_wp2
  go_ret
  exact ⟨rfl, rfl⟩

set_option maxRecDepth 100000 in
/-- errors.Is(x, y), two different pointers to errors.errorString: neither has Is nor Unwrap: false. -/
theorem is_other (a b : Addr) (ca cb : Array Value) (ta tb : TypeId) (w : World) (hne : a ≠ b) (ha : w.heap[a.block]? = some (.cells ca ta (0, 0))) (hb : w.heap[b.block]? = some (.cells cb tb (0, 0))) :
    Calls Tryf.prog 14 #[.iface 76 (.pointer (some a)), .iface 76 (.pointer (some b))] w fun e w' => e = .returned (.bool false) ∧ w' = w := by
  obtain ⟨i, hi, hcmp⟩ := Option.map_eq_some_iff.1 is_Comp
  obtain ⟨j, hj, hjs⟩ := Option.map_eq_some_iff.1 is_Size
  have tT := is_TypeOf
  have cT := is_Comparable
  have mR := is_MethodComparable
  have nE := no_IsE
  have uE := no_UnwrapE
  have vE := no_UnwrapsE
  have nW := no_IsW
  have uW := has_UnwrapW
  have mU := method_Unwrap
  have heq := run_eql_iface_ptr_other (P := Tryf.prog) w Tryf.underlying32 Tryf.underlying76 hi hcmp hj (by rw [hjs]; decide) hne ha hb
  go_enter Tryf.func14, Tryf.ntmps14
  go_wp2
  refine wp_loop_rounds 1 ?_
  rw [rounds_succ]
  go_wp2
  go_ret
  exact ⟨rfl, rfl⟩

set_option maxRecDepth 100000 in
/-- errors.Is(e, x), e a *fmt.wrapError that wraps x itself: one Unwrap, then equal. -/
theorem is_wrap_same (pb po : Nat) (b : Addr) (w : World) (h1 : w.cell? ⟨pb, po + 1, none⟩ = some (.iface 76 (.pointer (some b)))) :
    Calls Tryf.prog 14 #[.iface 63 (.pointer (some ⟨pb, po, none⟩)), .iface 76 (.pointer (some b))] w fun e w' => e = .returned (.bool true) ∧ w' = w := by
  obtain ⟨i, hi, hcmp⟩ := Option.map_eq_some_iff.1 is_Comp
  obtain ⟨j, hj, hjs⟩ := Option.map_eq_some_iff.1 is_Size
  have tT := is_TypeOf
  have cT := is_Comparable
  have mR := is_MethodComparable
  have nE := no_IsE
  have uE := no_UnwrapE
  have vE := no_UnwrapsE
  have nW := no_IsW
  have uW := has_UnwrapW
  have mU := method_Unwrap
  have heq := run_eql_iface_ptr_same (P := Tryf.prog) w b Tryf.underlying32 Tryf.underlying76 hi hcmp hj
  have hty := run_eql_iface_types (P := Tryf.prog) 63 76 (.pointer (some ⟨pb, po, none⟩)) (.pointer (some b)) Tryf.underlying32 (by decide) w
  go_enter Tryf.func14, Tryf.ntmps14
  go_wp2
  refine wp_loop_rounds 2 ?_
  rw [rounds_succ]
  go_wp2
  rw [rounds_succ]
  go_wp2
  go_ret
  exact ⟨rfl, rfl⟩

end Go.Proofs.Qxb6612715aFmt.W
