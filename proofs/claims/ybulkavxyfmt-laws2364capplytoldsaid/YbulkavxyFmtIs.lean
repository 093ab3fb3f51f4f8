import Derived.Test.YbulkavxyFmtTw
import Derived.LaidEql
import Derived.Stop.Asserts
import Derived.RowKitTokens
namespace Go.Proofs.YbulkavxyFmt
open Go.RowKit Go.Extern.Stop Go.Stop Go.Extern
set_option linter.unusedVariables false

/-! ### CLOSED FACTS: what 'reflectlite.TypeOf, Comparable' gives at such a target -/
theorem is_isTypeOf (v : Value) (w : World) : (Extern.ReflectliteType.typeOf #[.iface 55 v]).run Ybaf.prog w = .ok (.iface 45 (.agg #[.pointer (some ⟨1, 55, none⟩)])) w := by kernel_rfl
theorem is_isComparable (w : World) : (callFunc 35 #[.agg #[.pointer (some ⟨1, 55, none⟩)]]).run Ybaf.prog w = .ok (.value (.bool true)) w := by kernel_rfl
theorem is_isMethodComparable (v : Value) (w : World) : (Go.method 199 45 v "Comparable").run Ybaf.prog w = .ok (35, v) w := by kernel_rfl
theorem is_isComp : (Ybaf.prog.info? 55).map (·.comparable) = some true := by kernel_rfl
theorem is_isSize : (Ybaf.prog.info? 57).map (·.size) = some 1 := by kernel_rfl

/-! ### CLOSED FACTS ON THE METHOD SETS: what errors.is's assertions find -/
theorem is_noIsE (v : Value) (xT : TypeId) (w : World) : (Instr.typeAssert (.iface 55 v) xT 47 true).run Ybaf.prog w = .ok (.tuple #[.nilIface, .bool false]) w := run_typeAssert_lacksB Ybaf.underlying47 (by kernel_rfl) (by kernel_rfl) v xT w
theorem is_noUnwrapE (v : Value) (xT : TypeId) (w : World) : (Instr.typeAssert (.iface 55 v) xT 50 true).run Ybaf.prog w = .ok (.tuple #[.nilIface, .bool false]) w := run_typeAssert_lacksB Ybaf.underlying50 (by kernel_rfl) (by kernel_rfl) v xT w
theorem is_noUnwrapsE (v : Value) (xT : TypeId) (w : World) : (Instr.typeAssert (.iface 55 v) xT 52 true).run Ybaf.prog w = .ok (.tuple #[.nilIface, .bool false]) w := run_typeAssert_lacksB Ybaf.underlying52 (by kernel_rfl) (by kernel_rfl) v xT w
theorem is_noIsW (v : Value) (xT : TypeId) (w : World) : (Instr.typeAssert (.iface 43 v) xT 47 true).run Ybaf.prog w = .ok (.tuple #[.nilIface, .bool false]) w := run_typeAssert_lacksB Ybaf.underlying47 (by kernel_rfl) (by kernel_rfl) v xT w
theorem is_hasUnwrapW (v : Value) (xT : TypeId) (w : World) : (Instr.typeAssert (.iface 43 v) xT 50 true).run Ybaf.prog w = .ok (.tuple #[.iface 43 v, .bool true]) w := run_typeAssert_hasB Ybaf.underlying50 (by kernel_rfl) v xT w
theorem is_methodUnwrap (v : Value) (w : World) : (Go.method 199 43 v "Unwrap").run Ybaf.prog w = .ok (31, v) w := by kernel_rfl

/-- errors.Is(e, x), e a *fmt.wrapError that wraps x itself: one Unwrap, then equal. -/
theorem is_wrap_same (pb po : Nat) (b : Addr) (w : World) (h1 : w.cell? ⟨pb, po + 1, none⟩ = some (.iface 55 (.pointer (some b)))) :
    Calls Ybaf.prog 6 #[.iface 43 (.pointer (some ⟨pb, po, none⟩)), .iface 55 (.pointer (some b))] w fun e w' => e = .returned (.bool true) ∧ w' = w := by
  obtain ⟨i, hi, hcmp⟩ := Option.map_eq_some_iff.1 is_isComp
  obtain ⟨j, hj, hjs⟩ := Option.map_eq_some_iff.1 is_isSize
  have h8 := @run_callFunc_extern Ybaf.prog 9 _ Extern.ReflectliteType.typeOf Ybaf.func9 (by kernel_rfl) (by kernel_rfl) (by kernel_rfl) (by kernel_rfl)
  have tT := is_isTypeOf
  have cT := is_isComparable
  have mR := is_isMethodComparable
  have nE := is_noIsE
  have uE := is_noUnwrapE
  have vE := is_noUnwrapsE
  have nW := is_noIsW
  have uW := is_hasUnwrapW
  have mU := is_methodUnwrap
  have heq := run_eql_iface_ptr_same (P := Ybaf.prog) w b Ybaf.underlying30 Ybaf.underlying55 hi hcmp hj
  have hty := run_eql_iface_types (P := Ybaf.prog) 43 55 (.pointer (some ⟨pb, po, none⟩)) (.pointer (some b)) Ybaf.underlying30 (by decide) w
  go_enter Ybaf.func6, Ybaf.ntmps6
  go_wp2
  refine wp_loop_rounds 2 ?_
  rw [rounds_succ]
  go_wp2
  rw [rounds_succ]
  go_wp2
  go_ret
  exact ⟨rfl, rfl⟩

end Go.Proofs.YbulkavxyFmt
