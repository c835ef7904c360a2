/-
  Seat b5711aF: errors.Is (11) of an error that fmt.Errorf wrapped, and the error wrapped (after the guide's Sentry texts).
-/
import Derived.Test.YbulkdngeFmtErrf
import Derived.LaidEql
import Derived.Stop.Asserts
import Derived.RowKitTokens
namespace Go.Proofs.YbulkdngeFmt
open Go.RowKit Go.Extern.Stop Go.Stop Go.Extern
set_option linter.unusedVariables false

theorem Ybaf.isTypeOf (v : Value) (w : World) : (Extern.ReflectliteType.typeOf #[.iface 60 v]).run Ybaf.prog w = .ok (.iface 81 (.agg #[.pointer (some ⟨2, 60, none⟩)])) w := by kernel_rfl
/-- The model's entry for Comparable, under a name. -/
def cmpFn : Array Value → Sem Value := Extern.ReflectliteType.method fun t => do Extern.Rtype.noPackHeld "Comparable" t; pure (.bool (← typeInfo t).comparable)
theorem Ybaf.isComparable (w : World) : (cmpFn #[.agg #[.pointer (some ⟨2, 60, none⟩)]]).run Ybaf.prog w = .ok (.bool true) w := by kernel_rfl
theorem Ybaf.isMethodComparable (v : Value) (w : World) : (Go.method 363 81 v "Comparable").run Ybaf.prog w = .ok (54, v) w := by kernel_rfl
theorem Ybaf.isComp : (Ybaf.prog.info? 60).map (·.comparable) = some true := by kernel_rfl
theorem Ybaf.isSize : (Ybaf.prog.info? 62).map (·.size) = some 1 := by kernel_rfl
theorem Ybaf.noIsW (v : Value) (xT : TypeId) (w : World) : (Instr.typeAssert (.iface 92 v) xT 83 true).run Ybaf.prog w = .ok (.tuple #[.nilIface, .bool false]) w := run_typeAssert_lacksB Ybaf.underlying83 (by kernel_rfl) (by kernel_rfl) v xT w
theorem Ybaf.hasUnwrapW (v : Value) (xT : TypeId) (w : World) : (Instr.typeAssert (.iface 92 v) xT 86 true).run Ybaf.prog w = .ok (.tuple #[.iface 92 v, .bool true]) w := run_typeAssert_hasB Ybaf.underlying86 (by kernel_rfl) v xT w
theorem Ybaf.methodUnwrap (v : Value) (w : World) : (Go.method 363 92 v "Unwrap").run Ybaf.prog w = .ok (64, v) w := by kernel_rfl

set_option maxHeartbeats 2000000 in
set_option maxRecDepth 100000 in
theorem is_wrap_same (pb : Nat) (b : Addr) (w : World) (h1 : w.cell? ⟨pb, 1, none⟩ = some (.iface 60 (.pointer (some b)))) :
    Calls Ybaf.prog 11 #[.iface 92 (.pointer (some ⟨pb, 0, none⟩)), .iface 60 (.pointer (some b))] w fun e w' => e = .returned (.bool true) ∧ w' = w := by
  obtain ⟨i, hi, hcmp⟩ := Option.map_eq_some_iff.1 Ybaf.isComp
  obtain ⟨j, hj, hjs⟩ := Option.map_eq_some_iff.1 Ybaf.isSize
  have h8 := @run_callFunc_extern Ybaf.prog 17 _ Extern.ReflectliteType.typeOf Ybaf.func17 (by kernel_rfl) (by kernel_rfl) (by kernel_rfl) (by kernel_rfl)
  have h32 := @run_callFunc_extern Ybaf.prog 54 _ cmpFn Ybaf.func54 (by kernel_rfl) (by kernel_rfl) (by kernel_rfl) (by kernel_rfl)
  have tT := Ybaf.isTypeOf
  have cT := Ybaf.isComparable
  have mR := Ybaf.isMethodComparable
  have nW := Ybaf.noIsW
  have uW := Ybaf.hasUnwrapW
  have mU := Ybaf.methodUnwrap
  have heq := run_eql_iface_ptr_same (P := Ybaf.prog) w b Ybaf.underlying46 Ybaf.underlying60 hi hcmp hj
  have hty := run_eql_iface_types (P := Ybaf.prog) 92 60 (.pointer (some ⟨pb, 0, none⟩)) (.pointer (some b)) Ybaf.underlying46 (by decide) w
  go_enter Ybaf.func11, Ybaf.ntmps11
  go_wp2
  refine wp_loop_rounds 2 ?_
  rw [rounds_succ]
  go_wp2
  rw [rounds_succ]
  go_wp2
  go_ret
  exact ⟨rfl, rfl⟩
end Go.Proofs.YbulkdngeFmt
