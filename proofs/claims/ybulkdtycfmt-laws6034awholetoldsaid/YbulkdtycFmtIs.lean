/-
  errors.Is (f6) by its contract where it is asked of a *fmt.wrapError that wraps the target itself. After the guide's worked SentryIs, at this dump's numbers:
  24: error · 55: *errors.errorString · 57: errors.errorString · 43: *fmt.wrapError · 45: reflectlite's rtype · 47, 50, 52: the three interfaces · functions: 6: errors.Is · 11: reflectlite.TypeOf · 35: (rtype).Comparable · 31: (*fmt.wrapError).Unwrap.
-/
import Derived.Test.YbulkdtycFmtRows
import Derived.WalkKit
import Derived.LaidEql
import Derived.Stop.Asserts
import Derived.RowKitTokens
namespace Go.Proofs.YbulkdtycFmt.S
open Go.RowKit Go.Extern.Stop Go.Stop Go.Extern

theorem isTypeOf (v : Value) (w : World) : (Extern.ReflectliteType.typeOf #[.iface 55 v]).run Ybaf.prog w = .ok (.iface 45 (.agg #[.pointer (some ⟨1, 55, none⟩)])) w := by kernel_rfl
abbrev cmpEntry : Array Value → Sem Value := Extern.ReflectliteType.method fun t => do Rtype.noPackHeld "Comparable" t; pure (.bool (← typeInfo t).comparable)
theorem isComparable (w : World) : (callFunc 35 #[.agg #[.pointer (some ⟨1, 55, none⟩)]]).run Ybaf.prog w = .ok (.value (.bool true)) w := by
  rw [@run_callFunc_extern Ybaf.prog 35 _ cmpEntry Ybaf.func35 (by kernel_rfl) (by kernel_rfl) (by kernel_rfl) (by kernel_rfl)]
  have h : (cmpEntry #[.agg #[.pointer (some ⟨1, 55, none⟩)]]).run Ybaf.prog w = .ok (.bool true) w := by kernel_rfl
  rw [h]
  rfl
theorem isMethodComparable (v : Value) (w : World) : (Go.method 197 45 v "Comparable").run Ybaf.prog w = .ok (35, v) w := by kernel_rfl
theorem isComp : (Ybaf.prog.info? 55).map (·.comparable) = some true := by kernel_rfl
theorem isSize : (Ybaf.prog.info? 57).map (·.size) = some 1 := by kernel_rfl
theorem noIsW (v : Value) (xT : TypeId) (w : World) : (Instr.typeAssert (.iface 43 v) xT 47 true).run Ybaf.prog w = .ok (.tuple #[.nilIface, .bool false]) w := run_typeAssert_lacksB Ybaf.underlying47 (by kernel_rfl) (by kernel_rfl) v xT w
theorem hasUnwrapW (v : Value) (xT : TypeId) (w : World) : (Instr.typeAssert (.iface 43 v) xT 50 true).run Ybaf.prog w = .ok (.tuple #[.iface 43 v, .bool true]) w := run_typeAssert_hasB Ybaf.underlying50 (by kernel_rfl) v xT w
theorem methodUnwrap (v : Value) (w : World) : (Go.method 197 43 v "Unwrap").run Ybaf.prog w = .ok (31, v) w := by kernel_rfl

set_option maxRecDepth 100000 in
set_option maxHeartbeats 2000000 in
/-- errors.Is(e, x), e a *fmt.wrapError that wraps x itself: one Unwrap, then equal. -/
theorem is_wrap_same (pb po : Nat) (b : Addr) (w : World) (h1 : w.cell? ⟨pb, po + 1, none⟩ = some (.iface 55 (.pointer (some b)))) :
    Calls Ybaf.prog 6 #[.iface 43 (.pointer (some ⟨pb, po, none⟩)), .iface 55 (.pointer (some b))] w fun e w' => e = .returned (.bool true) ∧ w' = w := by
  obtain ⟨i, hi, hcmp⟩ := Option.map_eq_some_iff.1 isComp
  obtain ⟨j, hj, hjs⟩ := Option.map_eq_some_iff.1 isSize
  have h8 := @run_callFunc_extern Ybaf.prog 11 _ Extern.ReflectliteType.typeOf Ybaf.func11 (by kernel_rfl) (by kernel_rfl) (by kernel_rfl) (by kernel_rfl)
  have tT := isTypeOf
  have cT := isComparable
  have mR := isMethodComparable
  have nW := noIsW
  have uW := hasUnwrapW
  have mU := methodUnwrap
  have heq := run_eql_iface_ptr_same (P := Ybaf.prog) w b Ybaf.underlying24 Ybaf.underlying55 hi hcmp hj
  have hty := run_eql_iface_types (P := Ybaf.prog) 43 55 (.pointer (some ⟨pb, po, none⟩)) (.pointer (some b)) Ybaf.underlying24 (by decide) w
  go_enter Ybaf.func6, Ybaf.ntmps6
  go_wp2
  refine wp_loop_rounds 2 ?_
  rw [rounds_succ]
  go_wp2
  rw [rounds_succ]
  go_wp2
  go_ret
  exact ⟨rfl, rfl⟩

end Go.Proofs.YbulkdtycFmt.S
