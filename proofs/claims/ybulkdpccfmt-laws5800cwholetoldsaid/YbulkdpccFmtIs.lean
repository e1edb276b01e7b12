/-
  Seat b5800aF: errors.Is of a *fmt.wrapError that wraps the sentinel itself, by its contract: after the guide's Derived/Test/SentryIs.lean, turned to this program. By an AI agent.
-/
import Derived.Test.YbulkdpccFmtRows
import Derived.WalkKit
import Derived.LaidEql
import Derived.Stop.Asserts
import Derived.RowKitTokens
namespace Go.Proofs.YbulkdpccFmt
open Go.RowKit Go.Extern.Stop Go.Stop Go.Extern

theorem Ybaf.isTypeOf (v : Value) (w : World) : (callFunc 9 #[.iface 59 v]).run Ybaf.prog w = .ok (.value (.iface 44 (.agg #[.pointer (some ⟨3, 59, none⟩)]))) w := by kernel_rfl
theorem Ybaf.isComparable (w : World) : (callFunc 36 #[.agg #[.pointer (some ⟨3, 59, none⟩)]]).run Ybaf.prog w = .ok (.value (.bool true)) w := by kernel_rfl
theorem Ybaf.isMethodComparable (v : Value) (w : World) : (Go.method 200 44 v "Comparable").run Ybaf.prog w = .ok (36, v) w := by kernel_rfl
theorem Ybaf.isComp : (Ybaf.prog.info? 59).map (·.comparable) = some true := by kernel_rfl
theorem Ybaf.isSize : (Ybaf.prog.info? 61).map (·.size) = some 1 := by kernel_rfl
theorem Ybaf.noIsW (v : Value) (xT : TypeId) (w : World) : (Instr.typeAssert (.iface 58 v) xT 46 true).run Ybaf.prog w = .ok (.tuple #[.nilIface, .bool false]) w := run_typeAssert_lacksB Ybaf.underlying46 (by kernel_rfl) (by kernel_rfl) v xT w
theorem Ybaf.hasUnwrapW (v : Value) (xT : TypeId) (w : World) : (Instr.typeAssert (.iface 58 v) xT 49 true).run Ybaf.prog w = .ok (.tuple #[.iface 58 v, .bool true]) w := run_typeAssert_hasB Ybaf.underlying49 (by kernel_rfl) v xT w
theorem Ybaf.methodUnwrap (v : Value) (w : World) : (Go.method 200 58 v "Unwrap").run Ybaf.prog w = .ok (46, v) w := by kernel_rfl

set_option maxHeartbeats 1000000 in
/-- errors.Is(e, x), e a *fmt.wrapError that wraps x itself: one Unwrap, then equal. -/
theorem is_wrap_same (pb po : Nat) (b : Addr) (w : World) (h1 : w.cell? ⟨pb, po + 1, none⟩ = some (.iface 59 (.pointer (some b)))) :
    Calls Ybaf.prog 6 #[.iface 58 (.pointer (some ⟨pb, po, none⟩)), .iface 59 (.pointer (some b))] w fun e w' => e = .returned (.bool true) ∧ w' = w := by
  obtain ⟨i, hi, hcmp⟩ := Option.map_eq_some_iff.1 Ybaf.isComp
  obtain ⟨j, hj, hjs⟩ := Option.map_eq_some_iff.1 Ybaf.isSize
  have tT := Ybaf.isTypeOf
  have cT := Ybaf.isComparable
  have mR := Ybaf.isMethodComparable
  have nW := Ybaf.noIsW
  have uW := Ybaf.hasUnwrapW
  have mU := Ybaf.methodUnwrap
  have heq := run_eql_iface_ptr_same (P := Ybaf.prog) w b Ybaf.underlying26 Ybaf.underlying59 hi hcmp hj
  have hty := run_eql_iface_types (P := Ybaf.prog) 58 59 (.pointer (some ⟨pb, po, none⟩)) (.pointer (some b)) Ybaf.underlying26 (by decide) w
  go_enter Ybaf.func6, Ybaf.ntmps6
  go_wp2
  refine wp_loop_rounds 2 ?_
  rw [rounds_succ]
  go_wp2
  rw [rounds_succ]
  go_wp2
  go_ret
  exact ⟨rfl, rfl⟩
end Go.Proofs.YbulkdpccFmt
