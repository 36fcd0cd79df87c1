/-
  errors.Is at a *fmt.wrapError around the target, after the guide's SentryIs: Go's own text is walked.
-/
import Derived.Test.YbulkcpiuFmtWrap
import Derived.Stop.Asserts
import Derived.LoopN
namespace Go.Proofs.YbulkcpiuFmt
open Go.RowKit Go.Deep Go.Extern.Stop Go.Stop Go.Extern
set_option linter.unusedVariables false

theorem callComparable (w : World) : (callFunc 44 #[.agg #[.pointer (some ⟨3, 44, none⟩)]]).run Ybaf.prog w = .ok (.value (.bool true)) w := by kernel_rfl
theorem callTypeOf (v : Value) (w : World) : (callFunc 14 #[.iface 44 v]).run Ybaf.prog w = .ok (.value (.iface 59 (.agg #[.pointer (some ⟨3, 44, none⟩)]))) w := by kernel_rfl
theorem isMethodComparable (v : Value) (w : World) : (Go.method 211 59 v "Comparable").run Ybaf.prog w = .ok (44, v) w := by kernel_rfl
theorem noIsW (v : Value) (xT : TypeId) (w : World) : (Instr.typeAssert (.iface 71 v) xT 61 true).run Ybaf.prog w = .ok (.tuple #[.nilIface, .bool false]) w := run_typeAssert_lacksB Ybaf.underlying61 (by kernel_rfl) (by kernel_rfl) v xT w
theorem hasUnwrapW (v : Value) (xT : TypeId) (w : World) : (Instr.typeAssert (.iface 71 v) xT 64 true).run Ybaf.prog w = .ok (.tuple #[.iface 71 v, .bool true]) w := run_typeAssert_hasB Ybaf.underlying64 (by kernel_rfl) v xT w
theorem methodUnwrap (v : Value) (w : World) : (Go.method 211 71 v "Unwrap").run Ybaf.prog w = .ok (54, v) w := by kernel_rfl

set_option maxRecDepth 100000 in
set_option maxHeartbeats 1600000 in
theorem is_wrap_same (pb po : Nat) (b : Addr) (w : World) (h1 : w.cell? ⟨pb, po + 1, none⟩ = some (.iface 44 (.pointer (some b)))) :
    Calls Ybaf.prog 10 #[.iface 71 (.pointer (some ⟨pb, po, none⟩)), .iface 44 (.pointer (some b))] w fun e w' => e = .returned (.bool true) ∧ w' = w := by
  have h8 := callTypeOf
  have h32 := callComparable
  have mR := isMethodComparable
  have nW := noIsW
  have uW := hasUnwrapW
  have mU := methodUnwrap
  have heq := eql_same b w
  have hty := run_eql_iface_types (P := Ybaf.prog) 71 44 (.pointer (some ⟨pb, po, none⟩)) (.pointer (some b)) Ybaf.underlying25 (by decide) w
  go_enter Ybaf.func10, Ybaf.ntmps10
  go_wp2
  refine wp_loop_rounds 2 ?_
  rw [rounds_succ]
  go_wp2
  rw [rounds_succ]
  go_wp2
  go_ret
  exact ⟨rfl, rfl⟩
end Go.Proofs.YbulkcpiuFmt
