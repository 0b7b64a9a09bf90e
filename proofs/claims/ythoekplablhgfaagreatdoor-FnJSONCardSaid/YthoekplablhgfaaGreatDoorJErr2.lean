/-
  Two errors that are one.
-/
import Derived.Test.YthoekplablhgfaaGreatDoorMEnd
import Derived.Laws.Entries
namespace Go.Proofs.YthoekplablhgfaaGreatDoor
open Go.RowKit
set_option linter.unusedVariables false

theorem err_info : (Tryz.prog.info? 182).map (·.comparable) = some true := by kernel_rfl
theorem eql_err (a : Addr) (w : World) : (binOp .eql 46 (.iface 182 (.pointer (some a))) (.iface 182 (.pointer (some a)))).run Tryz.prog w = .ok (.bool true) w := by
  have hc := err_info
  cases hi : Tryz.prog.info? 182 with
  | none => simp [hi] at hc
  | some i =>
    have hcc : i.comparable = true := by simpa [hi] using hc
    have h : ∀ d : Nat, (Op.equalIn (d + 2) 46 (.iface 182 (.pointer (some a))) (.iface 182 (.pointer (some a)))).run Tryz.prog w = .ok true w := fun d => by
      simp [Op.equalIn, run_underlying Tryz.underlying46, run_underlying Tryz.underlying182, typeInfo, hi, hcc, sameAddr]
    simp only [binOp]
    simp [Op.equal, Op.maxDepth, h 9998]
theorem neq_err (a : Addr) (w : World) : (binOp .neq 46 (.iface 182 (.pointer (some a))) (.iface 182 (.pointer (some a)))).run Tryz.prog w = .ok (.bool false) w := by
  have hc := err_info
  cases hi : Tryz.prog.info? 182 with
  | none => simp [hi] at hc
  | some i =>
    have hcc : i.comparable = true := by simpa [hi] using hc
    have h : ∀ d : Nat, (Op.equalIn (d + 2) 46 (.iface 182 (.pointer (some a))) (.iface 182 (.pointer (some a)))).run Tryz.prog w = .ok true w := fun d => by
      simp [Op.equalIn, run_underlying Tryz.underlying46, run_underlying Tryz.underlying182, typeInfo, hi, hcc, sameAddr]
    simp only [binOp]
    simp [Op.equal, Op.maxDepth, h 9998]

end Go.Proofs.YthoekplablhgfaaGreatDoor
