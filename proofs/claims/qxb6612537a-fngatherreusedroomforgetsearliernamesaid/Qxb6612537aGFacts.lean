import Derived.Test.Qxb6612537aClear
import Derived.Test.Qxb6612537aWalkLin
/-! Closed facts for gather's walk: lay them ahead of it. -/
namespace Go.Proofs.Qxb6612537a.U
open Go.RowKit
theorem nil_eq (w : World) : Sem.run Try.prog (binOp .eql 55 (.map none) (.map none)) w = .ok (.bool true) w := by kernel_rfl
theorem nil_ne (b : Nat) (w : World) : Sem.run Try.prog (binOp .eql 55 (.map (some b)) (.map none)) w = .ok (.bool false) w := by kernel_rfl
theorem mk_map (w : World) : Sem.run Try.prog (Instr.makeMap 55 none) w = .ok (.map (some w.heap.size)) (w.alloc (.map #[] 0)) := rfl
end Go.Proofs.Qxb6612537a.U
