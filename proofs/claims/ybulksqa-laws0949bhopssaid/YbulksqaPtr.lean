import Derived.Test.YbulksqaUp
import Derived.LaidEqlPtr
namespace Go.Proofs.Ybulksqa.Chain
open Go.RowKit

theorem equal_o (o : Option Addr) (w : World) (d : Nat) : (Op.equalIn (d + 1) 44 (.pointer o) (.pointer o)).run Yba.prog w = .ok true w := by
  obtain ⟨j, hj⟩ := Option.isSome_iff_exists.1 (show (Yba.prog.info? 49).isSome = true by kernel_rfl)
  cases o with
  | none => simp [Op.equalIn, run_underlying Yba.underlying44]
  | some a => simp [Op.equalIn, run_underlying Yba.underlying44, sizeOf, typeInfo, hj, run_sameAddr_same]

theorem eql_o (o : Option Addr) (w : World) : (binOp .eql 44 (.pointer o) (.pointer o)).run Yba.prog w = .ok (.bool true) w := by
  have h := equal_o o w 9999
  simp only [binOp]
  simp [Op.equal, Op.maxDepth, h]

theorem neq_o (o : Option Addr) (w : World) : (binOp .neq 44 (.pointer o) (.pointer o)).run Yba.prog w = .ok (.bool false) w := by
  have h := equal_o o w 9999
  simp only [binOp]
  simp [Op.equal, Op.maxDepth, h]
end Go.Proofs.Ybulksqa.Chain
