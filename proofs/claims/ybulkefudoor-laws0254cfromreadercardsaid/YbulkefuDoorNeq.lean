/-
  '!=' at errors.
-/
import Derived.Test.YbulkefuDoorRows
import Derived.WalkKit
import Derived.WalkSpells
import Derived.WalkLawsBesides
import Derived.LaidEql
namespace Go.Proofs.YbulkefuDoor
open Go.RowKit

theorem Ybad.comp48 : (Ybad.prog.info? 48).map (·.comparable) = some true := by kernel_rfl
theorem Ybad.some70 : (Ybad.prog.info? 70).map (·.size) = some 1 := by kernel_rfl
theorem neq_nil (v : Value) (w : World) : (binOp .neq 28 (.iface 48 v) .nilIface).run Ybad.prog w = .ok (.bool true) w := by
  have h : ∀ d : Nat, (Op.equalIn (d + 1) 28 (.iface 48 v) .nilIface).run Ybad.prog w = .ok false w := fun d => by simp [Op.equalIn, run_underlying Ybad.underlying28]
  simp only [binOp]
  simp [Op.equal, Op.maxDepth, h 9999]
theorem nil_nil (w : World) : (binOp .neq 28 .nilIface .nilIface).run Ybad.prog w = .ok (.bool false) w := by
  have h : ∀ d : Nat, (Op.equalIn (d + 1) 28 .nilIface .nilIface).run Ybad.prog w = .ok true w := fun d => by simp [Op.equalIn, run_underlying Ybad.underlying28]
  simp only [binOp]
  simp [Op.equal, Op.maxDepth, h 9999]
theorem neq_same (a : Addr) (w : World) : (binOp .neq 28 (.iface 48 (.pointer (some a))) (.iface 48 (.pointer (some a)))).run Ybad.prog w = .ok (.bool false) w := by
  obtain ⟨i, hi, hc⟩ := Option.map_eq_some_iff.1 Ybad.comp48
  obtain ⟨j, hj, _⟩ := Option.map_eq_some_iff.1 Ybad.some70
  simp only [binOp]
  simp [Op.equal, Op.maxDepth, run_equalIn_iface_ptr_same w 9998 a Ybad.underlying28 Ybad.underlying48 hi hc hj]
end Go.Proofs.YbulkefuDoor
