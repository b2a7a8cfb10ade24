/-
  err == io.EOF.
-/
import Derived.Test.YtfonpcfcelahdaaDoorMem
import Derived.LaidEql
namespace Go.Proofs.YtfonpcfcelahdaaDoor
open Go.RowKit

set_option maxRecDepth 100000 in
theorem eof_same (W : World) (a : Addr) : (binOp .eql 41 (.iface 104 (.pointer (some a))) (.iface 104 (.pointer (some a)))).run Tryd.prog W = .ok (.bool true) W := by
  have h1 : (Tryd.prog.info? 104).map (·.comparable) = some true := by kernel_rfl
  cases hi : Tryd.prog.info? 104 with
  | none => rw [hi] at h1; cases h1
  | some i =>
    rw [hi] at h1
    have h2 : (Tryd.prog.info? 130).isSome = true := by kernel_rfl
    obtain ⟨j, hj⟩ := Option.isSome_iff_exists.1 h2
    exact run_eql_iface_ptr_same W a Tryd.underlying41 Tryd.underlying104 hi (by simpa using h1) hj
set_option maxRecDepth 100000 in
theorem eof_other (W : World) (x y : Value) : (binOp .eql 41 (.iface 65 x) (.iface 104 y)).run Tryd.prog W = .ok (.bool false) W := by
  have h : ∀ d : Nat, (Op.equalIn (d + 1) 41 (.iface 65 x) (.iface 104 y)).run Tryd.prog W = .ok false W := fun d => by simp [Op.equalIn, run_underlying Tryd.underlying41]
  simp only [binOp]
  simp [Op.equal, Op.maxDepth, h 9999]
end Go.Proofs.YtfonpcfcelahdaaDoor
