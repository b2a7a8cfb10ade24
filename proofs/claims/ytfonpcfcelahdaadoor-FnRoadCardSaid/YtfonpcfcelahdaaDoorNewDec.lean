/-
  NewDecoder.
-/
import Derived.Test.YtfonpcfcelahdaaDoorMem
namespace Go.Proofs.YtfonpcfcelahdaaDoor
open Go.RowKit

theorem zero77_size : Tryd.zeroCells77.size = 2053 := by kernel_rfl
theorem zero77_0 : Tryd.zeroCells77[0]? = some .nilIface := by kernel_rfl
theorem zero77_1 : Tryd.zeroCells77[1]? = some .nilIface := by kernel_rfl
theorem zero77_1027 : Tryd.zeroCells77[1027]? = some (.int .i64 0) := by kernel_rfl
theorem zero77_1028 : Tryd.zeroCells77[1028]? = some (.slice none 0 0) := by kernel_rfl

/-- The cells of a new decoder. -/
noncomputable def cells77 (r : Value) : Array Value := Tryd.zeroCells77.setIfInBounds 2 r
theorem cells77_size (r : Value) : (cells77 r).size = 2053 := by unfold cells77; rw [Array.size_setIfInBounds, zero77_size]
theorem cells77_at (r : Value) (i : Nat) (hi : i ≠ 2) : (cells77 r)[i]? = Tryd.zeroCells77[i]? := by
  unfold cells77
  rw [Array.getElem?_setIfInBounds_ne (by omega)]
theorem cells77_2 (r : Value) : (cells77 r)[2]? = some r := by
  unfold cells77
  rw [Array.getElem?_setIfInBounds_self_of_lt (by rw [zero77_size]; omega)]

set_option maxRecDepth 100000 in
set_option maxHeartbeats 2000000 in
theorem newDec_any (rt : TypeId) (rv : Value) (w : World) :
    Calls Tryd.prog 21 #[.iface rt rv] w fun e w' => e = .returned (.iface 75 (.pointer (some ⟨w.heap.size, 0, none⟩))) ∧ w' = w.alloc (.cells (cells77 (.iface rt rv)) 77) := by
  go_enter Tryd.func21, Tryd.ntmps21
  go_wp2
  go_ret
  exact ⟨rfl, rfl⟩
end Go.Proofs.YtfonpcfcelahdaaDoor
