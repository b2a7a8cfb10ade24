/-
  What the rows of this seat list of package-level variables: what it gives, and a world that meets it.
-/
import Derived.Test.YtfonpcfcelahdaaDoorRows
import Derived.WalkKit
import Derived.ProofKit
import Derived.ChangeSame
import Derived.ChangeVars
import Derived.JoinedOf
import Derived.RowKit
import Derived.RowKitTokens
import Derived.LaidLaws
import Derived.LaidHandle
import Derived.Stop.Joined
import Derived.Stop.LaidErr
namespace Go.Proofs.YtfonpcfcelahdaaDoor
open Go.ChangeShapes Go.WideShapes Go.RowKit

theorem Tryd.own : ownKnob Tryd.prog.godebug = none := by kernel_rfl
theorem Tryd.laidOut : laidOutB Tryd.prog = true := by kernel_rfl

noncomputable def low : Nat := (World.holding Tryd.prog default ⟨#[], #[], []⟩).heap.size

/-- A world that meets what the rows list: the settled one, the two variables laid. -/
noncomputable def laidWorld (os : Os) : World :=
  let w0 := World.holding Tryd.prog os ⟨#[.cells #[.string ⟨#[69, 79, 70]⟩] 130], #[], []⟩
  { w0 with heap := (w0.heap.modify 0 fun
      | .cells _ t frozen => .cells #[.iface 104 (.pointer (some ⟨low, 0, none⟩))] t frozen
      | o => o).modify 1 fun
      | .cells _ t frozen => .cells #[.iface 92 (.agg #[.pointer (some ⟨3, 41, none⟩)])] t frozen
      | o => o }
theorem laidWorld_eof (os : Os) (args : Array Value) : laidMet Tryd.prog [("io.EOF", Rows.laid_io_EOF)] ((laidWorld os).forCall (fun _ _ => 0) ⟨#[], args, []⟩).memory :=
  laidMet_of_run (ps := [.cell 0 0, .cell low 0]) 8 (by kernel_rfl) (by kernel_rfl) (by kernel_rfl)
theorem laidWorld_met (os : Os) (args : Array Value) : laidMetH Tryd.prog [("errors.errorType", Rows.laid_errors_errorType), ("io.EOF", Rows.laid_io_EOF)] ((laidWorld os).forCall (fun _ _ => 0) ⟨#[], args, []⟩).memory :=
  laidMetH_of_parts (laidWorld_eof os args) (by kernel_rfl)
theorem laidWorld_met1 (os : Os) (args : Array Value) : laidMetH Tryd.prog [("io.EOF", Rows.laid_io_EOF)] ((laidWorld os).forCall (fun _ _ => 0) ⟨#[], args, []⟩).memory :=
  laidMetH_of_parts (laidWorld_eof os args) (by kernel_rfl)
end Go.Proofs.YtfonpcfcelahdaaDoor
