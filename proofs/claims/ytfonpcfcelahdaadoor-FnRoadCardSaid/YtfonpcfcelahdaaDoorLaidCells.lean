/-
  What the two package-level variables hold.
-/
import Derived.Test.YtfonpcfcelahdaaDoorLaw5Walk
import Derived.Test.YtfonpcfcelahdaaDoorRows
import Derived.LaidHandle
import Derived.Stop.LaidErr
namespace Go.Proofs.YtfonpcfcelahdaaDoor
open Go.RowKit

theorem lc_et : Tryd.prog.globalNamed "errors.errorType" = some 1 := by kernel_rfl
theorem lc_rt : (Tryd.prog.cutTypes.find? (·.1 == "internal/reflectlite.rtype")).map (·.2) = some 92 := by kernel_rfl
theorem lc_one : ((List.range 142).filter fun t => Tryd.prog.rowNamed t [101, 114, 114, 111, 114]) = [41] := by kernel_rfl
theorem lc_size : Tryd.prog.types.size = 142 := by kernel_rfl
theorem handle_of_laid {W : World} (h : laidMetH Tryd.prog [("errors.errorType", Rows.laid_errors_errorType), ("io.EOF", Rows.laid_io_EOF)] W) : W.cell? ⟨1, 0, none⟩ = some (.iface 92 (.agg #[.pointer (some ⟨3, 41, none⟩)])) := by
  obtain ⟨name, u, ty, e1, e2, e3, e4, e5⟩ := h.2 ("errors.errorType", Rows.laid_errors_errorType) (List.mem_cons_self ..)
  have en : name = [101, 114, 114, 111, 114] := (Option.some.inj e1).symm
  subst en
  obtain rfl := Option.some.inj (lc_rt.symm.trans e2)
  have hm : ty ∈ (List.range 142).filter fun t => Tryd.prog.rowNamed t [101, 114, 114, 111, 114] := List.mem_filter.2 ⟨List.mem_range.2 (by rw [← lc_size]; exact e3), e4⟩
  rw [lc_one] at hm
  obtain rfl := List.mem_singleton.1 hm
  have hh : typeHandle Tryd.prog 41 = .pointer (some ⟨3, 41, none⟩) := by kernel_rfl
  rw [hh] at e5
  simpa using World.var?_cell lc_et e5 0

theorem lc_gE : Tryd.prog.globalNamed "io.EOF" = some 0 := by kernel_rfl
theorem lc_gT : (Tryd.prog.globals[0]?).map (·.type) = some 41 := by kernel_rfl
theorem lc_c130 : Tryd.prog.cellsOf 130 = 1 := by kernel_rfl
theorem lc_c9 : Tryd.prog.cellsOf 9 = 1 := by kernel_rfl
theorem lc_star : ("*" ++ "errors.errorString" : String) = "*errors.errorString" := by decide
theorem lc_row (u : TypeId) (h : Tryd.prog.typeName? 3 u = some "*errors.errorString") : u = 104 :=
  typeName_ptr_named (nm := "errors.errorString") (by rw [lc_star]; kernel_rfl) (by kernel_rfl) (by decide) u (by rw [lc_star]; exact h)
theorem eof_of_laid {W : World} (h : laidMetH Tryd.prog [("errors.errorType", Rows.laid_errors_errorType), ("io.EOF", Rows.laid_io_EOF)] W) : ∃ ea, W.cell? ⟨0, 0, none⟩ = some (.iface 104 (.pointer (some ea))) := by
  have h1 : laidMet Tryd.prog [("io.EOF", Rows.laid_io_EOF)] W := h.1
  obtain ⟨a0, sa, hva, _, _, _⟩ := laid_sentinel h1 lc_gE lc_gT Tryd.underlying41 lc_row Tryd.underlying104 Tryd.underlying130 rfl rfl Tryd.underlying9 lc_c130 lc_c9
  exact ⟨a0, by simpa using World.var?_cell lc_gE hva 0⟩
theorem fnWrong_walk {A G : Option Addr} {n c m gc : Nat} {xs gs : List Int} {z x : Int} (w : World) (hL : laidMetH Tryd.prog [("errors.errorType", Rows.laid_errors_errorType), ("io.EOF", Rows.laid_io_EOF)] w) (h : Src w w.heap.size A n c xs) (hg : Ints w w.heap.size G m gc gs) (hz : (Lit.int .i64 z).wf = true) (hx : (Lit.int .u8 x).wf = true) :
    Calls Tryd.prog 6 #[.slice A n c, .slice G m gc, .int .i64 z, .int .u8 x] w fun e w' => e = .returned (.bool true) ∧ Below w.heap.size w w' := by
  obtain ⟨ea, he⟩ := eof_of_laid hL
  have hb := bounds_u8 hx
  exact law5_walk A G n c m gc ea z x xs gs w h hg (by have := bounds_i64 hz; omega) hb.1 (by omega) he (handle_of_laid hL)
end Go.Proofs.YtfonpcfcelahdaaDoor
