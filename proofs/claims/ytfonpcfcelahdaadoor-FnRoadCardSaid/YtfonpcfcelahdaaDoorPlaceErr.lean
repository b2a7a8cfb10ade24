/-
  impl.place of a CorruptInputError.
-/
import Derived.Test.YtfonpcfcelahdaaDoorAsHit
import Derived.Test.YtfonpcfcelahdaaDoorEof
import Derived.Test.YtfonpcfcelahdaaDoorOpen
import Derived.Test.YtfonpcfcelahdaaDoorStart
namespace Go.Proofs.YtfonpcfcelahdaaDoor
open Go.RowKit

set_option maxRecDepth 100000 in
set_option maxHeartbeats 4000000 in
theorem place_err (i : Int) (ea : Addr) (w : World) (hv : w.cell? ⟨0, 0, none⟩ = some (.iface 104 (.pointer (some ea)))) (hg : w.cell? ⟨1, 0, none⟩ = some (.iface 92 (.agg #[.pointer (some ⟨3, 41, none⟩)]))) :
    Calls Tryd.prog 18 #[.iface 65 (.int .i64 i)] w fun e w' => e = .returned (.int .i64 i) ∧ Below w.heap.size w w' := by
  have hw0 : 0 < w.heap.size := block_lt hv
  have hw1 : 1 < w.heap.size := block_lt hg
  have hq := fun W => eof_other W (.int .i64 i) (.pointer (some ea))
  obtain ⟨w1, hw⟩ : ∃ w1, w1 = w.alloc (.cells #[.int .i64 0] 65) := ⟨_, rfl⟩
  have hg1 : w1.cell? ⟨1, 0, none⟩ = some (.iface 92 (.agg #[.pointer (some ⟨3, 41, none⟩)])) := by rw [hw, World.cell?_alloc_lt _ _ ⟨1, 0, none⟩ hw1]; exact hg
  have hc : w1.cell? ⟨w.heap.size, 0, none⟩ = some (.int .i64 0) := by rw [hw, World.cell?_alloc_at _ _ _ _ rfl]; rfl
  have hf : w1.frozen? ⟨w.heap.size, 0, none⟩ = false := by rw [hw]; simp
  have HIT := Lib.hid (as_hit i ⟨w.heap.size, 0, none⟩ (.int .i64 0) w1 hg1 hc hf)
  have HB1 : Hid (Below w.heap.size w w1) := by rw [hw]; exact (Below.refl _ _).alloc (Nat.le_refl _) _
  have HZ : Hid (w1.heap.size = w.heap.size + 1) := by rw [Hid, hw]; simp
  clear hg1 hc hf
  go_enter Tryd.func18, Tryd.ntmps18
  go_wp2_with (go_at_call 22; rw [← hw]; refine HIT.out.mono ?_; rintro e w2 ⟨rfl, rfl⟩)
  go_ret
  exact ⟨rfl, (((((Below.refl _ _).alloc (Nat.le_refl _) _).alloc (by simp only [alloc_size_]; omega) _).alloc (by simp only [alloc_size_]; omega) _).alloc (by simp only [alloc_size_]; omega) _).alloc (by simp only [alloc_size_]; omega) _⟩
end Go.Proofs.YtfonpcfcelahdaaDoor
