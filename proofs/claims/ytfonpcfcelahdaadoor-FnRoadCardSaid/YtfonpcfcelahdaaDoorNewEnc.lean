/-
  NewEncoder; a new encoder.
-/
import Derived.Test.YtfonpcfcelahdaaDoorEncWr1
import Derived.Test.YtfonpcfcelahdaaDoorStart
namespace Go.Proofs.YtfonpcfcelahdaaDoor
open Go.RowKit

theorem zero74_size : Tryd.zeroCells74.size = 1031 := by kernel_rfl
theorem zero74_0 : Tryd.zeroCells74[0]? = some .nilIface := by kernel_rfl
theorem zero74_6 : Tryd.zeroCells74[6]? = some (.int .i64 0) := by kernel_rfl

/-- The cells of a new encoder. -/
noncomputable def cells74 (r : Value) : Array Value := Tryd.zeroCells74.setIfInBounds 1 r
theorem cells74_size (r : Value) : (cells74 r).size = 1031 := by unfold cells74; rw [Array.size_setIfInBounds, zero74_size]
theorem cells74_at (r : Value) (i : Nat) (hi : i ≠ 1) : (cells74 r)[i]? = Tryd.zeroCells74[i]? := by
  unfold cells74
  rw [Array.getElem?_setIfInBounds_ne (by omega)]
theorem cells74_1 (r : Value) : (cells74 r)[1]? = some r := by
  unfold cells74
  rw [Array.getElem?_setIfInBounds_self_of_lt (by rw [zero74_size]; omega)]

set_option maxRecDepth 100000 in
set_option maxHeartbeats 2000000 in
theorem newEnc_any (rt : TypeId) (rv : Value) (w : World) :
    Calls Tryd.prog 19 #[.iface rt rv] w fun e w' => e = .returned (.iface 70 (.pointer (some ⟨w.heap.size, 0, none⟩))) ∧ w' = w.alloc (.cells (cells74 (.iface rt rv)) 74) := by
  go_enter Tryd.func19, Tryd.ntmps19
  go_wp2
  go_ret
  exact ⟨rfl, rfl⟩

/-- The world behind 'var out bytes.Buffer' and NewEncoder. -/
noncomputable def encWorld (w : World) : World :=
  (w.alloc (.cells #[.slice none 0 0, .int .i64 0, .int .i8 0] 48)).alloc (.cells (cells74 (.iface 52 (.pointer (some ⟨w.heap.size, 0, none⟩)))) 74)

theorem ESt.start (w : World) : ESt (encWorld w) (w.heap.size + 1) w.heap.size (.slice none 0 0) [] [] := by
  unfold encWorld
  obtain ⟨w1, hw1⟩ : ∃ w1, w1 = w.alloc (.cells #[.slice none 0 0, .int .i64 0, .int .i8 0] 48) := ⟨_, rfl⟩
  rw [← hw1]
  have z1 : w1.heap.size = w.heap.size + 1 := by rw [hw1, alloc_size_]
  have n1 : w1.heap[w.heap.size]? = some (.cells #[.slice none 0 0, .int .i64 0, .int .i8 0] 48) := by rw [hw1, alloc_new]
  obtain ⟨cs, hcs⟩ : ∃ cs, cs = cells74 (.iface 52 (.pointer (some ⟨w.heap.size, 0, none⟩))) := ⟨_, rfl⟩
  rw [← hcs]
  have cz : cs.size = 1031 := by rw [hcs, cells74_size]
  have g0 : cs[0]? = some .nilIface := by rw [hcs, cells74_at _ _ (by omega), zero74_0]
  have g1 : cs[1]? = some (.iface 52 (.pointer (some ⟨w.heap.size, 0, none⟩))) := by rw [hcs, cells74_1]
  have g6 : cs[6]? = some (.int .i64 0) := by rw [hcs, cells74_at _ _ (by omega), zero74_6]
  clear hcs hw1
  obtain ⟨w2, hw2⟩ : ∃ w2, w2 = w1.alloc (.cells cs 74) := ⟨_, rfl⟩
  rw [← hw2]
  have n2 : w2.heap[w.heap.size + 1]? = some (.cells cs 74) := by rw [hw2, ← z1, alloc_new]
  have o2 : w2.heap[w.heap.size]? = some (.cells #[.slice none 0 0, .int .i64 0, .int .i8 0] 48) := by rw [hw2, alloc_old _ _ _ (by omega), n1]
  clear hw2 n1 z1
  have d := fun i => cell_of_row w2 (w.heap.size + 1) i cs 74 (0, 0) n2
  exact ⟨⟨cs, 74, n2, by omega⟩, (d 0).trans g0, (d 1).trans g1, Has.nil, by simp, (d 6).trans g6, ⟨⟨0, o2⟩, Own.nil⟩, fun _ => rfl, rfl, (fun x hx => by cases hx), (fun x hx => by cases hx), by omega, by simp [Value.ownBlock]⟩

theorem encWorld_size (w : World) : (encWorld w).heap.size = w.heap.size + 2 := by unfold encWorld; rw [alloc_size_, alloc_size_]
theorem encWorld_below (w : World) : Below w.heap.size w (encWorld w) := ((Below.refl _ _).alloc (Nat.le_refl _) _).alloc (by rw [alloc_size_]; omega) _

set_option maxRecDepth 100000 in
set_option maxHeartbeats 1000000 in
/-- (*bytes.Buffer).Bytes. -/
theorem bufBytes_any (bb : Nat) (v : Value) (bs : List Int) (w : World) (h : BSt w bb v bs) :
    Calls Tryd.prog 20 #[.pointer (some ⟨bb, 0, none⟩)] w fun e w' => e = .returned v ∧ ∃ k, w' = w.drewN k := by
  obtain ⟨⟨lr, hbk⟩, hby, hlen, hown⟩ := h
  have c0 : w.cell? ⟨bb, 0, none⟩ = some v := by rw [Lib.cell_of_heap hbk]; rfl
  have c1 : w.cell? ⟨bb, 1, none⟩ = some (.int .i64 0) := by rw [Lib.cell_of_heap hbk]; rfl
  have hsl : ∀ W, (Instr.slice 22 v (some (.int .i64 0)) none none).run Tryd.prog W = .ok v W := by
    intro W
    have hs : ∀ w : World, (sizeOf (Tryd.prog.elem 22)).run Tryd.prog w = .ok 1 w := fun w => by kernel_rfl
    rcases hown with ⟨rfl, h0⟩ | ⟨g, cap, cur, rfl, hg, hh, hn, hm, hc, ht⟩
    · rw [run_slice_l (P := Tryd.prog) W 22 none 0 0 (by kernel_rfl) .i64 0 (by omega) (by omega), hs]
      simp [sliced, Result.andThen]
    · rw [run_slice_l (P := Tryd.prog) W 22 (some ⟨g, 0, none⟩) bs.length cap (by kernel_rfl) .i64 0 (by omega) (by omega), hs]
      simp [sliced, Result.andThen, add_off]
  clear hbk hlen hown hby
  go_enter Tryd.func20, Tryd.ntmps20
  go_wp2
  go_region
  all_goals
    go_wp2
    go_ret
    exact ⟨rfl, 1, rfl⟩
end Go.Proofs.YtfonpcfcelahdaaDoor
