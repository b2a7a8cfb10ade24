/-
  What bytes.Buffer's grow does: the buffer gets a new row; no other old block is touched.
-/
import Derived.Test.YtfonpcfcelahdaaDoorBuf1
import Derived.Test.YtfonpcfcelahdaaDoorCopy
import Derived.Lib.ByteType
import Derived.Lib.Walk
import Derived.Lib.Buffer
import Derived.Lib.BufferGrow
import Derived.Lib.BufferMore
import Derived.Lib.Hide
import Derived.WalkKit
import Derived.RegionTactic
import Derived.Deep.RegionWith
import Derived.Deep.Draws
import Derived.BigCall
import Derived.BigGuard
namespace Go.Proofs.YtfonpcfcelahdaaDoor
open Go.RowKit

/-- The buffer at block bb has a new row, whose first l cells are cs, with room for n more. -/
def Grown (w w' : World) (bb l n : Nat) (cs : List Value) : Prop :=
  ∃ g cap cur lr, w'.heap[bb]? = some (.cells #[.slice (some ⟨g, 0, none⟩) (l + n) cap, .int .i64 0, .int .i8 lr] 48 (0, 0)) ∧ w.heap.size ≤ g ∧ w'.heap[g]? = some (.cells cur 5 (0, 0)) ∧
    l + n ≤ cap ∧ cap ≤ maxLen ∧ cur.size = cap ∧ cur.toList.take l = cs ∧ w.grownBy w' (some bb)

theorem isBuf {w : World} {bb : Nat} {v : Value} {lr : Int} {bs : List Value} (h : w.heap[bb]? = some (.cells #[v, .int .i64 0, .int .i8 lr] 48 (0, 0))) (ho : w.ownsRow (bb + 1) 5 1 v bs.length bs) : Lib.IsBuffer 48 5 bb bb bs w :=
  ⟨Nat.le_refl _, v, lr, h, ⟨ho.1, by
    rcases ho.2 with h2 | ⟨g, cap, cur, e, hg, r⟩
    · exact .inl h2
    · exact .inr ⟨g, cap, cur, e, by omega, r⟩⟩, by
    rcases ho.2 with h2 | ⟨g, cap, cur, e, hg, r⟩
    · rw [h2.1]; simp [Value.ownBlock]
    · rw [e]; simp [Value.ownBlock]; omega⟩

theorem grownBy_size {w w' : World} {b : Nat} (h : w.grownBy w' (some b)) : w.heap.size ≤ w'.heap.size := h.size
theorem grownBy_set0 {w w' : World} {b : Nat} (h : w.grownBy w' (some b)) (i : Nat) (v : Value) : w.grownBy (w'.setCell ⟨b, i, none⟩ v) (some b) :=
  ⟨h.os, h.tape, h.output, by simpa using h.size, fun k hk hne => by
    rw [heap_setCell_other w' ⟨b, i, none⟩ k v (fun e => hne (by rw [e]))]
    exact h.block k hk hne⟩
theorem grownBy_below2 {w w1 w2 : World} {b : Nat} (h : w.grownBy w1 (some b)) (hb : Below w1.heap.size w1 w2) : w.grownBy w2 (some b) :=
  ⟨hb.os.trans h.os, hb.tape.trans h.tape, hb.output.trans h.output, Nat.le_trans h.size hb.size, fun k hk hne => (hb.block k (Nat.lt_of_lt_of_le hk h.size)).trans (h.block k hk hne)⟩

theorem grown_small {w W : World} {bb n : Nat} {lr : Int} {M : Array Value} (hbk : W.heap[bb]? = some (.cells #[.slice none 0 0, .int .i64 0, .int .i8 lr] 48 (0, 0))) (hM : M.size = 64) (h64 : n ≤ 64) (hg : w.grownBy W (some bb)) :
    Grown w ((W.setCell ⟨bb, 0, none⟩ (.slice (some ⟨W.heap.size, 0, none⟩) n 64)).alloc (.cells M 5)) bb 0 n [] := by
  have hb := Lib.lt_of_heap hbk
  have h1 := heap_setCell_same W bb 0 _ 48 (.slice (some ⟨W.heap.size, 0, none⟩) n 64) hbk
  have hz : (W.setCell ⟨bb, 0, none⟩ (.slice (some ⟨W.heap.size, 0, none⟩) n 64)).heap.size = W.heap.size := by simp
  have hg2 := grownBy_set0 hg 0 (.slice (some ⟨W.heap.size, 0, none⟩) n 64)
  generalize W.setCell ⟨bb, 0, none⟩ (.slice (some ⟨W.heap.size, 0, none⟩) n 64) = W1 at *
  refine ⟨W.heap.size, 64, M, lr, ?_, hg.size, ?_, by omega, by unfold maxLen; omega, hM, by simp, ?_⟩
  · rw [Below.heap_alloc W1 _ bb (by omega), h1, Nat.zero_add]; rfl
  · rw [← hz]; exact heap_alloc_new W1 _
  · exact ⟨hg2.os, hg2.tape, hg2.output, by simp; have := hg2.size; omega, fun k hk hne => (Below.heap_alloc W1 _ k (by have := hg2.size; omega)).trans (hg2.block k hk hne)⟩

theorem grown_row {w W : World} {bb g l n cap : Nat} {lr : Int} {v : Value} {cur : Array Value} {cs : List Value} (hbk : W.heap[bb]? = some (.cells #[v, .int .i64 0, .int .i8 lr] 48 (0, 0))) (hgr : w.heap.size ≤ g) (hgb : g ≠ bb) (hc : W.heap[g]? = some (.cells cur 5 (0, 0))) (h1 : l + n ≤ cap) (h2 : cap ≤ maxLen)
    (h3 : cur.size = cap) (h4 : cur.toList.take l = cs) (hg : w.grownBy W (some bb)) (L : Nat) (hL : L = l + n) :
    Grown w (((W.setCell ⟨bb, 0, none⟩ (.slice (some ⟨g, 0, none⟩) l cap)).setCell ⟨bb, 1, none⟩ (.int .i64 0)).setCell ⟨bb, 0, none⟩ (.slice (some ⟨g, 0, none⟩) L cap)) bb l n cs := by
  subst hL
  have e1 := heap_setCell_same W bb 0 _ 48 (.slice (some ⟨g, 0, none⟩) l cap) hbk
  have o1 := heap_setCell_other W ⟨bb, 0, none⟩ g (.slice (some ⟨g, 0, none⟩) l cap) hgb
  have g1 := grownBy_set0 hg 0 (.slice (some ⟨g, 0, none⟩) l cap)
  generalize W.setCell ⟨bb, 0, none⟩ (.slice (some ⟨g, 0, none⟩) l cap) = W1 at *
  have e2 := heap_setCell_same W1 bb 1 _ 48 (.int .i64 0) e1
  have o2 := heap_setCell_other W1 ⟨bb, 1, none⟩ g (.int .i64 0) hgb
  have g2 := grownBy_set0 g1 1 (.int .i64 0)
  generalize W1.setCell ⟨bb, 1, none⟩ (.int .i64 0) = W2 at *
  have e3 := heap_setCell_same W2 bb 0 _ 48 (.slice (some ⟨g, 0, none⟩) (l + n) cap) e2
  have o3 := heap_setCell_other W2 ⟨bb, 0, none⟩ g (.slice (some ⟨g, 0, none⟩) (l + n) cap) hgb
  have g3 := grownBy_set0 g2 0 (.slice (some ⟨g, 0, none⟩) (l + n) cap)
  exact ⟨g, cap, cur, lr, e3, hgr, by rw [o3, o2, o1, hc], h1, h2, h3, h4, g3⟩

set_option maxRecDepth 100000 in
set_option maxHeartbeats 12800000 in
theorem grow_small (bb n : Nat) (lr : Int) (w : World) (hbk : w.heap[bb]? = some (.cells #[.slice none 0 0, .int .i64 0, .int .i8 lr] 48 (0, 0))) (hn : 1 ≤ n) (h64 : n ≤ 64) :
    Calls Tryd.prog 53 #[.pointer (some ⟨bb, 0, none⟩), .int .i64 n] w fun e w' => e = .returned (.int .i64 0) ∧ Grown w w' bb 0 n [] := by
  obtain ⟨i0, hi, hz0, hz1, hz2⟩ := info_parts Tryd.info5
  obtain ⟨M, hM⟩ : ∃ M, M = madeCells (Value.int .u8 0).cells ((64 : Int).toNat * i0.size) := ⟨_, rfl⟩
  have hMs : M.size = 64 := by rw [hM, size_madeCells, hz1]; rfl
  have hmk : ∀ W : World, (Instr.makeSlice 22 (.int .i64 (n : Int)) (.int .i64 64)).run Tryd.prog W = .ok (.slice (some ⟨W.heap.size, 0, none⟩) n 64) (W.alloc (.cells M 5)) := fun W => by
    have h := run_makeSlice (P := Tryd.prog) W 22 5 i0 (.int .u8 0) Tryd.underlying22 hi hz0 .i64 .i64 (n : Int) 64 (by omega) (by omega) (by rw [hz1]; decide) (by rw [hz2]; decide) (by decide)
    rw [← hM] at h
    simpa using h
  clear hM
  have hnil : ∀ W, (binOp .eql 22 (.slice none 0 0) (.slice none 0 0)).run Tryd.prog W = .ok (.bool true) W := fun W => Lib.run_eql_slice_nil_nil W _ _ Tryd.underlying22
  have hIs := isBuf hbk (World.ownsRow_nil w (bb + 1) 5 1)
  go_enter Tryd.func53, Tryd.ntmps53
  go_wp2_with (go_at_call 54; refine (Tryd.buf_len bb bb [] _ hIs).mono ?_)
  rintro e W0 ⟨rfl, k, hW0⟩
  have hbk0 : W0.heap[bb]? = some (.cells #[.slice none 0 0, .int .i64 0, .int .i8 lr] 48 (0, 0)) := by rw [hW0]; exact hbk
  have c0 : W0.cell? ⟨bb, 0, none⟩ = some (.slice none 0 0) := by rw [Lib.cell_of_heap hbk0]; rfl
  have c1 : W0.cell? ⟨bb, 1, none⟩ = some (.int .i64 0) := by rw [Lib.cell_of_heap hbk0]; rfl
  have f0 : W0.frozen? ⟨bb, 0, none⟩ = false := Lib.frozen_of_heap hbk0 0
  have hbW0 := Lib.lt_of_heap hbk0
  have c0a : ∀ o, (W0.alloc o).cell? ⟨bb, 0, none⟩ = some (.slice none 0 0) := fun o => (World.cell?_of_block (a := ⟨bb, 0, none⟩) (Below.heap_alloc W0 o bb hbW0)).trans c0
  have f0a : ∀ o, (W0.alloc o).frozen? ⟨bb, 0, none⟩ = false := fun o => (World.frozen?_of_block (a := ⟨bb, 0, none⟩) (Below.heap_alloc W0 o bb hbW0)).trans f0
  have HW0 := Lib.hid hW0
  clear hW0 hIs
  go_wp2_with (go_at_call 52; refine (Tryd.try_none bb _ 0 0 n _ c0 (Nat.le_refl _) (Nat.zero_le _) (by omega)).mono ?_; rintro e w' ⟨rfl, rfl⟩)
  go_ret
  refine ⟨rfl, grown_small hbk0 hMs h64 ?_⟩
  rw [HW0.out]
  exact ⟨rfl, rfl, rfl, Nat.le_refl _, fun _ _ _ => rfl⟩

set_option maxRecDepth 100000 in
set_option maxHeartbeats 12800000 in
theorem grow_big (bb n : Nat) (lr : Int) (w : World) (hbk : w.heap[bb]? = some (.cells #[.slice none 0 0, .int .i64 0, .int .i8 lr] 48 (0, 0))) (h64 : 64 < n) (hlim : n ≤ 140737488355328) :
    Calls Tryd.prog 53 #[.pointer (some ⟨bb, 0, none⟩), .int .i64 n] w fun e w' => e = .returned (.int .i64 0) ∧ Grown w w' bb 0 n [] := by
  have hn : 1 ≤ n := by omega
  have hnil : ∀ W, (binOp .eql 22 (.slice none 0 0) (.slice none 0 0)).run Tryd.prog W = .ok (.bool true) W := fun W => Lib.run_eql_slice_nil_nil W _ _ Tryd.underlying22
  have hIs := isBuf hbk (World.ownsRow_nil w (bb + 1) 5 1)
  go_enter Tryd.func53, Tryd.ntmps53
  go_wp2_with (go_at_call 54; refine (Tryd.buf_len bb bb [] _ hIs).mono ?_)
  rintro e W0 ⟨rfl, k, hW0⟩
  have hbk0 : W0.heap[bb]? = some (.cells #[.slice none 0 0, .int .i64 0, .int .i8 lr] 48 (0, 0)) := by rw [hW0]; exact hbk
  have c0 : W0.cell? ⟨bb, 0, none⟩ = some (.slice none 0 0) := by rw [Lib.cell_of_heap hbk0]; rfl
  have c1 : W0.cell? ⟨bb, 1, none⟩ = some (.int .i64 0) := by rw [Lib.cell_of_heap hbk0]; rfl
  have f0 : W0.frozen? ⟨bb, 0, none⟩ = false := Lib.frozen_of_heap hbk0 0
  have f1 : W0.frozen? ⟨bb, 1, none⟩ = false := Lib.frozen_of_heap hbk0 1
  have hbW := Lib.lt_of_heap hbk0
  have HW0 := Lib.hid hW0
  clear hW0 hIs
  go_wp2_with (go_at_call 52; refine (Tryd.try_none bb _ 0 0 n _ c0 (Nat.le_refl _) (Nat.zero_le _) (by omega)).mono ?_; rintro e w' ⟨rfl, rfl⟩)
  have hwn : IntKind.i64.wrap (n : Int) = n := by rw [IntKind.wrap_i64]; omega
  go_region_with (
      go_at_call 55
      refine (Tryd.grow_nil n _ hn hlim).mono ?_
      rintro e w2 ⟨cap2, cells, rfl, hN, hcsz, hcap2, hcm2, hbel⟩
      have hbk2 : w2.heap[bb]? = some (.cells #[.slice none 0 0, .int .i64 0, .int .i8 lr] 48 (0, 0)) := (hbel.block bb hbW).trans hbk0
      have d0 : w2.cell? ⟨bb, 0, none⟩ = some (.slice none 0 0) := by rw [Lib.cell_of_heap hbk2]; rfl
      have d1 : w2.cell? ⟨bb, 1, none⟩ = some (.int .i64 0) := by rw [Lib.cell_of_heap hbk2]; rfl
      have e0 : w2.frozen? ⟨bb, 0, none⟩ = false := Lib.frozen_of_heap hbk2 0
      have e1 : w2.frozen? ⟨bb, 1, none⟩ = false := Lib.frozen_of_heap hbk2 1)
  all_goals (
    go_wp2
    go_ret
    have hg2 : w.grownBy w2 (some bb) := grownBy_below2 (w1 := w'.drew) (by rw [HW0.out]; exact ⟨rfl, rfl, rfl, Nat.le_refl _, fun _ _ _ => rfl⟩) hbel
    have hsz : w.heap.size ≤ w'.heap.size := by rw [HW0.out]; exact Nat.le_refl _
    refine ⟨rfl, grown_row hbk2 (g := w'.heap.size) hsz (by omega) hN (by omega) hcm2 hcsz (by simp) hg2 _ (by omega)⟩)

set_option maxRecDepth 100000 in
set_option maxHeartbeats 12800000 in
theorem grow_more (bb g l cap n : Nat) (lr : Int) (cur : Array Value) (bs : List Value) (w : World) (hbk : w.heap[bb]? = some (.cells #[.slice (some ⟨g, 0, none⟩) l cap, .int .i64 0, .int .i8 lr] 48 (0, 0)))
    (hl : bs.length = l) (hl0 : 0 < l) (hBg : bb < g) (hg : w.heap[g]? = some (.cells cur 5 (0, 0))) (hlc : l ≤ cap) (hcm : cap ≤ maxLen) (hcs : cur.size = cap) (htake : cur.toList.take l = bs)
    (h1 : ∀ v ∈ bs, v.oneCell' = true) (hn : 1 ≤ n) (hroom : cap - l < n) (hlim : l + n ≤ 140737488355328) :
    Calls Tryd.prog 53 #[.pointer (some ⟨bb, 0, none⟩), .int .i64 n] w fun e w' => e = .returned (.int .i64 l) ∧ Grown w w' bb l n bs := by
  have hIs := isBuf (bs := bs) hbk ⟨by rw [hl, Nat.mul_one], .inr ⟨g, cap, cur, by rw [hl], by omega, hg, by omega, hcm, by omega, by rw [hl, Nat.mul_one]; exact htake⟩⟩
  have hnil : ∀ W, (binOp .eql 22 (.slice (some ⟨g, 0, none⟩) l cap) (.slice none 0 0)).run Tryd.prog W = .ok (.bool false) W := fun W => Lib.run_eql_slice_some_nil W _ _ _ Tryd.underlying22
  go_enter Tryd.func53, Tryd.ntmps53
  go_wp2_with (go_at_call 54; refine (Tryd.buf_len bb bb bs _ hIs).mono ?_)
  rintro e W0 ⟨rfl, k, hW0⟩
  rw [hl]
  have hbk0 : W0.heap[bb]? = some (.cells #[.slice (some ⟨g, 0, none⟩) l cap, .int .i64 0, .int .i8 lr] 48 (0, 0)) := by rw [hW0]; exact hbk
  have hg0 : W0.heap[g]? = some (.cells cur 5 (0, 0)) := by rw [hW0]; exact hg
  have c0 : W0.cell? ⟨bb, 0, none⟩ = some (.slice (some ⟨g, 0, none⟩) l cap) := by rw [Lib.cell_of_heap hbk0]; rfl
  have c1 : W0.cell? ⟨bb, 1, none⟩ = some (.int .i64 0) := by rw [Lib.cell_of_heap hbk0]; rfl
  have f0 : W0.frozen? ⟨bb, 0, none⟩ = false := Lib.frozen_of_heap hbk0 0
  have f1 : W0.frozen? ⟨bb, 1, none⟩ = false := Lib.frozen_of_heap hbk0 1
  have hbW := Lib.lt_of_heap hbk0
  have HW0 := Lib.hid hW0
  have hcm' := hcm
  unfold maxLen at hcm'
  clear hW0 hIs
  go_wp2_with (go_at_call 52; refine (Tryd.try_none bb _ l cap n _ c0 hlc hcm hroom).mono ?_; rintro e w' ⟨rfl, rfl⟩)
  have hc2 : cap ≤ 140737488355328 := by omega
  have h1' : ∀ v ∈ cur.toList.take l, v.oneCell' = true := by rw [htake]; exact h1
  have hwn : IntKind.i64.wrap (n : Int) = n := by rw [IntKind.wrap_i64]; omega
  go_region_with (
      go_at_call 55
      refine (Tryd.grow_row g l cap n cur _ ?_ hcs hlc hn hlim hc2 h1').mono ?_
      exact hg0
      rintro e w2 ⟨cap2, cells, rfl, hN, hcsz, htk, hcap2, hcm2, hbel⟩
      have hbk2 : w2.heap[bb]? = some (.cells #[.slice (some ⟨g, 0, none⟩) l cap, .int .i64 0, .int .i8 lr] 48 (0, 0)) := (hbel.block bb hbW).trans hbk0
      have d0 : w2.cell? ⟨bb, 0, none⟩ = some (.slice (some ⟨g, 0, none⟩) l cap) := by rw [Lib.cell_of_heap hbk2]; rfl
      have d1 : w2.cell? ⟨bb, 1, none⟩ = some (.int .i64 0) := by rw [Lib.cell_of_heap hbk2]; rfl
      have e0 : w2.frozen? ⟨bb, 0, none⟩ = false := Lib.frozen_of_heap hbk2 0
      have e1 : w2.frozen? ⟨bb, 1, none⟩ = false := Lib.frozen_of_heap hbk2 1)
  all_goals (
    go_wp2
    go_ret
    have hg2 : w.grownBy w2 (some bb) := grownBy_below2 (w1 := w'.drew) (by rw [HW0.out]; exact ⟨rfl, rfl, rfl, Nat.le_refl _, fun _ _ _ => rfl⟩) hbel
    have hsz : w.heap.size ≤ w'.heap.size := by rw [HW0.out]; exact Nat.le_refl _
    exact ⟨rfl, grown_row hbk2 (g := w'.heap.size) hsz (by omega) hN hcap2 hcm2 hcsz (htk.trans htake) hg2 _ rfl⟩)
end Go.Proofs.YtfonpcfcelahdaaDoor
