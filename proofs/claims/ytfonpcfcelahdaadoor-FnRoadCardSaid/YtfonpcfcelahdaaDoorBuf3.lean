/-
  What (*bytes.Buffer).Write does: the bytes are put behind those that the buffer holds; no other old block but the buffer and its row is touched.
-/
import Derived.Test.YtfonpcfcelahdaaDoorBuf2
namespace Go.Proofs.YtfonpcfcelahdaaDoor
open Go.RowKit

/-- All old blocks but those of M are as they were. -/
structure Frm (M : Nat → Prop) (w w' : World) : Prop where
  os : w'.os = w.os
  tape : w'.tape = w.tape
  output : w'.output = w.output
  size : w.heap.size ≤ w'.heap.size
  block : ∀ k, k < w.heap.size → ¬ M k → w'.heap[k]? = w.heap[k]?

theorem Frm.refl (M : Nat → Prop) (w : World) : Frm M w w := ⟨rfl, rfl, rfl, Nat.le_refl _, fun _ _ _ => rfl⟩
theorem Frm.trans {M M' : Nat → Prop} {w w1 w2 : World} (h : Frm M w w1) (k : Frm M' w1 w2) (hm : ∀ i, i < w.heap.size → M' i → M i) : Frm M w w2 :=
  ⟨k.os.trans h.os, k.tape.trans h.tape, k.output.trans h.output, Nat.le_trans h.size k.size, fun i hi hn => (k.block i (Nat.lt_of_lt_of_le hi h.size) (fun e => hn (hm i hi e))).trans (h.block i hi hn)⟩
theorem Frm.mono {M M' : Nat → Prop} {w w1 : World} (h : Frm M w w1) (hm : ∀ i, i < w.heap.size → M i → M' i) : Frm M' w w1 := ⟨h.os, h.tape, h.output, h.size, fun i hi hn => h.block i hi (fun e => hn (hm i hi e))⟩
theorem Frm.below {M : Nat → Prop} {w w1 : World} {B : Nat} (h : Frm M w w1) (hm : ∀ i, M i → B ≤ i) (hB : B ≤ w.heap.size) : Below B w w1 := ⟨h.os, h.tape, h.output, h.size, fun i hi => h.block i (by omega) (fun e => by have := hm i e; omega)⟩
theorem Frm.drewN {M : Nat → Prop} {w w1 : World} (h : Frm M w w1) (k : Nat) : Frm M w (w1.drewN k) := ⟨h.os, h.tape, h.output, h.size, h.block⟩
theorem Frm.drew {M : Nat → Prop} {w w1 : World} (h : Frm M w w1) : Frm M w w1.drew := ⟨h.os, h.tape, h.output, h.size, h.block⟩
theorem Frm.wrote {M : Nat → Prop} {w w1 w2 : World} {b off len : Nat} (h : Frm M w w1) (k : Wrote w1 w2 b off len) (hb : b < w.heap.size → M b) : Frm M w w2 :=
  ⟨k.os.trans h.os, k.tape.trans h.tape, k.output.trans h.output, Nat.le_trans h.size (Nat.le_of_eq k.size.symm), fun i hi hn => (k.block i (fun e => hn (e ▸ hb (e ▸ hi)))).trans (h.block i hi hn)⟩
theorem Frm.grown {M : Nat → Prop} {w w1 : World} {b : Nat} (h : w.grownBy w1 (some b)) (hb : M b) : Frm M w w1 := ⟨h.os, h.tape, h.output, h.size, fun i hi hn => h.block i hi (fun e => hn (by injection e with e; exact e ▸ hb))⟩

/-- The buffer at block bb holds the bytes bs, in the slice v. -/
structure BSt (w : World) (bb : Nat) (v : Value) (bs : List Int) : Prop where
  row : ∃ lr, w.heap[bb]? = some (.cells #[v, .int .i64 0, .int .i8 lr] 48 (0, 0))
  own : Own w (bb + 1) v bs

/-- The blocks that a Write to the buffer may touch. -/
def BMine (bb : Nat) (v : Value) (k : Nat) : Prop := k = bb ∨ v.ownBlock = some k

theorem Own.of_has {w : World} {B g cap : Nat} {cur : Array Value} {xs : List Int} (hc : w.heap[g]? = some (.cells cur 5 (0, 0))) (hh : Has w g 0 xs) (hb : AllBytes xs) (hl : xs.length ≤ cap) (hm : cap ≤ maxLen) (hz : cur.size = cap) (hB : B ≤ g) :
    Own w B (.slice (some ⟨g, 0, none⟩) xs.length cap) xs := by
  refine ⟨hb, by simp, .inr ⟨g, cap, cur, rfl, hB, hc, hl, hm, by omega, ?_⟩⟩
  rw [Nat.mul_one]
  refine List.ext_getElem? fun i => ?_
  rw [List.getElem?_take]
  by_cases hi : i < xs.length
  · rw [if_pos hi]
    have := hh i hi
    rw [Nat.zero_add, cell_of_row w g i cur 5 (0, 0) hc] at this
    rw [Array.getElem?_toList, this]
    simp [List.getD, List.getElem?_eq_getElem hi]
  · rw [if_neg hi, List.getElem?_eq_none (by simp; omega)]

theorem has_of_take {w : World} {g l : Nat} {cur : Array Value} {xs : List Int} (hc : w.heap[g]? = some (.cells cur 5 (0, 0))) (ht : cur.toList.take l = xs.map (.int .u8)) (hl : xs.length = l) : Has w g 0 xs := fun i hi => by
  rw [Nat.zero_add, cell_of_row w g i cur 5 (0, 0) hc]
  have : (cur.toList.take l)[i]? = (xs.map (Value.int .u8))[i]? := by rw [ht]
  rw [List.getElem?_take, if_pos (by omega)] at this
  rw [← Array.getElem?_toList, this]
  simp [List.getD, List.getElem?_eq_getElem hi]

theorem one_cells (xs : List Int) : ∀ v ∈ xs.map (Value.int .u8), v.oneCell' = true := by
  intro u hu
  simp at hu
  obtain ⟨x, _, rfl⟩ := hu
  rfl

/-- What a Write to a buffer answers. -/
def WPost (bb n : Nat) (v : Value) (all : List Int) (w : World) (e : Ending) (w' : World) : Prop :=
  e = .returned (.tuple #[.int .i64 (n : Int), .nilIface]) ∧ ∃ v', BSt w' bb v' all ∧ (v'.ownBlock = v.ownBlock ∨ ∃ g, v'.ownBlock = some g ∧ w.heap.size ≤ g) ∧ Frm (BMine bb v) w w'

/-- The last step: the bytes are copied. -/
theorem wrote_buf {w w1 w2 : World} {bb g n l cap : Nat} {v : Value} {cur : Array Value} {lr : Int} {bs cs : List Int} (hbk : w1.heap[bb]? = some (.cells #[.slice (some ⟨g, 0, none⟩) (l + n) cap, .int .i64 0, .int .i8 lr] 48 (0, 0)))
    (hg : w1.heap[g]? = some (.cells cur 5 (0, 0))) (hbg : bb < g) (ht : cur.toList.take l = bs.map (.int .u8)) (hl : bs.length = l) (hn : cs.length = n) (hnc : l + n ≤ cap) (hcm : cap ≤ maxLen) (hcs : cur.size = cap)
    (b1 : AllBytes bs) (b2 : AllBytes cs) (hw : Wrote w1 w2 g l n) (hh : Has w2 g l cs) (hv : v.ownBlock = some g ∨ w.heap.size ≤ g) (hf : Frm (BMine bb v) w w1) :
    WPost bb n v (bs ++ cs) w (.returned (.tuple #[.int .i64 (n : Int), .nilIface])) w2 := by
  have hr : Room w1 g cap := ⟨cur, 5, hg, by omega⟩
  obtain ⟨cur2, g2, s2, _⟩ := hw.row cur 5 hg
  have h1 := (has_of_take hg ht hl).wrote hw hr (by omega)
  have h2 : Has w2 g 0 (bs ++ cs) := h1.append (by rw [hl, Nat.zero_add]; exact hh)
  have hle : (bs ++ cs).length = l + n := by rw [List.length_append]; omega
  refine ⟨rfl, .slice (some ⟨g, 0, none⟩) (l + n) cap, ⟨⟨lr, (hw.block bb (by omega)).trans hbk⟩, ?_⟩, ?_, ?_⟩
  · rw [← hle]
    exact Own.of_has g2 h2 (b1.append b2) (by omega) hcm (by omega) (by omega)
  · rcases hv with hv | hv
    · exact .inl (by rw [hv]; rfl)
    · exact .inr ⟨g, rfl, hv⟩
  · exact hf.wrote hw (fun hlt => by
      rcases hv with hv | hv
      · exact .inr hv
      · omega)

/-- b.buf[m:]. -/
theorem slice_from (W : World) (g l n cap : Nat) (h : l + n ≤ cap) (hn : 1 ≤ n) :
    (Instr.slice 22 (.slice (some ⟨g, 0, none⟩) (l + n) cap) (some (.int .i64 (l : Int))) none none).run Tryd.prog W = .ok (.slice (some ⟨g, l, none⟩) n (cap - l)) W := by
  have hs : ∀ w : World, (sizeOf (Tryd.prog.elem 22)).run Tryd.prog w = .ok 1 w := fun w => by kernel_rfl
  rw [run_slice_l (P := Tryd.prog) W 22 (some ⟨g, 0, none⟩) (l + n) cap (by kernel_rfl) .i64 (l : Int) (by omega) (by omega), hs]
  have e : ¬ cap = l := by omega
  have e2 : l + n - l = n := by omega
  simp [sliced, Result.andThen, e, e2, add_off]

set_option maxRecDepth 100000 in
set_option maxHeartbeats 4000000 in
theorem bufWrite_any (bb ab off n c : Nat) (v : Value) (bs cs : List Int) (w : World) (h : BSt w bb v bs) (hab : ab ≠ bb) (hh : Has w ab off cs) (hn : cs.length = n) (hb : AllBytes cs) (hn1 : 1 ≤ n) (hnb : 0 < bs.length ∨ v = .slice none 0 0) (hlim : bs.length + n ≤ 1099511627776) :
    Calls Tryd.prog 50 #[.pointer (some ⟨bb, 0, none⟩), .slice (some ⟨ab, off, none⟩) n c] w (WPost bb n v (bs ++ cs) w) := by
  obtain ⟨⟨lr, hbk⟩, hby, hlen, hown⟩ := h
  have c2 : w.cell? ⟨bb, 2, none⟩ = some (.int .i8 lr) := by rw [Lib.cell_of_heap hbk]; rfl
  have f2 : w.frozen? ⟨bb, 2, none⟩ = false := Lib.frozen_of_heap hbk 2
  have hbk1 : (w.setCell ⟨bb, 2, none⟩ (.int .i8 0)).heap[bb]? = some (.cells #[v, .int .i64 0, .int .i8 0] 48 (0, 0)) := heap_setCell_same w bb 2 _ 48 (.int .i8 0) hbk
  have hbW := Lib.lt_of_heap hbk
  have hg1 : w.grownBy (w.setCell ⟨bb, 2, none⟩ (.int .i8 0)) (some bb) := grownBy_set0 ⟨rfl, rfl, rfl, Nat.le_refl _, fun _ _ _ => rfl⟩ 2 _
  have hz1 : (w.setCell ⟨bb, 2, none⟩ (.int .i8 0)).heap.size = w.heap.size := by simp
  have hk1 : ∀ k, k ≠ bb → (w.setCell ⟨bb, 2, none⟩ (.int .i8 0)).heap[k]? = w.heap[k]? := fun k hk => heap_setCell_other w ⟨bb, 2, none⟩ k _ hk
  obtain ⟨w1, hw1⟩ : ∃ w1, w1 = w.setCell ⟨bb, 2, none⟩ (.int .i8 0) := ⟨_, rfl⟩
  rw [← hw1] at hbk1 hg1 hz1 hk1
  have c0 : w1.cell? ⟨bb, 0, none⟩ = some v := by rw [Lib.cell_of_heap hbk1]; rfl
  have f0 : w1.frozen? ⟨bb, 0, none⟩ = false := Lib.frozen_of_heap hbk1 0
  have hh1 : Has w1 ab off cs := fun i hi => by
    rw [← hh i hi]
    simp only [World.cell?]
    rw [hk1 ab hab]
  have HH := Lib.hid hh1
  have HW1 := Lib.hid hw1
  have HG := Lib.hid hg1
  have HN := Lib.hid hn
  have HB := Lib.hid hb
  have hz := Lib.hid hz1
  have HBY := Lib.hid hby
  have HCL : ∀ w2, w1.grownBy w2 (some bb) → Has w2 ab off cs := fun w2 hg i hi => hg.cell (hh1 i hi) (fun e => hab (by injection e))
  rcases hown with ⟨rfl, hb0⟩ | ⟨g, cap, cur, rfl, hgB, hgc, hlc, hcm, hcz, ht⟩
  · -- the buffer is empty
    have hbs : bs = [] := List.eq_nil_of_length_eq_zero hb0
    subst hbs
    have hgrow : Calls Tryd.prog 53 #[.pointer (some ⟨bb, 0, none⟩), .int .i64 n] w1 fun e w' => e = .returned (.int .i64 0) ∧ Grown w1 w' bb 0 n [] := by
      by_cases h64 : n ≤ 64
      · exact grow_small bb n 0 w1 hbk1 hn1 h64
      · exact grow_big bb n 0 w1 hbk1 (by omega) (by omega)
    have HGR := Lib.hid hgrow
    have HC := Lib.hid HCL
    clear hgrow hw1 HCL hbk hbk1 hk1 hh1 hh hg1 hz1 hby hlen hn hb
    go_enter Tryd.func50, Tryd.ntmps50
    go_wp2_with (first
      | (go_at_call 52; rw [← HW1.out]; refine (Tryd.try_none bb _ 0 0 n _ c0 (Nat.le_refl _) (Nat.zero_le _) (by omega)).mono ?_; rintro e w' ⟨rfl, hw'⟩; rw [hw']; clear hw')
      | (go_at_call 53; refine HGR.out.mono ?_))
    rintro e w2 ⟨rfl, hgrn⟩
    obtain ⟨g, cap, cur, lr2, hbk2, hgr, hgc, hnc, hcm, hcz, htk, hgb⟩ := hgrn
    have hbg : bb < g := by have := hz.out; omega
    have d0 : w2.cell? ⟨bb, 0, none⟩ = some (.slice (some ⟨g, 0, none⟩) (0 + n) cap) := by rw [Lib.cell_of_heap hbk2]; rfl
    have hsl := fun W => slice_from W g 0 n cap hnc hn1
    have hr2 : Room w2 g (0 + n) := ⟨cur, 5, hgc, by omega⟩
    have K1 := Lib.hid hbk2
    have K2 := Lib.hid hgc
    have K3 := Lib.hid hcz
    have K4 := Lib.hid htk
    have K5 := Lib.hid hgb
    have K6 := Lib.hid hr2
    have K7 := Lib.hid (HC.out w2 hgb)
    clear hbk2 hgc hcz htk hgb hr2
    go_wp2_with (refine wpList_cp rfl (.tmp 29) (.tmp 30) rfl (xs := cs) (g := g) (off := 0) rfl rfl (by rw [HN.out]; exact (Nat.min_self n).symm) (fun _ => rfl) (fun _ => ⟨ab, off, rfl, K7.out⟩) (by rw [HN.out]; exact K6.out) n HN.out.symm ?_; intro w3 hw3 hh3)
    go_ret2
    exact wrote_buf (l := 0) K1.out K2.out hbg (by rw [K4.out]; rfl) rfl HN.out hnc hcm K3.out HBY.out HB.out hw3 hh3 (.inr (by have := hz.out; omega)) ((Frm.grown (HG.out) (.inl rfl)).trans (Frm.grown K5.out (M := BMine bb (.slice none 0 0)) (.inl rfl)) (fun i _ hi => hi))
  · -- the buffer has a row
    have hl0 : 0 < bs.length := by
      rcases hnb with h0 | h0
      · exact h0
      · cases h0
    rw [Nat.mul_one] at ht hcz
    obtain ⟨l, hl⟩ : ∃ l, l = bs.length := ⟨_, rfl⟩
    rw [← hl] at ht hl0 hlc hlim c0 hbk1
    have hgc1 : w1.heap[g]? = some (.cells cur 5 (0, 0)) := (hk1 g (by omega)).trans hgc
    have HL := Lib.hid hl
    have HT := Lib.hid ht
    have HZ := Lib.hid hcz
    have hbg : bb < g := by omega
    have hcm' := hcm
    unfold maxLen at hcm'
    by_cases hroom : n ≤ cap - l
    · -- there is room
      obtain ⟨w2, hw2⟩ : ∃ w2, w2 = w1.setCell ⟨bb, 0, none⟩ (.slice (some ⟨g, 0, none⟩) (l + n) cap) := ⟨_, rfl⟩
      have hbk2 : w2.heap[bb]? = some (.cells #[.slice (some ⟨g, 0, none⟩) (l + n) cap, .int .i64 0, .int .i8 0] 48 (0, 0)) := by rw [hw2]; exact heap_setCell_same w1 bb 0 _ 48 _ hbk1
      have hgc2 : w2.heap[g]? = some (.cells cur 5 (0, 0)) := by rw [hw2, heap_setCell_other w1 ⟨bb, 0, none⟩ g _ (by show g ≠ bb; omega)]; exact hgc1
      have hgb : w1.grownBy w2 (some bb) := by rw [hw2]; exact grownBy_set0 ⟨rfl, rfl, rfl, Nat.le_refl _, fun _ _ _ => rfl⟩ 0 _
      have d0 : w2.cell? ⟨bb, 0, none⟩ = some (.slice (some ⟨g, 0, none⟩) (l + n) cap) := by rw [Lib.cell_of_heap hbk2]; rfl
      have hsl := fun W => slice_from W g l n cap (by omega) hn1
      have HW2 := Lib.hid hw2
      have K1 := Lib.hid hbk2
      have K2 := Lib.hid hgc2
      have K5 := Lib.hid hgb
      have K6 : Hid (Room w2 g (l + n)) := ⟨cur, 5, hgc2, by omega⟩
      have K7 := Lib.hid (HCL w2 hgb)
      clear hw2 hw1 HCL hbk hbk1 hk1 hh1 hh hg1 hz1 hby hlen hn hb hbk2 hgc2 hgb hgc hgc1 ht hcz hl
      go_enter Tryd.func50, Tryd.ntmps50
      go_wp2_with (first
        | (go_at_call 52; rw [← HW1.out]; refine (Tryd.try_room bb _ l cap n _ c0 f0 hlc hcm hroom).mono ?_; rintro e w' ⟨rfl, hw'⟩; rw [hw', ← HW2.out]; clear hw')
        | (refine wpList_cp rfl (.tmp 29) (.tmp 30) rfl (xs := cs) (g := g) (off := l) rfl rfl (by rw [HN.out]; exact (Nat.min_self n).symm) (fun _ => rfl) (fun _ => ⟨ab, off, rfl, K7.out⟩) (by rw [HN.out]; exact K6.out) n HN.out.symm ?_; intro w3 hw3 hh3))
      go_ret2
      exact wrote_buf (l := l) K1.out K2.out hbg HT.out HL.out.symm HN.out (by omega) hcm HZ.out HBY.out HB.out hw3 hh3 (.inl rfl) ((Frm.grown (HG.out) (.inl rfl)).trans (Frm.grown K5.out (M := BMine bb (.slice (some ⟨g, 0, none⟩) l cap)) (.inl rfl)) (fun i _ hi => hi))
    · -- there is none
      have hgrow := Lib.hid (grow_more bb g l cap n 0 cur (bs.map (.int .u8)) w1 hbk1 (by simp; omega) hl0 hbg hgc1 hlc hcm hcz ht (one_cells bs) hn1 (by omega) (by omega))
      have HC := Lib.hid HCL
      clear hw1 HCL hbk hbk1 hk1 hh1 hh hg1 hz1 hby hlen hn hb hgc hgc1 ht hcz hl
      go_enter Tryd.func50, Tryd.ntmps50
      go_wp2_with (first
        | (go_at_call 52; rw [← HW1.out]; refine (Tryd.try_none bb _ l cap n _ c0 hlc hcm (by omega)).mono ?_; rintro e w' ⟨rfl, hw'⟩; rw [hw']; clear hw')
        | (go_at_call 53; refine hgrow.out.mono ?_))
      rintro e w2 ⟨rfl, hgrn⟩
      obtain ⟨g2, cap2, cur2, lr2, hbk2, hgr, hgc2, hnc2, hcm2, hcz2, htk2, hgb⟩ := hgrn
      have hbg2 : bb < g2 := by have := hz.out; omega
      have d0 : w2.cell? ⟨bb, 0, none⟩ = some (.slice (some ⟨g2, 0, none⟩) (l + n) cap2) := by rw [Lib.cell_of_heap hbk2]; rfl
      have hsl := fun W => slice_from W g2 l n cap2 hnc2 hn1
      have hr2 : Room w2 g2 (l + n) := ⟨cur2, 5, hgc2, by omega⟩
      have K1 := Lib.hid hbk2
      have K2 := Lib.hid hgc2
      have K3 := Lib.hid hcz2
      have K4 := Lib.hid htk2
      have K5 := Lib.hid hgb
      have K6 := Lib.hid hr2
      have K7 := Lib.hid (HC.out w2 hgb)
      have hcm2' := hcm2
      unfold maxLen at hcm2'
      clear hbk2 hgc2 hcz2 htk2 hgb hr2
      go_wp2_with (refine wpList_cp rfl (.tmp 29) (.tmp 30) rfl (xs := cs) (g := g2) (off := l) rfl rfl (by rw [HN.out]; exact (Nat.min_self n).symm) (fun _ => rfl) (fun _ => ⟨ab, off, rfl, K7.out⟩) (by rw [HN.out]; exact K6.out) n HN.out.symm ?_; intro w3 hw3 hh3)
      go_ret2
      exact wrote_buf (l := l) K1.out K2.out hbg2 K4.out HL.out.symm HN.out hnc2 hcm2 K3.out HBY.out HB.out hw3 hh3 (.inr (by have := hz.out; omega)) ((Frm.grown (HG.out) (.inl rfl)).trans (Frm.grown K5.out (M := BMine bb (.slice (some ⟨g, 0, none⟩) l cap)) (.inl rfl)) (fun i _ hi => hi))
end Go.Proofs.YtfonpcfcelahdaaDoor
