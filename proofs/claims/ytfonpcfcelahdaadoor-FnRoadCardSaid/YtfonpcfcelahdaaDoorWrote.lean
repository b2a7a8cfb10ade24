/-
  Words for a stretch of one block that is written: nothing else turns.
-/
import Derived.Test.YtfonpcfcelahdaaDoorMem
import Derived.Laws.Rows
namespace Go.Proofs.YtfonpcfcelahdaaDoor
open Go.RowKit

/-- Between w and w' no cell but those of block b from off on, len of them, has turned. -/
structure Wrote (w w' : World) (b off len : Nat) : Prop where
  os : w'.os = w.os
  tape : w'.tape = w.tape
  output : w'.output = w.output
  size : w'.heap.size = w.heap.size
  block : ∀ k, k ≠ b → w'.heap[k]? = w.heap[k]?
  row : ∀ (cs : Array Value) (t : TypeId), w.heap[b]? = some (.cells cs t (0, 0)) → ∃ cs', w'.heap[b]? = some (.cells cs' t (0, 0)) ∧ cs'.size = cs.size ∧ ∀ i, (i < off ∨ off + len ≤ i) → cs'[i]? = cs[i]?

/-- Block b is a row of at least n cells, none frozen. -/
def Room (w : World) (b n : Nat) : Prop := ∃ (cs : Array Value) (t : TypeId), w.heap[b]? = some (.cells cs t (0, 0)) ∧ n ≤ cs.size

/-- The cells of block b from off on hold the bytes xs. -/
def Has (w : World) (b off : Nat) (xs : List Int) : Prop := ∀ i, i < xs.length → w.cell? ⟨b, off + i, none⟩ = some (.int .u8 (xs.getD i 0))

section
variable {w w' w'' : World} {b off len : Nat} {xs ys : List Int}

theorem Wrote.refl (w : World) (b off len : Nat) : Wrote w w b off len := ⟨rfl, rfl, rfl, rfl, fun _ _ => rfl, fun cs _ h => ⟨cs, h, rfl, fun _ _ => rfl⟩⟩
theorem Wrote.trans (h : Wrote w w' b off len) (k : Wrote w' w'' b off len) : Wrote w w'' b off len :=
  ⟨k.os.trans h.os, k.tape.trans h.tape, k.output.trans h.output, k.size.trans h.size, fun i hi => (k.block i hi).trans (h.block i hi), fun cs t hc => by
    obtain ⟨c1, g1, s1, r1⟩ := h.row cs t hc
    obtain ⟨c2, g2, s2, r2⟩ := k.row c1 t g1
    exact ⟨c2, g2, s2.trans s1, fun i hi => (r2 i hi).trans (r1 i hi)⟩⟩
theorem Wrote.mono {off' len' : Nat} (h : Wrote w w' b off len) (h1 : off' ≤ off) (h2 : off + len ≤ off' + len') : Wrote w w' b off' len' :=
  ⟨h.os, h.tape, h.output, h.size, h.block, fun cs t hc => by
    obtain ⟨c1, g1, s1, r1⟩ := h.row cs t hc
    exact ⟨c1, g1, s1, fun i hi => r1 i (by omega)⟩⟩
theorem Wrote.drewN (h : Wrote w w' b off len) (k : Nat) : Wrote w (w'.drewN k) b off len := ⟨h.os, h.tape, h.output, h.size, h.block, h.row⟩
theorem Wrote.setCell (h : Wrote w w' b off len) {i : Nat} (h1 : off ≤ i) (h2 : i < off + len) (v : Value) : Wrote w (w'.setCell ⟨b, i, none⟩ v) b off len :=
  h.trans ⟨rfl, rfl, rfl, by simp, fun k hk => heap_setCell_other w' ⟨b, i, none⟩ k v hk, fun cs t hc => ⟨_, heap_setCell_same w' b i cs t v hc, by simp, fun j hj => by
    rw [Array.getElem?_setIfInBounds, if_neg (by omega)]⟩⟩
theorem Wrote.below {B : Nat} (h : Wrote w w' b off len) (hB : B ≤ b) : Below B w w' := ⟨h.os, h.tape, h.output, by have := h.size; omega, fun k hk => h.block k (by omega)⟩
theorem Room.wrote {n : Nat} (hr : Room w b n) (h : Wrote w w' b off len) : Room w' b n := by
  obtain ⟨cs, t, hc, hn⟩ := hr
  obtain ⟨c1, g1, s1, _⟩ := h.row cs t hc
  exact ⟨c1, t, g1, by omega⟩
theorem Room.cell {n i : Nat} (hr : Room w b n) (hi : i < n) : ∃ v, w.cell? ⟨b, i, none⟩ = some v := by
  obtain ⟨cs, t, hc, hn⟩ := hr
  exact ⟨cs[i]'(by omega), by rw [cell_of_row w b i cs t _ hc]; exact Array.getElem?_eq_getElem _⟩
theorem Room.frozen {n : Nat} (hr : Room w b n) (i : Nat) : w.frozen? ⟨b, i, none⟩ = false := by
  obtain ⟨cs, t, hc, hn⟩ := hr
  exact frozen_of_row w b i cs t hc
theorem Room.mono_ {n m : Nat} (hr : Room w b n) (h : m ≤ n) : Room w b m := by
  obtain ⟨cs, t, hc, hn⟩ := hr
  exact ⟨cs, t, hc, by omega⟩
theorem Wrote.cell {n b' i : Nat} (h : Wrote w w' b off len) (hr : Room w b n) (ho : b' ≠ b ∨ i < off ∨ off + len ≤ i) : w'.cell? ⟨b', i, none⟩ = w.cell? ⟨b', i, none⟩ := by
  by_cases hb : b' = b
  · subst hb
    obtain ⟨cs, t, hc, _⟩ := hr
    obtain ⟨c1, g1, _, r1⟩ := h.row cs t hc
    rw [cell_of_row w' b' i c1 t _ g1, cell_of_row w b' i cs t _ hc]
    exact r1 i (by omega)
  · exact World.cell?_of_block (h.block b' hb)
theorem Has.nil : Has w b off [] := fun i hi => absurd hi (by simp)
theorem Has.wrote {n off' len' : Nat} (h : Has w b off xs) (hw : Wrote w w' b off' len') (hr : Room w b n) (ho : off + xs.length ≤ off') : Has w' b off xs := fun i hi => by
  rw [hw.cell hr (.inr (.inl (by omega)))]
  exact h i hi
theorem Has.append (h : Has w b off xs) (k : Has w b (off + xs.length) ys) : Has w b off (xs ++ ys) := fun i hi => by
  rw [List.length_append] at hi
  by_cases hx : i < xs.length
  · rw [h i hx]
    simp [List.getD, List.getElem?_append_left hx]
  · have := k (i - xs.length) (by omega)
    rw [show off + xs.length + (i - xs.length) = off + i by omega] at this
    rw [this]
    simp [List.getD, List.getElem?_append_right (show xs.length ≤ i by omega)]
end

/-- The slice value '.slice A n c' holds the bytes xs, out of the stretch of block b that is written. -/
def Far (w : World) (b off len : Nat) (A : Option Addr) (n c : Nat) (xs : List Int) : Prop :=
  xs.length = n ∧ n ≤ c ∧ c ≤ maxLen ∧ AllBytes xs ∧ (0 < n → ∃ g o, A = some ⟨g, o, none⟩ ∧ (g ≠ b ∨ o + n ≤ off ∨ off + len ≤ o) ∧ ∀ i, i < n → w.cell? ⟨g, o + i, none⟩ = some (.int .u8 (xs.getD i 0)))

section
variable {w w' : World} {b off len n c : Nat} {A : Option Addr} {xs : List Int}
theorem Src.far {B : Nat} (h : Src w B A n c xs) (hb : B ≤ b) : Far w b off len A n c xs := by
  refine ⟨h.1, h.2.1, h.2.2.1, h.2.2.2.1, fun hn => ?_⟩
  obtain ⟨g, o, e, hlt, hc⟩ := h.2.2.2.2 hn
  exact ⟨g, o, e, .inl (by omega), hc⟩
theorem Far.wrote {m : Nat} (h : Far w b off len A n c xs) (hw : Wrote w w' b off len) (hr : Room w b m) : Far w' b off len A n c xs := by
  refine ⟨h.1, h.2.1, h.2.2.1, h.2.2.2.1, fun hn => ?_⟩
  obtain ⟨g, o, e, hd, hc⟩ := h.2.2.2.2 hn
  exact ⟨g, o, e, hd, fun i hi => by rw [hw.cell hr (by omega)]; exact hc i hi⟩
theorem Far.cut {g o k : Nat} (h : Far w b off len (some ⟨g, o, none⟩) n c xs) (hk : k ≤ n) (h0 : 0 < k) : Far w b off len (if c = k then some ⟨g, o, none⟩ else some ⟨g, o + k, none⟩) (n - k) (c - k) (xs.drop k) := by
  obtain ⟨h1, h2, h3, h4, h5⟩ := h
  refine ⟨by rw [List.length_drop, h1], by omega, by omega, h4.drop k, fun hn => ?_⟩
  obtain ⟨b', off', e, hd, hc⟩ := h5 (by omega)
  injection e with e
  injection e with e1 e2
  subst e1
  subst e2
  rw [if_neg (by omega)]
  refine ⟨g, o + k, rfl, by omega, fun i hi => ?_⟩
  have := hc (k + i) (by omega)
  rw [← Nat.add_assoc] at this
  rw [this]
  simp [List.getD, List.getElem?_drop]
theorem Far.cells4 {x0 x1 x2 x3 : Int} {r : List Int} (h : Far w b off len A n c (x0 :: x1 :: x2 :: x3 :: r)) :
    ∃ g o, A = some ⟨g, o, none⟩ ∧ w.cell? ⟨g, o, none⟩ = some (.int .u8 x0) ∧ w.cell? ⟨g, o + 1, none⟩ = some (.int .u8 x1) ∧ w.cell? ⟨g, o + 2, none⟩ = some (.int .u8 x2) ∧ w.cell? ⟨g, o + 3, none⟩ = some (.int .u8 x3) ∧ (g ≠ b ∨ o + n ≤ off ∨ off + len ≤ o) := by
  have hn : n = r.length + 4 := by have := h.1; simp at this; omega
  obtain ⟨g, o, e, hd, hc⟩ := h.2.2.2.2 (by omega)
  refine ⟨g, o, e, ?_, ?_, ?_, ?_, hd⟩
  · simpa using hc 0 (by omega)
  · simpa using hc 1 (by omega)
  · simpa using hc 2 (by omega)
  · simpa using hc 3 (by omega)
end

/-- make([]byte, n). -/
theorem wpList_mk (w : World) {ops : Array Oper} {rest : List Oper} {o : Oper} {a : Act} {Q : Exit → Act → World → Prop} (hg : o.guard = none) (l c : Operand) (hop : o.op = Op.makeSlice 22 l c)
    (kl kc : IntKind) (L C : Int) (n : Nat) (hl : a.eval l = .int kl L) (hc : a.eval c = .int kc C) (hL : L = (n : Int)) (hC : C = (n : Int)) (hn : n ≤ 1099511627776)
    (hK : ∀ w', Room w' w.heap.size n → w.grownBy w' none → w.heap.size < w'.heap.size → wpList Tryd.prog ops Q rest (a.put o.dst (.slice (some ⟨w.heap.size, 0, none⟩) n n)) w') : wpList Tryd.prog ops Q (o :: rest) a w := by
  obtain ⟨i0, hi, hz0, hz1, hz2⟩ := info_parts Tryd.info5
  refine wpList_make_full (P := Tryd.prog) w hg l c 22 hop w.heap.size 5 i0 (.int .u8 0) 1 Tryd.underlying22 hi hz0 hz1 kl kc L C n hl hc hL hC (by rw [hz2]; omega) (by unfold maxLen; omega) (Nat.le_refl _) fun w' hown hgr => ?_
  rcases hown.2 with ⟨h', _⟩ | ⟨g, cap, cur, h', _, hh, hnc, _, hcs, _⟩
  · cases h'
  · simp only [Value.slice.injEq, Option.some.injEq, Addr.mk.injEq, and_true, true_and] at h'
    obtain ⟨rfl, rfl⟩ := h'
    exact hK w' ⟨cur, 5, hh, by omega⟩ hgr (Array.getElem?_eq_some_iff.1 hh).1

theorem Has.src {w : World} {g n c : Nat} {xs : List Int} (h : Has w g 0 xs) (hb : AllBytes xs) (hl : xs.length = n) (hc : n ≤ c) (hm : c ≤ maxLen) (hg : g < w.heap.size) : Src w w.heap.size (some ⟨g, 0, none⟩) n c xs :=
  ⟨hl, hc, hm, hb, fun _ => ⟨g, 0, rfl, hg, fun i hi => h i (by omega)⟩⟩
theorem enc_bytes {xs : List Int} (h : AllBytes xs) : AllBytes (enc xs) := fun x hx => by
  have := enc_signs xs h x hx
  omega
end Go.Proofs.YtfonpcfcelahdaaDoor
