/-
  Words for memory: a slice of bytes that is read ('Src'), a slice of bytes that the call itself has made ('Own'), and append of the first to the second.
-/
import Derived.Test.YtfonpcfcelahdaaDoorRows
import Derived.Test.YtfonpcfcelahdaaDoorPlain
import Derived.WalkKit
import Derived.WalkSpells
import Derived.Handy
import Derived.Maps.AppendAt
import Derived.Deep.AppendLies
import Derived.Deep.Draws
namespace Go.Proofs.YtfonpcfcelahdaaDoor
open Go.RowKit

theorem Tryd.info5 : (Tryd.prog.info? 5).map (fun i => (i.zero, i.size, i.bytes)) = some (some (.int .u8 0), 1, 1) := by kernel_rfl

/-- The slice value '.slice A n c' holds the bytes xs, below block B. -/
def Src (w : World) (B : Nat) (A : Option Addr) (n c : Nat) (xs : List Int) : Prop :=
  xs.length = n ∧ n ≤ c ∧ c ≤ maxLen ∧ AllBytes xs ∧ (0 < n → ∃ b off, A = some ⟨b, off, none⟩ ∧ b < B ∧ ∀ i, i < n → w.cell? ⟨b, off + i, none⟩ = some (.int .u8 (xs.getD i 0)))

/-- The value v is a slice of the call's own (blocks from B on) of the bytes xs. -/
def Own (w : World) (B : Nat) (v : Value) (xs : List Int) : Prop := AllBytes xs ∧ w.ownsRow B 5 1 v xs.length (xs.map (.int .u8))

theorem AllBytes.getD {xs : List Int} (h : AllBytes xs) (i : Nat) : 0 ≤ xs.getD i 0 ∧ xs.getD i 0 < 256 := by
  rcases Nat.lt_or_ge i xs.length with hi | hi
  · rw [List.getD_eq_getElem?_getD, List.getElem?_eq_getElem hi]
    exact h _ (List.getElem_mem hi)
  · rw [List.getD_eq_getElem?_getD, List.getElem?_eq_none hi]
    simp

theorem AllBytes.drop {xs : List Int} (h : AllBytes xs) (k : Nat) : AllBytes (xs.drop k) := fun x hx => h x (List.mem_of_mem_drop hx)
theorem AllBytes.take {xs : List Int} (h : AllBytes xs) (k : Nat) : AllBytes (xs.take k) := fun x hx => h x (List.mem_of_mem_take hx)
theorem AllBytes.append {xs ys : List Int} (h : AllBytes xs) (k : AllBytes ys) : AllBytes (xs ++ ys) := fun x hx => by
  rcases List.mem_append.1 hx with hx | hx
  · exact h x hx
  · exact k x hx

theorem figs_bytes (n : Int) : AllBytes (figs n) := fun x hx => by have := figs_range x hx; omega
theorem enc4_bytes (a b c d : Int) : AllBytes (enc4 a b c d) := by
  unfold enc4
  split
  · intro x hx; simp at hx; omega
  · exact figs_bytes _

theorem Bdrew {B : Nat} {a w : World} (h : Below B a w) (k : Nat) : Below B a (w.drewN k) := ⟨h.os, h.tape, h.output, h.size, h.block⟩

section
variable {w w' : World} {B B' n c : Nat} {A : Option Addr} {xs ys : List Int} {v v' : Value}

theorem Src.below (h : Src w B A n c xs) (hb : Below B w w') : Src w' B A n c xs :=
  ⟨h.1, h.2.1, h.2.2.1, h.2.2.2.1, fun hn => by
    obtain ⟨b, off, e, hlt, hc⟩ := h.2.2.2.2 hn
    exact ⟨b, off, e, hlt, fun i hi => (hb.cell (p := ⟨b, off + i, none⟩) hlt).trans (hc i hi)⟩⟩
theorem Src.more (h : Src w B A n c xs) (hB : B ≤ B') : Src w B' A n c xs :=
  ⟨h.1, h.2.1, h.2.2.1, h.2.2.2.1, fun hn => by
    obtain ⟨b, off, e, hlt, hc⟩ := h.2.2.2.2 hn
    exact ⟨b, off, e, by omega, hc⟩⟩
theorem Src.drewN (h : Src w B A n c xs) (k : Nat) : Src (w.drewN k) B A n c xs := h
theorem Src.none_ : Src w B A 0 c [] ↔ c ≤ maxLen := ⟨fun h => h.2.2.1, fun h => ⟨rfl, by omega, h, fun _ hx => (by cases hx), fun hn => absurd hn (by omega)⟩⟩
theorem Src.cells (h : Src w B A n c xs) (hk : 0 < n) : ∃ b off, A = some ⟨b, off, none⟩ ∧ b < B ∧ ∀ i, i < n → w.cell? ⟨b, off + i, none⟩ = some (.int .u8 (xs.getD i 0)) := h.2.2.2.2 hk
theorem Src.take_ {k : Nat} (h : Src w B A n c xs) (hk : k ≤ n) : Src w B A k c (xs.take k) := by
  obtain ⟨h1, h2, h3, h4, h5⟩ := h
  refine ⟨by rw [List.length_take, h1]; omega, by omega, h3, h4.take k, fun hn => ?_⟩
  obtain ⟨b, off, e, hlt, hc⟩ := h5 (by omega)
  refine ⟨b, off, e, hlt, fun i hi => ?_⟩
  rw [hc i (by omega)]
  simp [List.getD, hi]
theorem Src.drop_ {k : Nat} (h : Src w B A n c xs) (hk : k ≤ n) : Src w B (if c = k then A else A.map (·.add k)) (n - k) (c - k) (xs.drop k) := by
  obtain ⟨h1, h2, h3, h4, h5⟩ := h
  refine ⟨by rw [List.length_drop, h1], by omega, by omega, h4.drop k, fun hn => ?_⟩
  obtain ⟨b, off, rfl, hlt, hc⟩ := h5 (by omega)
  rw [if_neg (by omega)]
  refine ⟨b, off + k, ?_, hlt, fun i hi => ?_⟩
  · simp only [Option.map_some, Addr.add]
    split
    · rename_i h0; subst h0; rfl
    · rfl
  · have := hc (k + i) (by omega)
    rw [← Nat.add_assoc] at this
    rw [this]
    simp [List.getD, List.getElem?_drop]

/-- xs[k:] as the walk writes it. -/
theorem Src.cut {b off k : Nat} (h : Src w B (some ⟨b, off, none⟩) n c xs) (hk : k ≤ n) (h0 : 0 < k) : Src w B (if c = k then some ⟨b, off, none⟩ else some ⟨b, off + k, none⟩) (n - k) (c - k) (xs.drop k) := by
  have := h.drop_ hk
  simpa [Addr.add, Nat.ne_of_gt h0] using this

/-- xs[k:] as a run. -/
theorem Src.from_ {k : Nat} (h : Src w B A n c xs) (hk : k ≤ n) : ∃ A', (∀ (w' : World) (kk : IntKind), (Instr.slice 22 (.slice A n c) (some (.int kk (k : Int))) none none).run Tryd.prog w' = .ok (.slice A' (n - k) (c - k)) w') ∧ Src w B A' (n - k) (c - k) (xs.drop k) := by
  refine ⟨_, fun w' kk => ?_, h.drop_ hk⟩
  have hs : ∀ w : World, (sizeOf (Tryd.prog.elem 22)).run Tryd.prog w = .ok 1 w := fun w => by kernel_rfl
  rw [run_slice_l (P := Tryd.prog) w' 22 A n c (by kernel_rfl) kk (k : Int) (by omega) (by omega), hs]
  simp [sliced, Result.andThen]

theorem Own.src (h : Own w B v xs) : ∃ A c, v = .slice A xs.length c ∧ Src w w.heap.size A xs.length c xs := by
  obtain ⟨hb, h1, h2⟩ := h
  rcases h2 with ⟨rfl, h0⟩ | ⟨g, cap, cur, rfl, hg, hh, hn, hm, hc, ht⟩
  · have : xs = [] := List.eq_nil_of_length_eq_zero h0
    subst this
    exact ⟨_, _, rfl, Src.none_.2 (by unfold maxLen; omega)⟩
  · refine ⟨_, _, rfl, rfl, hn, hm, hb, fun hpos => ⟨g, 0, rfl, ?_, fun i hi => ?_⟩⟩
    · rcases Nat.lt_or_ge g w.heap.size with hlt | hge
      · exact hlt
      · rw [Array.getElem?_eq_none hge] at hh; cases hh
    · rw [Nat.zero_add, cell_of_row w g i cur 5 (0, 0) hh]
      have : (cur.toList.take (xs.length * 1))[i]? = (xs.map (Value.int .u8))[i]? := by rw [ht]
      rw [List.getElem?_take, if_pos (by omega)] at this
      rw [← Array.getElem?_toList, this]
      simp [List.getD, List.getElem?_eq_getElem hi]
theorem Own.nil : Own w B (.slice none 0 0) [] := ⟨fun _ hx => (by cases hx), World.ownsRow_nil _ _ _ _⟩
theorem Own.alloc (h : Own w B v xs) (o : Obj) : Own (w.alloc o) B v xs := ⟨h.1, h.2.alloc o⟩
theorem Own.drewN (h : Own w B v xs) (k : Nat) : Own (w.drewN k) B v xs := h
theorem Own.below_ (h : Own w B v xs) (hb : Below B' w w') (hv : ∀ k, v.ownBlock = some k → k < B') : Own w' B v xs := by
  refine ⟨h.1, h.2.1, ?_⟩
  rcases h.2.2 with h2 | ⟨g, cap, cur, rfl, hg, hh, r⟩
  · exact Or.inl h2
  · exact Or.inr ⟨g, cap, cur, rfl, hg, (hb.block g (hv g rfl)).trans hh, r⟩
theorem Own.lt (h : Own w B v xs) : ∀ k, v.ownBlock = some k → B ≤ k ∧ k < w.heap.size := h.2.lt
theorem Own.mono_ (h : Own w B v xs) (hB : B' ≤ B) : Own w B' v xs := by
  refine ⟨h.1, h.2.1, ?_⟩
  rcases h.2.2 with h2 | ⟨g, cap, cur, rfl, hg, r⟩
  · exact Or.inl h2
  · exact Or.inr ⟨g, cap, cur, rfl, by omega, r⟩
end

/-- append(s, x...) where x may be nil or empty. -/
theorem run_app {w : World} {B B' : Nat} {v : Value} {xs ys : List Int} {A : Option Addr} {m c : Nat} (ty : TypeId) (h : Own w B v xs) (hr : Src w B' A m c ys) (hlim : xs.length + ys.length ≤ 1099511627776) (hB : B ≤ w.heap.size) :
    ∃ v' w', (Builtin.append_ #[22, 22] ty #[v, .slice A m c]).run Tryd.prog w = .ok v' w' ∧ Own w' B v' (xs ++ ys) ∧ w.grownBy w' v.ownBlock ∧ (v'.ownBlock = v.ownBlock ∨ v'.ownBlock = some w.heap.size) := by
  obtain ⟨i0, hi, hz0, hz1, hz2⟩ := info_parts Tryd.info5
  obtain ⟨h1, h2, h3, h4, h5⟩ := hr
  have hbytes := h.1.append h4
  by_cases hA : A = none
  · subst hA
    have hm : m = 0 := by
      rcases Nat.eq_zero_or_pos m with h0 | h0
      · exact h0
      · obtain ⟨_, _, e, _⟩ := h5 h0
        cases e
    subst hm
    have : ys = [] := List.eq_nil_of_length_eq_zero h1
    subst this
    refine ⟨v, w, ?_, by simpa using h, World.grownBy.refl w _, .inl rfl⟩
    rcases h.2.2 with ⟨rfl, h0⟩ | ⟨g, cap, cur, rfl, _, _, hnc, _⟩
    · simp [Builtin.append_, run_underlying (P := Tryd.prog) Tryd.underlying22, sizeOf, typeInfo, hi, Builtin.lenOf, Builtin.firstCells]
    · simp [Builtin.append_, run_underlying (P := Tryd.prog) Tryd.underlying22, sizeOf, typeInfo, hi, Builtin.lenOf, Builtin.firstCells, hnc, storeCells]
  · obtain ⟨ad, rfl⟩ := Option.ne_none_iff_exists'.1 hA
    have hcells : ∀ j u, (ys.map (Value.int .u8))[j]? = some u → w.cell? (ad.add j) = some u := by
      intro j u hj
      have hjl : j < m := by
        have := (List.getElem?_eq_some_iff.1 hj).1
        simp at this
        omega
      obtain ⟨b, off, e, _, hc⟩ := h5 (by omega)
      have e := Option.some.inj e
      subst e
      have e2 : (⟨b, off, none⟩ : Addr).add j = ⟨b, off + j, none⟩ := by
        unfold Addr.add
        split
        · rename_i h0; subst h0; rfl
        · rfl
      rw [e2, hc j hjl, ← hj]
      simp [List.getD, List.getElem?_eq_getElem (show j < ys.length by omega)]
    obtain ⟨v', w', hrun, g1, g2, _, g3⟩ := run_append_own_at (P := Tryd.prog) w B 22 ty 5 i0 (.int .u8 0) 1 1 Tryd.underlying22 hi hz0 hz1 hz2 rfl (by decide) v xs.length (xs.map (Value.int .u8)) h.2 ad m c (ys.map (Value.int .u8)) (by simp; omega) hcells
      (by intro u hu; simp at hu; obtain ⟨x, _, rfl⟩ := hu; rfl) (by unfold maxLen; omega) (by omega) hB
    refine ⟨v', w', hrun, ⟨hbytes, ?_⟩, g2, g3⟩
    rw [List.length_append, List.map_append, h1]
    exact g1

theorem wpList_app {ops : Array Oper} {rest : List Oper} {o : Oper} {a : Act} {Q : Exit → Act → World → Prop} {w : World} (hgd : o.guard = none) (s x : Operand)
    (ho : o.op = .call { callee := .builtin .append, args := #[s, x], argTypes := #[22, 22] }) {B B' : Nat} {v : Value} {xs ys : List Int} {A : Option Addr} {m c : Nat}
    (hs : a.eval s = v) (h : Own w B v xs) (hx : a.eval x = .slice A m c) (hr : Src w B' A m c ys) (hlim : xs.length + ys.length ≤ 1099511627776) (hB : B ≤ w.heap.size)
    (k : ∀ v' w', Own w' B v' (xs ++ ys) → w.grownBy w' v.ownBlock → (v'.ownBlock = v.ownBlock ∨ v'.ownBlock = some w.heap.size) → wpList Tryd.prog ops Q rest (a.put o.dst v') w') : wpList Tryd.prog ops Q (o :: rest) a w := by
  refine wpList_plain hgd fun K hK => ?_
  obtain ⟨v', w', hrun, h2, h3, h4⟩ := run_app o.type h hr hlim hB
  unfold Oper.wp execOp
  simp only [ho, resolve, invoke, builtin, Sem.run_bind, Sem.run_pure, Result.andThen_ok, List.map_toArray, List.map_cons, List.map_nil, hs, hx, hrun]
  exact hK _ _ (k v' w' h2 h3 h4)

/-- The same, the value written out. -/
theorem wpList_app2 {ops : Array Oper} {rest : List Oper} {o : Oper} {a : Act} {Q : Exit → Act → World → Prop} {w : World} (hgd : o.guard = none) (s x : Operand)
    (ho : o.op = .call { callee := .builtin .append, args := #[s, x], argTypes := #[22, 22] }) {B B' : Nat} {v : Value} {xs ys : List Int} {A : Option Addr} {m c : Nat}
    (hs : a.eval s = v) (h : Own w B v xs) (hx : a.eval x = .slice A m c) (hr : Src w B' A m c ys) (hlim : xs.length + ys.length ≤ 1099511627776) (hB : B ≤ w.heap.size)
    (N : Nat) (hN : N = xs.length + ys.length)
    (k : ∀ A' c' w', Own w' B (.slice A' N c') (xs ++ ys) → Src w' w'.heap.size A' N c' (xs ++ ys) → w.grownBy w' v.ownBlock → ((Value.slice A' N c').ownBlock = v.ownBlock ∨ (Value.slice A' N c').ownBlock = some w.heap.size) → wpList Tryd.prog ops Q rest (a.put o.dst (.slice A' N c')) w') : wpList Tryd.prog ops Q (o :: rest) a w := by
  refine wpList_app hgd s x ho hs h hx hr hlim hB fun v' w' h1 h2 h3 => ?_
  obtain ⟨A', c', hv, hs'⟩ := h1.src
  rw [List.length_append, ← hN] at hv hs'
  subst hv
  exact k A' c' w' h1 hs' h2 h3

/-- What a slice of literals reads as. -/
theorem Src.lit (w : World) (xs : List Int) (hb : AllBytes xs) (hl : xs.length ≤ 1099511627776) : Src (w.alloc (.cells (xs.map (Value.int .u8)).toArray 5)) (w.heap.size + 1) (some ⟨w.heap.size, 0, none⟩) xs.length xs.length xs :=
  ⟨rfl, Nat.le_refl _, by unfold maxLen; omega, hb, fun _ => ⟨_, _, rfl, by omega, fun i hi => by
    rw [Nat.zero_add, cell_of_row (w.alloc _) w.heap.size i _ 5 (0, 0) (heap_alloc_new w _)]
    simp [List.getD, List.getElem?_eq_getElem hi]⟩⟩
theorem Own.lit (w : World) (B : Nat) (xs : List Int) (hb : AllBytes xs) (hl : xs.length ≤ 1099511627776) (hB : B ≤ w.heap.size) : Own (w.alloc (.cells (xs.map (Value.int .u8)).toArray 5)) B (.slice (some ⟨w.heap.size, 0, none⟩) xs.length xs.length) xs :=
  ⟨hb, by simpa using World.ownsRow_lit (size := 1) (e := 5) w (xs.map (Value.int .u8)).toArray xs.length hB (by unfold maxLen; omega) (by simp)⟩
end Go.Proofs.YtfonpcfcelahdaaDoor
