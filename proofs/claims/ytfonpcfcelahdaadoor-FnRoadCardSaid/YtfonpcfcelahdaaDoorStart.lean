/-
  A new decoder.
-/
import Derived.Test.YtfonpcfcelahdaaDoorDecSt
import Derived.Test.YtfonpcfcelahdaaDoorNewDec
namespace Go.Proofs.YtfonpcfcelahdaaDoor
open Go.RowKit

theorem alloc_new (w : World) (o : Obj) : (w.alloc o).heap[w.heap.size]? = some o := by
  unfold World.alloc
  exact Array.getElem?_push_size
theorem alloc_old (w : World) (o : Obj) (k : Nat) (hk : k < w.heap.size) : (w.alloc o).heap[k]? = w.heap[k]? := by
  unfold World.alloc
  dsimp only
  rw [Array.getElem?_push, if_neg (by omega)]
theorem alloc_size_ (w : World) (o : Obj) : (w.alloc o).heap.size = w.heap.size + 1 := by
  unfold World.alloc
  exact Array.size_push ..

theorem Own.same_ {w w' : World} {B : Nat} {v : Value} {xs : List Int} (h : Own w B v xs) (hs : ∀ k, v.ownBlock = some k → w'.heap[k]? = w.heap[k]?) : Own w' B v xs := by
  refine ⟨h.1, h.2.1, ?_⟩
  rcases h.2.2 with h2 | ⟨g, cap, cur, rfl, hg, hh, r⟩
  · exact Or.inl h2
  · exact Or.inr ⟨g, cap, cur, rfl, hg, (hs g rfl).trans hh, r⟩
theorem cell0_below {w w' : World} {B : Nat} {v : Value} (h : Below B w w') (hv : w.cell? ⟨0, 0, none⟩ = some v) (hB : 0 < B) : w'.cell? ⟨0, 0, none⟩ = some v := by
  rw [← hv]
  simp only [World.cell?]
  rw [h.block 0 hB]
theorem tot_on {outl xs ys : List Int} {t t' : Option (List Int)} (h : t.map (outl ++ ·) = run xs) (h2 : t = t'.map (ys ++ ·)) : t'.map ((outl ++ ys) ++ ·) = run xs := by
  rw [← h, h2]
  cases t' with
  | none => rfl
  | some z => simp

theorem read_split {B db sb q pc g off L : Nat} {ev : Value} {T : Option (List Int)} {w w' : World} {e : Ending} (h : ReadPost B db sb q pc g off L ev T w e w') :
    ∃ (nv : Int) (er : Value), e = .returned (.tuple #[.int .i64 nv, er]) ∧ Steps B db sb g w w' ∧ ((∃ (N : Nat) (xs o bf rest : List Int) (eof : Bool), nv = (N : Int) ∧ er = .nilIface ∧ 1 ≤ N ∧ N ≤ L ∧ xs.length = N ∧ AllBytes xs ∧ Has w' g off xs ∧ DSt w' db sb q pc ev o bf rest eof ∧ T = (Tot o bf rest).map (xs ++ ·)) ∨
      (nv = 0 ∧ er = ev ∧ T = some []) ∨ (∃ i : Nat, nv = 0 ∧ er = .iface 65 (.int .i64 (i : Int)) ∧ T = none)) := by
  obtain ⟨hs, ⟨N, xs, o, bf, rest, eof, he, h⟩ | ⟨he, hT⟩ | ⟨i, he, hT⟩⟩ := h
  · exact ⟨_, _, he, hs, .inl ⟨N, xs, o, bf, rest, eof, rfl, rfl, h⟩⟩
  · exact ⟨_, _, he, hs, .inr (.inl ⟨rfl, rfl, hT⟩)⟩
  · exact ⟨_, _, he, hs, .inr (.inr ⟨i, rfl, rfl, hT⟩)⟩

/-- The world behind NewDecoder. -/
noncomputable def newWorld (w : World) (S : Value) (pc : Nat) : World :=
  (w.alloc (.cells #[S, .int .i64 (pc : Int)] 62)).alloc (.cells (cells77 (.iface 60 (.pointer (some ⟨w.heap.size, 0, none⟩)))) 77)

theorem DSt.start {w : World} {A : Option Addr} {n c q pc : Nat} {ev : Value} {xs : List Int} (hl : xs.length = n) (hnc : n ≤ c) (hc : c ≤ maxLen) (hb : AllBytes xs) (hq : q < w.heap.size) (hx : 0 < n → ∃ k, A = some ⟨q, k, none⟩ ∧ Has w q k xs) :
    DSt (newWorld w (.slice A n c) pc) (w.heap.size + 1) w.heap.size q pc ev [] [] xs false := by
  unfold newWorld
  obtain ⟨w1, hw1⟩ : ∃ w1, w1 = w.alloc (.cells #[.slice A n c, .int .i64 (pc : Int)] 62) := ⟨_, rfl⟩
  rw [← hw1]
  have z1 : w1.heap.size = w.heap.size + 1 := by rw [hw1, alloc_size_]
  have n1 : w1.heap[w.heap.size]? = some (.cells #[.slice A n c, .int .i64 (pc : Int)] 62) := by rw [hw1, alloc_new]
  have o1 : w1.heap[q]? = w.heap[q]? := by rw [hw1, alloc_old _ _ _ hq]
  obtain ⟨cs, hcs⟩ : ∃ cs, cs = cells77 (.iface 60 (.pointer (some ⟨w.heap.size, 0, none⟩))) := ⟨_, rfl⟩
  rw [← hcs]
  have cz : cs.size = 2053 := by rw [hcs, cells77_size]
  have g0 : cs[0]? = some .nilIface := by rw [hcs, cells77_at _ _ (by omega), zero77_0]
  have g1 : cs[1]? = some .nilIface := by rw [hcs, cells77_at _ _ (by omega), zero77_1]
  have g2 : cs[2]? = some (.iface 60 (.pointer (some ⟨w.heap.size, 0, none⟩))) := by rw [hcs, cells77_2]
  have g3 : cs[1027]? = some (.int .i64 0) := by rw [hcs, cells77_at _ _ (by omega), zero77_1027]
  have g4 : cs[1028]? = some (.slice none 0 0) := by rw [hcs, cells77_at _ _ (by omega), zero77_1028]
  clear hcs hw1
  obtain ⟨w2, hw2⟩ : ∃ w2, w2 = w1.alloc (.cells cs 77) := ⟨_, rfl⟩
  rw [← hw2]
  have n2 : w2.heap[w.heap.size + 1]? = some (.cells cs 77) := by rw [hw2, ← z1, alloc_new]
  have o2 : w2.heap[w.heap.size]? = some (.cells #[.slice A n c, .int .i64 (pc : Int)] 62) := by rw [hw2, alloc_old _ _ _ (by omega), n1]
  have o3 : w2.heap[q]? = w.heap[q]? := by rw [hw2, alloc_old _ _ _ (by omega), o1]
  clear hw2 n1 o1 z1
  have d := fun i => cell_of_row w2 (w.heap.size + 1) i cs 77 (0, 0) n2
  have s := fun i => cell_of_row w2 w.heap.size i #[.slice A n c, .int .i64 (pc : Int)] 62 (0, 0) o2
  refine ⟨⟨cs, 77, n2, by omega⟩, (d 0).trans g0, (d 1).trans g1, (d 2).trans g2, Has.nil, by simp, (d 1027).trans g3, ⟨none, 0, (d 1028).trans g4, Nat.le_refl _, by unfold maxLen; omega, fun h => absurd h (by simp)⟩,
    ⟨⟨_, 62, o2, by simp⟩, ⟨A, c, by rw [s 0, hl]; rfl, by omega, hc, fun h => ?_⟩, by rw [s 1]; rfl⟩, (fun x hx => by cases hx), (fun x hx => by cases hx), hb, (fun h => by cases h), by omega, by omega, by omega⟩
  obtain ⟨k, hk, hh⟩ := hx (by omega)
  refine ⟨k, hk, fun i hi => ?_⟩
  rw [← hh i hi]
  simp only [World.cell?]
  rw [o3]
end Go.Proofs.YtfonpcfcelahdaaDoor
