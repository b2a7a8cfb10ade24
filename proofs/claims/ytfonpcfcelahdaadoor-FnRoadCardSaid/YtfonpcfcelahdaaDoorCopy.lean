/-
  copy of bytes into a stretch of a block.
-/
import Derived.Test.YtfonpcfcelahdaaDoorWrote
import Derived.Laws.CopyOwn
import Derived.Deep.RegionLaw
namespace Go.Proofs.YtfonpcfcelahdaaDoor
open Go.RowKit

theorem add_off (b off j : Nat) : (⟨b, off, none⟩ : Addr).add j = ⟨b, off + j, none⟩ := by
  unfold Addr.add
  split
  · rename_i h0; subst h0; rfl
  · rfl

set_option maxRecDepth 100000 in
theorem run_cp {w : World} {g off dl dc sl sc : Nat} {dp sp : Option Addr} {xs : List Int} (ty : TypeId) (hn : xs.length = Nat.min sl dl) (hd : 0 < xs.length → dp = some ⟨g, off, none⟩)
    (hs : 0 < xs.length → ∃ sg so, sp = some ⟨sg, so, none⟩ ∧ Has w sg so xs) (hr : Room w g (off + xs.length)) :
    ∃ w', (Builtin.copy_ #[22, 22] ty #[.slice dp dl dc, .slice sp sl sc]).run Tryd.prog w = .ok (.int .i64 (xs.length : Nat)) w' ∧ Wrote w w' g off xs.length ∧ Has w' g off xs := by
  have hsz : (Tryd.prog.info? 5).map (·.size) = some 1 := by kernel_rfl
  by_cases h0 : xs.length = 0
  · obtain rfl : xs = [] := List.eq_nil_of_length_eq_zero h0
    have hrun := run_copy_none (P := Tryd.prog) w 22 22 ty 5 dp sp dl dc sl sc Tryd.underlying22 hsz (by simpa using hn.symm)
    exact ⟨w, hrun, Wrote.refl _ _ _ _, Has.nil⟩
  · obtain rfl := hd (by omega)
    obtain ⟨sg, so, rfl, hx⟩ := hs (by omega)
    obtain ⟨cs, t, hc, hlen⟩ := hr
    have hsrc : ∀ j v, (xs.map (Value.int .u8))[j]? = some v → w.cell? ((⟨sg, so, none⟩ : Addr).add j) = some v := by
      intro j v hj
      have hjl : j < xs.length := by
        have := (List.getElem?_eq_some_iff.1 hj).1
        simpa using this
      rw [add_off, hx j hjl, ← hj]
      simp [List.getD, List.getElem?_eq_getElem hjl]
    have hrun := run_copy_row (P := Tryd.prog) w 22 22 ty 5 g off dl dc ⟨sg, so, none⟩ sl sc cs t (xs.map (Value.int .u8)) Tryd.underlying22 hsz hc (by simpa using hn) hsrc (by simpa using hlen)
      (by intro u hu; simp at hu; obtain ⟨x, _, rfl⟩ := hu; rfl)
    rw [List.length_map] at hrun
    refine ⟨_, hrun, ⟨rfl, rfl, rfl, setRow_size _ _ _, fun k hk => setRow_other w g k _ hk, fun cs' t' hc' => ?_⟩, fun i hi => ?_⟩
    · rw [hc] at hc'
      simp only [Option.some.injEq, Obj.cells.injEq, and_true] at hc'
      obtain ⟨rfl, rfl⟩ := hc'
      refine ⟨_, setRow_heap w g cs _ t _ hc, ?_, fun i hi => ?_⟩
      · simp only [List.size_toArray, List.length_append, List.length_take, List.length_drop, List.length_map, Array.length_toList]
        clear hrun hsz hsrc hc hs hx hd hn h0
        omega
      · simp only [List.getElem?_toArray, List.append_assoc]
        rcases hi with hi | hi
        · rw [List.getElem?_append_left (by simp; omega), List.getElem?_take, if_pos hi, Array.getElem?_toList]
        · rw [List.getElem?_append_right (by simp; omega), List.getElem?_append_right (by simp; omega), List.getElem?_drop, Array.getElem?_toList]
          congr 1
          simp only [List.length_take, List.length_map, Array.length_toList]
          omega
    · rw [cell_setRow_same w g _ cs _ t _ hc]
      simp only [List.getElem?_toArray, List.append_assoc]
      rw [List.getElem?_append_right (by simp; clear hrun hsz hsrc; omega), List.getElem?_append_left (by simp; omega)]
      have e : off + i - (List.take off cs.toList).length = i := by simp; omega
      rw [e]
      simp [List.getD, List.getElem?_eq_getElem hi]

theorem wpList_cp {ops : Array Oper} {rest : List Oper} {o : Oper} {a : Act} {Q : Exit → Act → World → Prop} {w : World} (hgd : o.guard = none) (d s : Operand)
    (ho : o.op = .call { callee := .builtin .copy, args := #[d, s], argTypes := #[22, 22] }) {g off dl dc sl sc : Nat} {dp sp : Option Addr} {xs : List Int} (hed : a.eval d = .slice dp dl dc) (hes : a.eval s = .slice sp sl sc)
    (hn : xs.length = Nat.min sl dl) (hd : 0 < xs.length → dp = some ⟨g, off, none⟩) (hs : 0 < xs.length → ∃ sg so, sp = some ⟨sg, so, none⟩ ∧ Has w sg so xs) (hr : Room w g (off + xs.length))
    (N : Nat) (hN : N = xs.length)
    (k : ∀ w', Wrote w w' g off N → Has w' g off xs → wpList Tryd.prog ops Q rest (a.put o.dst (.int .i64 (N : Int))) w') : wpList Tryd.prog ops Q (o :: rest) a w := by
  subst hN
  refine wpList_plain hgd fun K hK => ?_
  obtain ⟨w', hrun, h2, h3⟩ := run_cp o.type hn hd hs hr
  unfold Oper.wp
  simp [execOp, ho, resolve, invoke, builtin, hed, hes, Result.andThen]
  rw [hrun]
  exact hK _ _ (k w' h2 h3)

theorem step_cp {ops : Array Oper} {o : Oper} {a : Act} {w : World} {K : Act → World → Prop} {Q : Exit → Act → World → Prop} {E : Prop} (hgd : o.guard = none) (d s : Operand)
    (ho : o.op = .call { callee := .builtin .copy, args := #[d, s], argTypes := #[22, 22] }) {g off dl dc sl sc : Nat} {dp sp : Option Addr} {xs : List Int} (hed : a.eval d = .slice dp dl dc) (hes : a.eval s = .slice sp sl sc)
    (hn : xs.length = Nat.min sl dl) (hd : 0 < xs.length → dp = some ⟨g, off, none⟩) (hs : 0 < xs.length → ∃ sg so, sp = some ⟨sg, so, none⟩ ∧ Has w sg so xs) (hr : Room w g (off + xs.length))
    (N : Nat) (hN : N = xs.length)
    (k : ∀ w', Wrote w w' g off N → Has w' g off xs → K (a.put o.dst (.int .i64 (N : Int))) w') :
    if Region.wanted o (yielded ops a.tmps) = true then Oper.wp Tryd.prog o a w K Q else E := by
  subst hN
  have hw : Region.wanted o (yielded ops a.tmps) = true := by simp [Region.wanted, hgd]
  rw [if_pos hw]
  obtain ⟨w', hrun, h2, h3⟩ := run_cp o.type hn hd hs hr
  unfold Oper.wp
  simp [execOp, ho, resolve, invoke, builtin, hed, hes, Result.andThen]
  rw [hrun]
  exact k w' h2 h3
end Go.Proofs.YtfonpcfcelahdaaDoor
