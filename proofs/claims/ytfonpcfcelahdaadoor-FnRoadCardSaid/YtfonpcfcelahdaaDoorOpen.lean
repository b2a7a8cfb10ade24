/-
  From a slice of bytes as a row opens it to 'Src'.
-/
import Derived.Test.YtfonpcfcelahdaaDoorMem
import Derived.OpenShut
namespace Go.Proofs.YtfonpcfcelahdaaDoor
open Go.RowKit

/-- What a row tells of a slice of integers that came in: it is nil; or it leads to a row of 'cap' cells, the numbers zs. -/
def IsRow (k : IntKind) (w : World) (a : Option Addr) (len cap : Nat) (zs : List Int) : Prop :=
  (a = none ∧ len = 0 ∧ cap = 0 ∧ zs = []) ∨
  ∃ x, a = some x ∧ len ≤ cap ∧ cap ≤ maxLen ∧ zs.length = cap ∧ (∀ i, i < zs.length → w.cell? (x.add i) = some (.int k (zs.getD i 0))) ∧ ∀ n ∈ zs, (Lit.int k n).wf = true

theorem block_lt {w : World} {p : Addr} {v : Value} (h : w.cell? p = some v) : p.block < w.heap.size := by
  rcases Nat.lt_or_ge p.block w.heap.size with hlt | hge
  · exact hlt
  · unfold World.cell? at h
    rw [Array.getElem?_eq_none hge] at h
    simp at h

theorem IsRow.src {w : World} {a : Option Addr} {len cap : Nat} {zs : List Int} (h : IsRow .u8 w a len cap zs) : Src w w.heap.size a len cap (zs.take len) := by
  rcases h with ⟨rfl, rfl, rfl, rfl⟩ | ⟨x, rfl, hl, hm, hz, hc, hw⟩
  · exact ⟨rfl, Nat.le_refl _, by unfold maxLen; omega, fun _ hx => (by cases hx), fun hn => absurd hn (by omega)⟩
  · refine ⟨by rw [List.length_take]; omega, hl, hm, fun y hy => ?_, fun hn => ?_⟩
    · have := bounds_u8 (hw y (List.mem_of_mem_take hy))
      omega
    · obtain ⟨b, off, spot⟩ := x
      have h0 := hc 0 (by omega)
      have hspot : spot = none := by simpa [Addr.add] using World.cell?_spot h0
      subst hspot
      refine ⟨b, off, rfl, ?_, fun i hi => ?_⟩
      · have := block_lt h0
        simpa [Addr.add] using this
      · have e : (⟨b, off, none⟩ : Addr).add i = ⟨b, off + i, none⟩ := by
          unfold Addr.add
          split
          · rename_i h; subst h; rfl
          · rfl
        rw [← e, hc i (by omega)]
        simp [List.getD, hi]
end Go.Proofs.YtfonpcfcelahdaaDoor
