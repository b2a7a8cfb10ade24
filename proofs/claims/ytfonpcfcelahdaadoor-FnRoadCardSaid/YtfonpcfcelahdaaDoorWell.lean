/-
  What spec.Well does.
-/
import Derived.Test.YtfonpcfcelahdaaDoorSpread
import Derived.Test.YtfonpcfcelahdaaDoorGroups
namespace Go.Proofs.YtfonpcfcelahdaaDoor
open Go.RowKit

/-- The sizes are well. -/
def wellB (gs : List Int) : Bool := gs.all (fun x => decide (1 ≤ x ∧ x ≤ 65536))

set_option maxRecDepth 100000 in
set_option maxHeartbeats 1000000 in
theorem well_any (G : Option Addr) (m gc : Nat) (gs : List Int) (w : World) (h : Ints w w.heap.size G m gc gs) :
    Calls Tryd.prog 12 #[.slice G m gc] w fun e w' => e = .returned (.bool (wellB gs && decide (m ≤ 1000))) ∧ w = w' := by
  have hm := h.2.2.1
  have hnc := h.2.1
  unfold maxLen at hm
  have HX := Lib.hid h.1
  have H := Lib.hid h
  clear h
  go_enter Tryd.func12, Tryd.ntmps12
  go_wp2
  go_loop [2, 7] (fun s2 s7 => ∃ k : Nat, s2 = .bool false ∧ s7 = .int .i64 (k : Int) ∧ k ≤ m ∧ Hid (wellB gs = wellB (gs.drop k)))
    (fun _ s7 => m - (intOf s7).toNat)
  case atStart => exact ⟨0, rfl, rfl, by omega, (by simp [Hid])⟩
  case round =>
    obtain ⟨k, rfl, rfl, hk, hg⟩ := hrel
    by_cases hkn : k < m
    · obtain ⟨x, hx⟩ : ∃ x, gs.getD k 0 = x := ⟨_, rfl⟩
      obtain ⟨b, o, rfl, _, hcell⟩ := H.out.2.2.2.2 (by omega)
      have hc := hcell k hkn
      rw [hx] at hc
      have hd : gs.drop k = x :: gs.drop (k + 1) := by
        have := HX.out
        rw [List.drop_eq_getElem_cons (by omega), ← hx]
        simp [List.getD, List.getElem?_eq_getElem (show k < gs.length by omega)]
      rw [hd] at hg
      clear hx hcell hd
      by_cases h1 : x < 1
      · have hn : Hid (wellB gs = false) := by
          rw [Hid, hg.out]
          simp [wellB]
          omega
        go_wp2
        go_ret
        exact ⟨by rw [hn.out]; rfl, rfl⟩
      · by_cases h2 : 65536 < x
        · have hn : Hid (wellB gs = false) := by
            rw [Hid, hg.out]
            simp [wellB]
            omega
          go_wp2
          go_ret
          exact ⟨by rw [hn.out]; rfl, rfl⟩
        · have hn : Hid (wellB gs = wellB (gs.drop (k + 1))) := by
            rw [Hid, hg.out]
            simp [wellB]
            omega
          go_wp2
          go_round
          case rel => exact ⟨k + 1, rfl, (by go_num), by omega, hn⟩
          case measure => simp [intOf]; omega
    · have hn : Hid (wellB gs = true) := by
        have := HX.out
        rw [Hid, hg.out, List.drop_of_length_le (by omega)]
        rfl
      go_wp2
      go_ret
      exact ⟨by rw [hn.out]; simp; omega, rfl⟩

theorem wellB_sizes {gs : List Int} (h : wellB gs = true) : ∀ x ∈ gs, 1 ≤ x ∧ x ≤ 65536 := by
  unfold wellB at h
  rw [List.all_eq_true] at h
  intro x hx
  simpa using h x hx
end Go.Proofs.YtfonpcfcelahdaaDoor
