/-
  What spec.Groups does.
-/
import Derived.Test.YtfonpcfcelahdaaDoorPlain3
import Derived.WalkSpells
import Derived.WalkLawsBesides
import Derived.Lib.Hide
namespace Go.Proofs.YtfonpcfcelahdaaDoor
open Go.RowKit

theorem ret_int {k : IntKind} {a b : Int} (h : a = b) : Ending.returned (.int k a) = .returned (.int k b) := by rw [h]
theorem groups_on {R R' S : Nat} (h : Hid (R = S)) (e : R = R') : Hid (R' = S) := by rw [← e]; exact h

set_option maxRecDepth 100000 in
set_option maxHeartbeats 1000000 in
theorem groups_any (A : Option Addr) (n c : Nat) (xs : List Int) (w : World) (h : Src w w.heap.size A n c xs) :
    Calls Tryd.prog 11 #[.slice A n c] w fun e w' => e = .returned (.int .i64 (groups 0 0 0 xs : Nat)) ∧ w = w' := by
  have hm := h.2.2.1
  have hnc := h.2.1
  unfold maxLen at hm
  have HX := Lib.hid h.1
  have H := Lib.hid h
  clear h
  go_enter Tryd.func11, Tryd.ntmps11
  go_wp2
  go_loop [3, 4, 9] (fun s3 s4 s9 => ∃ k done many : Nat, s9 = .int .i64 (k : Int) ∧ s3 = .int .i64 (done : Int) ∧ s4 = .int .i64 (many : Int) ∧ k ≤ n ∧ done ≤ n ∧ many ≤ 4 ∧ Hid (groups k done many (xs.drop k) = groups 0 0 0 xs))
    (fun _ _ s9 => n - (intOf s9).toNat)
  case atStart => exact ⟨0, 0, 0, rfl, rfl, rfl, by omega, by omega, by omega, (by simp [Hid])⟩
  case round =>
    obtain ⟨k, done, many, rfl, rfl, rfl, hk, hdn, hmy, hg⟩ := hrel
    by_cases hkn : k < n
    · obtain ⟨x, hx⟩ : ∃ x, xs.getD k 0 = x := ⟨_, rfl⟩
      have hxb := H.out.2.2.2.1.getD k
      obtain ⟨b, o, rfl, _, hcell⟩ := H.out.cells (by omega)
      have hc := hcell k hkn
      rw [hx] at hc hxb
      have hd : xs.drop k = x :: xs.drop (k + 1) := by
        have := HX.out
        rw [List.drop_eq_getElem_cons (by omega), ← hx]
        simp [List.getD, List.getElem?_eq_getElem (show k < xs.length by omega)]
      rw [hd] at hg
      clear hx hcell hd
      by_cases hb : x ≤ 32
      · have hn := groups_on hg (show _ = groups (k + 1) done many (xs.drop (k + 1)) by simp only [groups]; rw [if_pos hb])
        go_wp2
        go_round
        case rel => exact ⟨k + 1, done, many, (by go_num), rfl, rfl, by omega, hdn, hmy, hn⟩
        case measure => simp [intOf]; omega
      · by_cases hz : x = 122
        · subst hz
          have hn := groups_on hg (show _ = groups (k + 1) (k + 1) 0 (xs.drop (k + 1)) by simp only [groups]; rw [if_neg hb]; simp)
          go_wp2
          go_round
          case rel => exact ⟨k + 1, k + 1, 0, (by go_num), (by go_num), rfl, by omega, by omega, by omega, hn⟩
          case measure => simp [intOf]; omega
        · by_cases h4 : many = 4
          · subst h4
            have hn := groups_on hg (show _ = groups (k + 1) (k + 1) 0 (xs.drop (k + 1)) by simp only [groups]; rw [if_neg hb, if_neg hz]; simp)
            go_wp2
            go_round
            case rel => exact ⟨k + 1, k + 1, 0, (by go_num), (by go_num), rfl, by omega, by omega, by omega, hn⟩
            case measure => simp [intOf]; omega
          · have hn := groups_on hg (show _ = groups (k + 1) done (many + 1) (xs.drop (k + 1)) by simp only [groups]; rw [if_neg hb, if_neg hz, if_neg h4])
            go_wp2
            go_round
            case rel => exact ⟨k + 1, done, many + 1, (by go_num), rfl, (by go_num), by omega, hdn, by omega, hn⟩
            case measure => simp [intOf]; omega
    · obtain rfl : k = n := by omega
      have hn : done = groups 0 0 0 xs := by
        have := hg.out
        rw [List.drop_of_length_le (by rw [HX.out]; exact Nat.le_refl _)] at this
        simpa [groups] using this
      have HN := Lib.hid hn
      clear hn
      go_wp2
      go_ret
      exact ⟨ret_int (congrArg Int.ofNat HN.out), rfl⟩
end Go.Proofs.YtfonpcfcelahdaaDoor
