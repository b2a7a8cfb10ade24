/-
  The walk of the law FnExactEncode.
-/
import Derived.Test.YtfonpcfcelahdaaImplEnc
import Derived.Test.YtfonpcfcelahdaaEqual
namespace Go.Proofs.Ytfonpcfcelahdaa
open Go.RowKit

set_option maxHeartbeats 1000000 in
theorem law1_walk (A : Option Addr) (n c : Nat) (xs : List Int) (w : World) (h : Src w w.heap.size A n c xs) :
    Calls Try.prog 3 #[.slice A n c] w fun e w' => e = .returned (.bool true) ∧ Below w.heap.size w w' := by
  have hm := h.2.2.1
  have hnc := h.2.1
  unfold maxLen at hm
  by_cases h1 : 2147483647 < n
  · go_enter Try.func3, Try.ntmps3
    go_wp2
    go_ret
    exact ⟨rfl, Below.refl _ _⟩
  · by_cases h2 : 65536 < n
    · go_enter Try.func3, Try.ntmps3
      go_wp2
      go_ret
      exact ⟨rfl, Below.refl _ _⟩
    · go_enter Try.func3, Try.ntmps3
      go_wp2_with (first | (go_at_call 5; refine (implEncode_any A n c xs w h (by omega)).mono ?_; rintro e w1 ⟨A1, m1, c1, rfl, hs1, hb1⟩) | (go_at_call 6; refine (specEncode_any A n c xs w1 ((h.below hb1).more hb1.size) (by omega)).mono ?_; rintro e w2 ⟨v2, rfl, ho2, hb2⟩; obtain ⟨A2, c2, rfl, hs2⟩ := ho2.src) | (go_at_call 4; refine (equal_any w2 (hs1.below hb2) hs2).mono ?_; rintro e w' ⟨rfl, rfl⟩))
      go_ret
      exact ⟨rfl, hb1.trans (hb2.mono hb1.size)⟩
end Go.Proofs.Ytfonpcfcelahdaa
