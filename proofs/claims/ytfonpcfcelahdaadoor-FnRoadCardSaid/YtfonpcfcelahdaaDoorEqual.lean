/-
  What bytes.Equal says of two slices that hold the same bytes.
-/
import Derived.Test.YtfonpcfcelahdaaDoorMem
import Derived.Lib.ConvBytes
import Derived.Laws.BytesArg
namespace Go.Proofs.YtfonpcfcelahdaaDoor
open Go.RowKit

theorem Src.convert {w : World} {B n c : Nat} {A : Option Addr} {xs : List Int} (h : Src w B A n c xs) : (convert 22 9 (.slice A n c)).run Tryd.prog w = .ok (.string (strOfNums xs)) w := by
  obtain ⟨h1, h2, h3, h4, h5⟩ := h
  rcases Nat.eq_zero_or_pos n with hn | hn
  · subst hn
    obtain rfl : xs = [] := List.eq_nil_of_length_eq_zero h1
    rw [run_convert_bytes_string (P := Tryd.prog) w 22 9 5 _ 0 c Tryd.underlying22 Tryd.underlying5 Tryd.underlying9]
    cases A <;> simp [Conv.bytesToString, loadCells] <;> rfl
  · obtain ⟨b, o, rfl, _, hc⟩ := h5 hn
    exact run_convert_bytes_arg (P := Tryd.prog) w 22 5 Tryd.underlying22 Tryd.underlying5 b o n c xs h1 hc 9 Tryd.underlying9

theorem equal_any {B B' n c n2 c2 : Nat} {A A2 : Option Addr} {xs : List Int} (w : World) (h1 : Src w B A n c xs) (h2 : Src w B' A2 n2 c2 xs) :
    Calls Tryd.prog 10 #[.slice A n c, .slice A2 n2 c2] w fun e w' => e = .returned (.bool true) ∧ w = w' := by
  have e1 := h1.convert
  have e2 := h2.convert
  clear h1 h2
  go_enter Tryd.func10, Tryd.ntmps10
  go_wp2
  go_ret
  exact ⟨by simp, rfl⟩
end Go.Proofs.YtfonpcfcelahdaaDoor
