/-
  What spec.signs does: the five figures of four bytes, in a new row.
-/
import Derived.Test.YtfonpcfcelahdaaDoorRows
import Derived.Test.YtfonpcfcelahdaaDoorPlain
import Derived.Test.YtfonpcfcelahdaaDoorBits
import Derived.WalkKit
import Derived.WalkSpells
import Derived.WalkLawsBesides
import Derived.Handy
import Derived.Deep.QuietTactic
import Derived.BigQuiet
import Derived.Lib.Hide
namespace Go.Proofs.YtfonpcfcelahdaaDoor
open Go.RowKit

theorem figs_eq (n : Int) : figs n = [33 + n / 85 / 85 / 85 / 85 % 85, 33 + n / 85 / 85 / 85 % 85, 33 + n / 85 / 85 % 85, 33 + n / 85 % 85, 33 + n % 85] := by
  have e4 : n / 85 / 85 / 85 / 85 = n / 52200625 := by omega
  have e3 : n / 85 / 85 / 85 = n / 614125 := by omega
  have e2 : n / 85 / 85 = n / 7225 := by omega
  rw [e4, e3, e2]
  rfl

set_option maxHeartbeats 400000 in
theorem signs_any (a b c d : Int) (ha : 0 ≤ a ∧ a < 256) (hb : 0 ≤ b ∧ b < 256) (hc : 0 ≤ c ∧ c < 256) (hd : 0 ≤ d ∧ d < 256) (g off len cap : Nat) (hl : 4 ≤ len) (w : World)
   (c0 : w.cell? ⟨g, off, none⟩ = some (.int .u8 a)) (c1 : w.cell? ⟨g, off + 1, none⟩ = some (.int .u8 b)) (c2 : w.cell? ⟨g, off + 2, none⟩ = some (.int .u8 c)) (c3 : w.cell? ⟨g, off + 3, none⟩ = some (.int .u8 d)) :
    Calls Tryd.prog 16 #[.slice (some ⟨g, off, none⟩) len cap] w fun e w' => e = .returned (.slice (some ⟨w.heap.size, 0, none⟩) 5 5) ∧ ∃ k, w' = (w.alloc (.cells ((figs (word a b c d)).map (.int .u8)).toArray 5)).drewN k := by
  have hmk : ∀ w, (Instr.makeSlice 22 (.int .i64 5) (.int .i64 5)).run Tryd.prog w = .ok (.slice (some ⟨w.heap.size, 0, none⟩) 5 5) (w.alloc (.cells #[.int .u8 0, .int .u8 0, .int .u8 0, .int .u8 0, .int .u8 0] 5)) := fun _ => by kernel_rfl
  obtain ⟨n, hn⟩ : ∃ n, n = word a b c d := ⟨_, rfl⟩
  have hor : bits .or .u64 (bits .or .u64 (bits .or .u64 (a * 16777216) (b * 65536)) (c * 256)) d = n := by rw [or64 ha hb hc hd, hn]; rfl
  obtain ⟨n0, n1⟩ := word_lt ha hb hc hd
  rw [← hn] at n0 n1 ⊢
  have H := Lib.hid hn
  clear hn
  have ad : ∀ (W : World) j o, (W.drewN j).alloc o = (W.alloc o).drewN j := fun _ _ _ => rfl
  have sd : ∀ (W : World) j x v, (W.drewN j).setCell x v = (W.setCell x v).drewN j := fun _ _ _ _ => rfl
  go_enter Tryd.func16, Tryd.ntmps16
  go_wp2
  go_quiet (fail)
  go_wp2
  go_rounds 6
  go_ret
  exact ⟨rfl, nq, by rw [figs_eq]; rfl⟩
end Go.Proofs.YtfonpcfcelahdaaDoor
