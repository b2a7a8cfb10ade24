/-
  What the encoder's Write does.
-/
import Derived.Test.YtfonpcfcelahdaaDoorEncWrA
import Derived.Test.YtfonpcfcelahdaaDoorEncWrB
namespace Go.Proofs.YtfonpcfcelahdaaDoor
open Go.RowKit

theorem encWrite_any (eb bb pb n c : Nat) (A : Option Addr) (v : Value) (done buf xs : List Int) (w : World) (h : ESt w eb bb v done buf) (hp : Pin w pb A n c xs) (h1 : pb ≠ eb) (h2 : pb ≠ bb) (h3 : v.ownBlock ≠ some pb) (h4 : pb < w.heap.size)
    (hlim : done.length + buf.length + n ≤ 100000) (hn : n ≤ 65536) (hn1 : 1 ≤ n)  :
    Calls Tryd.prog 60 #[.pointer (some ⟨eb, 0, none⟩), .slice A n c] w (EPost eb bb n v (done ++ buf ++ xs) w) := by
  by_cases h0 : buf.length ≤ 0
  · exact encWrite_a eb bb pb n c A v done buf xs w h hp h1 h2 h3 h4 hlim hn hn1 h0
  · exact encWrite_b eb bb pb n c A v done buf xs w h hp h1 h2 h3 h4 hlim hn hn1 (by omega)
end Go.Proofs.YtfonpcfcelahdaaDoor
