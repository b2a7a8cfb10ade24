/-
  The walk of the law FnDecode.
-/
import Derived.Test.YtfonpcfcelahdaaDoorImplDec
import Derived.Test.YtfonpcfcelahdaaDoorSpread
import Derived.Test.YtfonpcfcelahdaaDoorEqual
namespace Go.Proofs.YtfonpcfcelahdaaDoor
open Go.RowKit

theorem enc_gt {xs : List Int} (h : AllBytes xs) : ∀ x ∈ enc xs, 32 < x := fun x hx => by
  have := enc_signs xs h x hx
  omega
theorem run_spread {xs gs : List Int} (h : AllBytes xs) : run (spread gs 0 (enc xs)) = some xs := by
  rw [run_blanks (enc xs) _ (spread_filter gs (enc xs) (enc_gt h) 0)]
  exact run_enc xs h

set_option maxRecDepth 100000 in
set_option maxHeartbeats 2000000 in
theorem law2_walk (A G : Option Addr) (n c m gc : Nat) (xs gs : List Int) (w : World) (h : Src w w.heap.size A n c xs) (hg : Ints w w.heap.size G m gc gs) :
    Calls Tryd.prog 3 #[.slice A n c, .slice G m gc] w fun e w' => e = .returned (.bool true) ∧ Below w.heap.size w w' := by
  have hm := h.2.2.1
  have hnc := h.2.1
  have hmg := hg.2.2.1
  have hmc := hg.2.1
  unfold maxLen at hm hmg
  by_cases h1 : 2147483647 < n
  · go_enter Tryd.func3, Tryd.ntmps3
    go_wp2
    go_ret
    exact ⟨rfl, Below.refl _ _⟩
  by_cases h2 : 2147483647 < m
  · go_enter Tryd.func3, Tryd.ntmps3
    go_wp2
    go_ret
    exact ⟨rfl, Below.refl _ _⟩
  by_cases h3 : 65536 < n
  · go_enter Tryd.func3, Tryd.ntmps3
    go_wp2
    go_ret
    exact ⟨rfl, Below.refl _ _⟩
  by_cases h4 : 1000 < m
  · go_enter Tryd.func3, Tryd.ntmps3
    go_wp2
    go_ret
    exact ⟨rfl, Below.refl _ _⟩
  have hby := h.2.2.2.1
  have hel := enc_le xs
  rw [h.1] at hel
  have hsl := spread_length gs (enc xs) 0
  have hrun := run_spread (gs := gs) hby
  have HDE := Lib.hid (decode_run (room := 4 * (spread gs 0 (enc xs)).length + 8) (l := spread gs 0 (enc xs)) (by omega) hrun)
  obtain ⟨S, hS⟩ : ∃ S, S = spread gs 0 (enc xs) := ⟨_, rfl⟩
  obtain ⟨E, hE⟩ : ∃ E, E = enc xs := ⟨_, rfl⟩
  have HE := Lib.hid hE
  have HS := Lib.hid hS
  have hEl : E.length ≤ 81920 := by rw [hE]; omega
  have hSl : S.length ≤ 500000 := by rw [hS]; omega
  rw [← hS] at HDE
  clear hE hS hrun hsl hel hby
  have H := Lib.hid h
  have HG := Lib.hid hg
  clear h hg
  go_enter Tryd.func3, Tryd.ntmps3
  go_wp2_with (go_at_call 8; refine (specEncode_any A n c xs w H.out (by omega)).mono ?_; rintro e w1 ⟨v1, rfl, ho1, hb1⟩; rw [← HE.out] at ho1; obtain ⟨A1, c1, rfl, hs1⟩ := ho1.src; refine Hid.out ?_)
  refine Lib.hid ?_
  have hg1 := (HG.out.below hb1).more hb1.size
  go_wp2_with (go_at_call 7; refine (spread_any A1 G E.length c1 m gc E gs w1 hs1 (by omega) hg1).mono ?_; rintro e w2 ⟨v2, rfl, ho2, hb2⟩; rw [HE.out, ← HS.out] at ho2; obtain ⟨A2, c2, rfl, hs2⟩ := ho2.src; refine Hid.out ?_)
  refine Lib.hid ?_
  go_wp2_with (first | (go_at_call 9; refine (implDecode_fine A2 S.length c2 S true w2 hs2 (by omega) HDE.out).mono ?_; rintro e w3 ⟨A3, m3, c3, rfl, hs3, _, hb3⟩; have hs4 := ((H.out.below hb1).more hb1.size).below hb2 |>.more hb2.size |>.below hb3) | (go_at_call 10; refine (equal_any w3 hs3 hs4).mono ?_; rintro e w' ⟨rfl, rfl⟩))
  go_ret
  exact ⟨rfl, (hb1.trans (hb2.mono hb1.size)).trans (hb3.mono (by have := hb1.size; have := hb2.size; omega))⟩

theorem fnDecode_walk {A G : Option Addr} {n c m gc : Nat} {xs gs : List Int} (w : World) (_hL : laidMetH Tryd.prog [("errors.errorType", Rows.laid_errors_errorType), ("io.EOF", Rows.laid_io_EOF)] w) (h : Src w w.heap.size A n c xs) (hg : Ints w w.heap.size G m gc gs) :
    Calls Tryd.prog 3 #[.slice A n c, .slice G m gc] w fun e w' => e = .returned (.bool true) ∧ Below w.heap.size w w' := law2_walk A G n c m gc xs gs w h hg
end Go.Proofs.YtfonpcfcelahdaaDoor
