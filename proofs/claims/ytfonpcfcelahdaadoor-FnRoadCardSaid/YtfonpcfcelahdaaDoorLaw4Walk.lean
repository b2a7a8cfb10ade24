/-
  The walk of the law FnRoad.
-/
import Derived.Test.YtfonpcfcelahdaaDoorWritten
import Derived.Test.YtfonpcfcelahdaaDoorWell
import Derived.Test.YtfonpcfcelahdaaDoorLaw5Walk
import Derived.Test.YtfonpcfcelahdaaDoorLaidCells
import Derived.Test.YtfonpcfcelahdaaDoorEqual
import Derived.Test.YtfonpcfcelahdaaDoorSpecEnc
namespace Go.Proofs.YtfonpcfcelahdaaDoor
open Go.RowKit

set_option maxRecDepth 100000 in
set_option maxHeartbeats 4000000 in
theorem law4_walk (A W G R : Option Addr) (n c mw wc m gc mr rc : Nat) (ea : Addr) (z : Int) (xs ws gs rs : List Int) (w : World) (h : Src w w.heap.size A n c xs) (hw : Ints w w.heap.size W mw wc ws) (hg : Ints w w.heap.size G m gc gs) (hr : Ints w w.heap.size R mr rc rs)
    (hz : z ≤ 9223372036854775807) (hv : w.cell? ⟨0, 0, none⟩ = some (.iface 104 (.pointer (some ea)))) :
    Calls Tryd.prog 5 #[.slice A n c, .slice W mw wc, .slice G m gc, .int .i64 z, .slice R mr rc] w fun e w' => e = .returned (.bool true) ∧ Below w.heap.size w w' := by
  have hm := h.2.2.1
  have hnc := h.2.1
  have hmg := hg.2.2.1
  have hmc := hg.2.1
  have hmw := hw.2.2.1
  have hwc := hw.2.1
  have hmr := hr.2.2.1
  have hrc := hr.2.1
  unfold maxLen at hm hmg hmw hmr
  by_cases h1 : 2147483647 < n
  · go_enter Tryd.func5, Tryd.ntmps5
    go_wp2
    go_ret
    exact ⟨rfl, Below.refl _ _⟩
  by_cases h2 : 2147483647 < mw
  · go_enter Tryd.func5, Tryd.ntmps5
    go_wp2
    go_ret
    exact ⟨rfl, Below.refl _ _⟩
  by_cases h3 : 2147483647 < m
  · go_enter Tryd.func5, Tryd.ntmps5
    go_wp2
    go_ret
    exact ⟨rfl, Below.refl _ _⟩
  by_cases h4 : 2147483647 < mr
  · go_enter Tryd.func5, Tryd.ntmps5
    go_wp2
    go_ret
    exact ⟨rfl, Below.refl _ _⟩
  by_cases h5 : 65536 < n
  · go_enter Tryd.func5, Tryd.ntmps5
    go_wp2
    go_ret
    exact ⟨rfl, Below.refl _ _⟩
  by_cases h6 : 1000 < m
  · go_enter Tryd.func5, Tryd.ntmps5
    go_wp2
    go_ret
    exact ⟨rfl, Below.refl _ _⟩
  have hwell1 := well_any W mw wc ws w hw
  have hwell2 := well_any R mr rc rs w hr
  have H := Lib.hid h
  have HW := Lib.hid hw
  have HG := Lib.hid hg
  have HR := Lib.hid hr
  have HV := Lib.hid hv
  clear h hw hg hr hv
  cases hb1 : (wellB ws && decide (mw ≤ 1000)) with
  | false =>
    rw [hb1] at hwell1
    have HW1 := Lib.hid hwell1
    clear hwell1 hwell2 hb1
    go_enter Tryd.func5, Tryd.ntmps5
    go_wp2_with (go_at_call 12; refine HW1.out.mono ?_; rintro e w' ⟨rfl, hw'⟩; rw [← hw']; clear hw')
    go_ret
    exact ⟨rfl, Below.refl _ _⟩
  | true =>
  rw [hb1] at hwell1
  cases hb2 : (wellB rs && decide (mr ≤ 1000)) with
  | false =>
    rw [hb2] at hwell2
    have HW1 := Lib.hid hwell1
    have HW2 := Lib.hid hwell2
    clear hwell1 hwell2 hb1 hb2
    go_enter Tryd.func5, Tryd.ntmps5
    go_wp2_with (first
      | (go_at_call_of 12 (Value.slice W mw wc); refine HW1.out.mono ?_; rintro e w' ⟨rfl, hw'⟩; rw [← hw']; clear hw')
      | (go_at_call_of 12 (Value.slice R mr rc); refine HW2.out.mono ?_; rintro e w' ⟨rfl, hw'⟩; rw [← hw']; clear hw'))
    go_ret
    exact ⟨rfl, Below.refl _ _⟩
  | true =>
  rw [hb2] at hwell2
  have HW1 := Lib.hid hwell1
  have HW2 := Lib.hid hwell2
  rw [Bool.and_eq_true] at hb1 hb2
  have hs1 := Lib.hid (wellB_sizes hb1.1)
  have hs2 := Lib.hid (wellB_sizes hb2.1)
  have hl1 : mw ≤ 1000 := by simpa using hb1.2
  have hl2 : mr ≤ 1000 := by simpa using hb2.2
  clear hwell1 hwell2 hb1 hb2
  by_cases h7 : z < 1
  · go_enter Tryd.func5, Tryd.ntmps5
    go_wp2_with (first
      | (go_at_call_of 12 (Value.slice W mw wc); refine HW1.out.mono ?_; rintro e w' ⟨rfl, hw'⟩; rw [← hw']; clear hw')
      | (go_at_call_of 12 (Value.slice R mr rc); refine HW2.out.mono ?_; rintro e w' ⟨rfl, hw'⟩; rw [← hw']; clear hw'))
    go_ret
    exact ⟨rfl, Below.refl _ _⟩
  obtain ⟨pc, rfl⟩ : ∃ pc : Nat, z = (pc : Int) := ⟨z.toNat, by omega⟩
  have hby := H.out.2.2.2.1
  have hel := enc_le xs
  rw [H.out.1] at hel
  have hsl := spread_length gs (enc xs) 0
  have hrun := run_spread (gs := gs) hby
  obtain ⟨S, hS⟩ : ∃ S, S = spread gs 0 (enc xs) := ⟨_, rfl⟩
  obtain ⟨E, hE⟩ : ∃ E, E = enc xs := ⟨_, rfl⟩
  have HE := Lib.hid hE
  have HS := Lib.hid hS
  have hEl : E.length ≤ 81920 := by rw [hE]; omega
  have hSl : S.length ≤ 500000 := by rw [hS]; omega
  rw [← hS] at hrun
  obtain ⟨L, hL⟩ : ∃ L, L = S.length := ⟨_, rfl⟩
  obtain ⟨M, hM⟩ : ∃ M, M = E.length := ⟨_, rfl⟩
  have HRUN := Lib.hid hrun
  have HL := Lib.hid hL
  have HM := Lib.hid hM
  have hLb : L ≤ 500000 := by omega
  have hMb : M ≤ 81920 := by omega
  have HWR := Lib.hid (written_any A W n c mw wc xs ws w H.out HW.out hs1.out (by omega) hl1)
  clear hrun hL hE hS hsl hel hby hSl hEl hM
  go_enter Tryd.func5, Tryd.ntmps5
  go_wp2_with (first
    | (go_at_call_of 12 (Value.slice W mw wc); refine HW1.out.mono ?_; rintro e w' ⟨rfl, hw'⟩; rw [← hw']; clear hw')
    | (go_at_call_of 12 (Value.slice R mr rc); refine HW2.out.mono ?_; rintro e w' ⟨rfl, hw'⟩; rw [← hw']; clear hw')
    | (go_at_call 13; refine HWR.out.mono ?_; rintro e w1 ⟨hb1, v1, rfl, ho1⟩; rw [← HE.out] at ho1; obtain ⟨A1, c1, rfl, ht1⟩ := ho1.src; rw [← HM.out] at ht1 ⊢; refine Hid.out ?_))
  refine Lib.hid ?_
  have hg1 := (HG.out.below hb1).more hb1.size
  have HSP := Lib.hid (spread_any A1 G M c1 m gc E gs w1 ht1 (by omega) hg1)
  have HT1 := Lib.hid ht1
  have HB1 := Lib.hid hb1
  clear ht1 hg1 hb1 ho1
  go_wp2_with (go_at_call 7; refine HSP.out.mono ?_; rintro e w2 ⟨v2, rfl, ho2, hb2⟩; rw [HE.out, ← HS.out] at ho2; obtain ⟨A2, c2, rfl, ht2⟩ := ho2.src; rw [← HL.out] at ht2 ⊢; refine Hid.out ?_)
  refine Lib.hid ?_
  have hz1 := HB1.out.size
  have hbw2 : Below w.heap.size w w2 := HB1.out.trans (hb2.mono hz1)
  have hv2 := cell0_below hbw2 HV.out (block_lt HV.out)
  have hr2 := (HR.out.below hbw2).more hbw2.size
  have HRD := Lib.hid (implRead_any A2 R L c2 mr rc pc ea S rs w2 ht2 hr2 hs2.out (by omega) hl2 (by omega) (by unfold maxLen; omega) hv2)
  have HB2 := Lib.hid hb2
  have HBW2 := Lib.hid hbw2
  clear ht2 hb2 hbw2 hv2 hr2 ho2
  go_wp2_with (go_at_call 14; refine HRD.out.mono ?_; rintro e w3 ⟨hb3, ⟨v3, d3, hr3, rfl, ho3⟩ | ⟨hr3, _⟩⟩; rotate_left; exact absurd (HRUN.out.symm.trans hr3) (by simp); have hd3 : d3 = xs := (Option.some.inj (HRUN.out.symm.trans hr3)).symm; rw [hd3] at ho3; clear hd3; obtain ⟨A3, c3, rfl, ht3⟩ := ho3.src; rw [H.out.1] at ht3 ⊢; refine Hid.out ?_)
  refine Lib.hid ?_
  have hz2 := HB2.out.size
  have hbw3 : Below w.heap.size w w3 := HBW2.out.trans (hb3.mono HBW2.out.size)
  have HSE := Lib.hid (specEncode_any A n c xs w3 ((H.out.below hbw3).more hbw3.size) (by omega))
  have HT3 := Lib.hid ((HT1.out.below HB2.out).below (hb3.mono hz2))
  have HG3 := Lib.hid ht3
  have HBW3 := Lib.hid hbw3
  have hz13 : Hid (w1.heap.size ≤ w3.heap.size) := by have := hb3.size; unfold Hid; omega
  clear ht3 hb3 hbw3 ho3
  go_wp2_with (go_at_call 8; refine HSE.out.mono ?_; rintro e w4 ⟨v4, rfl, ho4, hb4⟩; rw [← HE.out] at ho4; obtain ⟨A4, c4, rfl, ht4⟩ := ho4.src; rw [← HM.out] at ht4 ⊢; refine Hid.out ?_)
  refine Lib.hid ?_
  have hbw4 : Below w.heap.size w w4 := HBW3.out.trans (hb4.mono HBW3.out.size)
  have HE1 := Lib.hid (equal_any w4 (HT3.out.below (hb4.mono hz13.out)) ht4)
  have HE2 := Lib.hid (equal_any w4 (HG3.out.below hb4) (H.out.below hbw4))
  have HBW4 := Lib.hid hbw4
  clear hbw4 hb4 ht4 ho4
  go_wp2_with (first
    | (go_at_call_of 10 (Value.slice A1 M c1); refine HE1.out.mono ?_; rintro e w' ⟨rfl, hw'⟩; rw [← hw']; clear hw')
    | (go_at_call_of 10 (Value.slice A3 n c3); refine HE2.out.mono ?_; rintro e w' ⟨rfl, hw'⟩; rw [← hw']; clear hw'))
  go_ret
  exact ⟨rfl, HBW4.out⟩

theorem eof_of_laid1 {W : World} (h : laidMetH Tryd.prog [("io.EOF", Rows.laid_io_EOF)] W) : ∃ ea, W.cell? ⟨0, 0, none⟩ = some (.iface 104 (.pointer (some ea))) := by
  have h1 : laidMet Tryd.prog [("io.EOF", Rows.laid_io_EOF)] W := h
  obtain ⟨a0, sa, hva, _, _, _⟩ := laid_sentinel h1 lc_gE lc_gT Tryd.underlying41 lc_row Tryd.underlying104 Tryd.underlying130 rfl rfl Tryd.underlying9 lc_c130 lc_c9
  exact ⟨a0, by simpa using World.var?_cell lc_gE hva 0⟩

theorem fnRoad_walk {A W G R : Option Addr} {n c mw wc m gc mr rc : Nat} {xs ws gs rs : List Int} {z : Int} (w : World) (hL : laidMetH Tryd.prog [("io.EOF", Rows.laid_io_EOF)] w) (h : Src w w.heap.size A n c xs) (hw : Ints w w.heap.size W mw wc ws) (hg : Ints w w.heap.size G m gc gs)
    (hz : (Lit.int .i64 z).wf = true) (hr : Ints w w.heap.size R mr rc rs) :
    Calls Tryd.prog 5 #[.slice A n c, .slice W mw wc, .slice G m gc, .int .i64 z, .slice R mr rc] w fun e w' => e = .returned (.bool true) ∧ Below w.heap.size w w' := by
  obtain ⟨ea, he⟩ := eof_of_laid1 hL
  exact law4_walk A W G R n c mw wc m gc mr rc ea z xs ws gs rs w h hw hg hr (by have := bounds_i64 hz; omega) he
end Go.Proofs.YtfonpcfcelahdaaDoor
