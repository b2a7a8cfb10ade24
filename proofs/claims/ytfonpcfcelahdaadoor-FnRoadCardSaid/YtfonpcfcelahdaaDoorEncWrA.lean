/-
  What the encoder's Write does where it keeps nothing (printed by gen_encw.py).
-/
import Derived.Test.YtfonpcfcelahdaaDoorEncWr1
namespace Go.Proofs.YtfonpcfcelahdaaDoor
open Go.RowKit

set_option maxRecDepth 100000 in
set_option maxHeartbeats 40000000 in
theorem encWrite_a (eb bb pb n c : Nat) (A : Option Addr) (v : Value) (done buf xs : List Int) (w : World) (h : ESt w eb bb v done buf) (hp : Pin w pb A n c xs) (h1 : pb ≠ eb) (h2 : pb ≠ bb) (h3 : v.ownBlock ≠ some pb) (h4 : pb < w.heap.size)
    (hlim : done.length + buf.length + n ≤ 100000) (hn : n ≤ 65536) (hn1 : 1 ≤ n) (hb00 : buf.length ≤ 0) :
    Calls Tryd.prog 60 #[.pointer (some ⟨eb, 0, none⟩), .slice A n c] w (EPost eb bb n v (done ++ buf ++ xs) w) := by
  have hpm : ¬ EMine eb bb v pb := by
    rintro (hm | hm | hm)
    · exact h1 hm
    · exact h2 hm
    · exact h3 hm
  have HPM := Lib.hid hpm
  have H := Lib.hid h
  have HP := Lib.hid hp
  have e0 := h.c0
  have e1 := h.c1
  have e6 := h.c6
  have fz := fun i => h.room.frozen i
  have hbl := h.blen
  have hxl := Lib.hid hp.1
  have hnc := hp.2.1
  have hcm := hp.2.2.1
  have hsa := fun W b k => slice72_all W b k
  have hsb := fun W b k => slice71_all W b k
  unfold maxLen at hcm
  obtain ⟨b, hb⟩ : ∃ b, b = buf.length := ⟨_, rfl⟩
  rw [← hb] at e6 hbl hlim hb00
  have HB := Lib.hid hb
  clear h hp hb hpm
  have hb0 : b ≤ 0 := by omega
  have hbu : Hid (buf = []) := List.eq_nil_of_length_eq_zero (by have := HB.out; omega)
  have hpb := h4
  obtain rfl : b = 0 := by omega
  have e6 : w.cell? ⟨eb, 6, none⟩ = some (.int .i64 0) := e6
  go_enter Tryd.func60, Tryd.ntmps60
  go_wp2
  go_loopg [1, 4, 5] n (fun k s1 s4 s5 wr => WRel eb bb pb n v done buf xs w k s1 s4 s5 wr)
  case atStart => exact ⟨0, c, A, v, done, rfl, rfl, rfl, by omega, by rw [List.drop_zero]; exact HP.out, by rw [← hbu.out]; exact H.out, by rw [hbu.out]; simp, Nxt.refl _ _, Frm.refl _ _⟩
  case round =>
    obtain ⟨j, c', A', v', dn, rfl, rfl, rfl, hjr, hpp, hee, hdn, hnx, hfr⟩ := hrel
    obtain ⟨r, hr⟩ : ∃ r, r = gk := ⟨_, rfl⟩
    subst hr
    have HPP := Lib.hid hpp
    have HEE := Lib.hid hee
    have HDN := Lib.hid hdn
    have HNX := Lib.hid hnx
    have HFR := Lib.hid hfr
    have HJR := Lib.hid hjr
    have hjl : j + r ≤ 65536 := by omega
    have hrc := hpp.2.1
    have hcm2 := hpp.2.2.1
    unfold maxLen at hcm2
    have f0 := hee.c0
    have f1 := hee.c1
    have ffz := fun i => hee.room.frozen i
    have hdnl : Hid (dn.length ≤ 100000) := by
      rw [Hid, hdn]
      simp only [List.length_append, List.length_take]
      have := hxl.out
      have := HB.out
      omega
    obtain ⟨z6, f6⟩ := hee.room.cell (i := 6) (by omega)
    clear hpp hee hdn hnx hfr hjr
    by_cases h4r : r < 4
    · obtain ⟨ys, hys⟩ : ∃ ys, ys = xs.drop j := ⟨_, rfl⟩
      have HYS := Lib.hid hys
      have HPR : Hid (Pin wr pb A' r c' ys) := by rw [hys]; exact HPP.out.same (HFR.out.block pb hpb HPM.out)
      have hyl : Hid (ys.length = r) := HPR.out.1
      have hmin : Hid (r = Nat.min r 4) := (Nat.min_eq_left (by omega)).symm
      have hrm : Hid (Room wr eb (2 + r)) := HEE.out.room.mono_ (by omega)
      clear hys
      go_wp2_with (refine wpList_cp rfl (.tmp 167) (.tmp 168) rfl (xs := ys) (g := eb) (off := 2) rfl rfl (by rw [hyl.out]; exact hmin.out) (fun _ => rfl) (fun hx => by rw [hyl.out] at hx; obtain ⟨o, ha, hb⟩ := HPR.out.2.2.2.2 hx; exact ⟨pb, o, ha, hb⟩) (by rw [hyl.out]; exact hrm.out) r hyl.out.symm ?_; intro w2 hw2 hh2; have r2 := HEE.out.room.wrote_ hw2; have fz2 := fun i => r2.frozen i; have q6 : w2.cell? ⟨eb, 6, none⟩ = some z6 := (hw2.cell HEE.out.room (by omega)).trans f6)
      go_ret2
      exact EPost.last HEE.out HDN.out HYS.out HPR.out.2.2.2.1 hyl.out (by omega) HJR.out HNX.out HFR.out hw2 hh2 ((Wrote.refl w2 eb 6 1).setCell (i := 6) (by omega) (by omega) _) (World.cell?_setCell_same _ _ _ q6)
    · by_cases h8 : r < 816
      · obtain ⟨q, hq⟩ : ∃ q : Nat, (r : Int) - (r : Int) % 4 = (q : Int) := ⟨r - r % 4, by omega⟩
        have hq0 : 4 ≤ q := by omega
        have hqb : q ≤ 816 := by omega
        have hqi : (q : Int) % 4 = 0 := by omega
        have hqr : q ≤ r := by omega
        have HQ4 : Hid (q % 4 = 0) := by unfold Hid; omega
        have hsl1 : ∀ W, (Instr.slice 22 (.slice A' r c') (some (.int .i64 0)) (some (.int .i64 (q : Int))) none).run Tryd.prog W = .ok (.slice A' q c') W := fun W => HPP.out.to_ (k := q) hqr W
        obtain ⟨A2, hsl2, hp2⟩ := HPP.out.from_ (k := q) hqr
        have hsl3 : ∀ W, (Instr.slice 22 (.slice A' r c') (some (.int .i64 (q : Int))) none none).run Tryd.prog W = .ok (.slice A2 (r - q) (c' - q)) W := fun W => hsl2 W .i64
        have HP2 := Lib.hid hp2
        obtain ⟨zs, hzs⟩ : ∃ zs, zs = (xs.drop j).take q := ⟨_, rfl⟩
        have hzl : zs.length = q := by rw [hzs, List.length_take, HPP.out.1]; omega
        have hzb : AllBytes zs := by rw [hzs]; exact HPP.out.2.2.2.1.take _
        have hfar : Far wr.drew eb 7 1024 A' q c' zs := by rw [hzs]; exact (HPP.out.same (w' := wr.drew) (HFR.out.block pb hpb HPM.out)).far hqr h1
        have hE := Lib.hid (encode_any eb 7 1024 1024 A' q c' zs wr.drew (HEE.out.room.mono_ (by omega)) hfar (by omega) (by omega) (Nat.le_refl _) (by unfold maxLen; omega))
        have hel := enc_le zs
        have hep := enc_pos (a := zs) (by omega)
        rw [hzl] at hel
        obtain ⟨m, hm⟩ : ∃ m, m = (enc zs).length := ⟨_, rfl⟩
        rw [← hm] at hel hep hE
        have HM := Lib.hid hm
        have hrW : Room wr.drew eb 1031 := HEE.out.room
        have hs3 := fun W => slice72_to W eb 7 m (by omega)
        have HZ := Lib.hid hzs
        have HZB := Lib.hid hzb
        have hdl := hdnl.out
        have hed := enc_le dn
        clear hsl2 hp2 hfar hm hzs hzl hzb
        go_wp2
        go_region_with
          ((go_at_call 61; refine hE.out.mono ?_; rintro e w1 ⟨rfl, hw1, hh1⟩
            have g0 : w1.cell? ⟨eb, 0, none⟩ = some .nilIface := (hw1.cell hrW (by omega)).trans f0
            have g1 : w1.cell? ⟨eb, 1, none⟩ = some (.iface 52 (.pointer (some ⟨bb, 0, none⟩))) := (hw1.cell hrW (by omega)).trans f1))
        have r1 : Room w1 eb 1031 := hrW.wrote_ hw1
        have core1 : ECore w1.drew eb bb v' dn := ((HEE.out.core.drew).wrote hw1 (by omega)).drew
        have hBW := Lib.hid (bufWrite_any bb eb 7 m 1024 v' (enc dn) (enc zs) w1.drew core1.bst core1.n1 hh1 HM.out.symm (enc_bytes HZB.out) hep core1.ne (by omega))
        have CORE := Lib.hid core1
        have hww : Hid (Wrote wr w1.drew eb 7 1024) := (⟨hw1.os, hw1.tape, hw1.output, hw1.size, hw1.block, hw1.row⟩ : Wrote wr w1 eb 7 1024).drewN 1
        have fz1 := fun i => r1.frozen i
        clear core1 hh1 hed
        go_wp2
        go_region_held (fun w' => w'.cell? ⟨eb, 1, none⟩ = some (.iface 52 (.pointer (some ⟨bb, 0, none⟩))))
          (first | go_keep | (exact g1) | (exact k1) | (exact (((Wrote.refl _ eb 0 1).setCell (i := 0) (by omega) (by omega) _).cell r3 (by omega)).trans k1))
          ((go_at_call 50; refine hBW.out.mono ?_; rintro e w3 hpo; obtain ⟨rfl, v'', hb', hnx, hfr, hsame⟩ := hpo.enc CORE.out.room CORE.out.n1 CORE.out.n2
            have r3 : Room w3 eb 1031 := CORE.out.room.same hsame
            have k1 : w3.cell? ⟨eb, 1, none⟩ = some (.iface 52 (.pointer (some ⟨bb, 0, none⟩))) := (cell_same hsame).trans g1
            obtain ⟨z0, k0⟩ := r3.cell (i := 0) (by omega)
            have fz3 := fun i => r3.frozen i))
        have hw4 : Wrote w3 (w3.setCell ⟨eb, 0, none⟩ .nilIface) eb 0 1 := (Wrote.refl w3 eb 0 1).setCell (i := 0) (by omega) (by omega) _
        have q0 : (w3.setCell ⟨eb, 0, none⟩ .nilIface).cell? ⟨eb, 0, none⟩ = some .nilIface := World.cell?_setCell_same _ _ _ k0
        clear f0 f1 ffz g0 g1 k1 k0
        go_wp2
        go_roundg (r - q)
        case measure => omega
        case rel => exact WRel.next (j := j) (r := r) (q := q) HEE.out HDN.out HZ.out HQ4.out (by omega) hqr HJR.out HP2.out HPP.out.1 HPP.out.2.2.2.1 HNX.out HFR.out hww.out hb' hnx hfr hsame hw4 q0
      · have hq0 : (0 : Nat) < 816 := by omega
        have hqr : 816 ≤ r := by omega

        have hsl1 : ∀ W, (Instr.slice 22 (.slice A' r c') (some (.int .i64 0)) (some (.int .i64 816)) none).run Tryd.prog W = .ok (.slice A' 816 c') W := fun W => HPP.out.to_ (k := 816) hqr W
        obtain ⟨A2, hsl2, hp2⟩ := HPP.out.from_ (k := 816) hqr
        have hsl3 : ∀ W, (Instr.slice 22 (.slice A' r c') (some (.int .i64 816)) none none).run Tryd.prog W = .ok (.slice A2 (r - 816) (c' - 816)) W := fun W => hsl2 W .i64
        have HP2 := Lib.hid hp2
        obtain ⟨zs, hzs⟩ : ∃ zs, zs = (xs.drop j).take 816 := ⟨_, rfl⟩
        have hzl : zs.length = 816 := by rw [hzs, List.length_take, HPP.out.1]; omega
        have hzb : AllBytes zs := by rw [hzs]; exact HPP.out.2.2.2.1.take _
        have hfar : Far wr.drew eb 7 1024 A' 816 c' zs := by rw [hzs]; exact (HPP.out.same (w' := wr.drew) (HFR.out.block pb hpb HPM.out)).far hqr h1
        have hE := Lib.hid (encode_any eb 7 1024 1024 A' 816 c' zs wr.drew (HEE.out.room.mono_ (by omega)) hfar (by omega) (by omega) (Nat.le_refl _) (by unfold maxLen; omega))
        have hel := enc_le zs
        have hep := enc_pos (a := zs) (by omega)
        rw [hzl] at hel
        obtain ⟨m, hm⟩ : ∃ m, m = (enc zs).length := ⟨_, rfl⟩
        rw [← hm] at hel hep hE
        have HM := Lib.hid hm
        have hrW : Room wr.drew eb 1031 := HEE.out.room
        have hs3 := fun W => slice72_to W eb 7 m (by omega)
        have HZ := Lib.hid hzs
        have HZB := Lib.hid hzb
        have hdl := hdnl.out
        have hed := enc_le dn
        clear hsl2 hp2 hfar hm hzs hzl hzb
        go_wp2
        go_region_with
          ((go_at_call 61; refine hE.out.mono ?_; rintro e w1 ⟨rfl, hw1, hh1⟩
            have g0 : w1.cell? ⟨eb, 0, none⟩ = some .nilIface := (hw1.cell hrW (by omega)).trans f0
            have g1 : w1.cell? ⟨eb, 1, none⟩ = some (.iface 52 (.pointer (some ⟨bb, 0, none⟩))) := (hw1.cell hrW (by omega)).trans f1))
        have r1 : Room w1 eb 1031 := hrW.wrote_ hw1
        have core1 : ECore w1.drew eb bb v' dn := ((HEE.out.core.drew).wrote hw1 (by omega)).drew
        have hBW := Lib.hid (bufWrite_any bb eb 7 m 1024 v' (enc dn) (enc zs) w1.drew core1.bst core1.n1 hh1 HM.out.symm (enc_bytes HZB.out) hep core1.ne (by omega))
        have CORE := Lib.hid core1
        have hww : Hid (Wrote wr w1.drew eb 7 1024) := (⟨hw1.os, hw1.tape, hw1.output, hw1.size, hw1.block, hw1.row⟩ : Wrote wr w1 eb 7 1024).drewN 1
        have fz1 := fun i => r1.frozen i
        clear core1 hh1 hed
        go_wp2
        go_region_held (fun w' => w'.cell? ⟨eb, 1, none⟩ = some (.iface 52 (.pointer (some ⟨bb, 0, none⟩))))
          (first | go_keep | (exact g1) | (exact k1) | (exact (((Wrote.refl _ eb 0 1).setCell (i := 0) (by omega) (by omega) _).cell r3 (by omega)).trans k1))
          ((go_at_call 50; refine hBW.out.mono ?_; rintro e w3 hpo; obtain ⟨rfl, v'', hb', hnx, hfr, hsame⟩ := hpo.enc CORE.out.room CORE.out.n1 CORE.out.n2
            have r3 : Room w3 eb 1031 := CORE.out.room.same hsame
            have k1 : w3.cell? ⟨eb, 1, none⟩ = some (.iface 52 (.pointer (some ⟨bb, 0, none⟩))) := (cell_same hsame).trans g1
            obtain ⟨z0, k0⟩ := r3.cell (i := 0) (by omega)
            have fz3 := fun i => r3.frozen i))
        have hw4 : Wrote w3 (w3.setCell ⟨eb, 0, none⟩ .nilIface) eb 0 1 := (Wrote.refl w3 eb 0 1).setCell (i := 0) (by omega) (by omega) _
        have q0 : (w3.setCell ⟨eb, 0, none⟩ .nilIface).cell? ⟨eb, 0, none⟩ = some .nilIface := World.cell?_setCell_same _ _ _ k0
        clear f0 f1 ffz g0 g1 k1 k0
        go_wp2
        go_roundg (r - 816)
        case measure => omega
        case rel => exact WRel.next (j := j) (r := r) (q := 816) HEE.out HDN.out HZ.out (by decide) (by omega) hqr HJR.out HP2.out HPP.out.1 HPP.out.2.2.2.1 HNX.out HFR.out hww.out hb' hnx hfr hsame hw4 q0
end Go.Proofs.YtfonpcfcelahdaaDoor
