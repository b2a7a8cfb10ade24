/-
  What the encoder's Write does where it keeps bytes (printed by gen_encw.py).
-/
import Derived.Test.YtfonpcfcelahdaaDoorEncWr1
namespace Go.Proofs.YtfonpcfcelahdaaDoor
open Go.RowKit

set_option maxRecDepth 100000 in
set_option maxHeartbeats 40000000 in
theorem encWrite_b (eb bb pb n c : Nat) (A : Option Addr) (v : Value) (done buf xs : List Int) (w : World) (h : ESt w eb bb v done buf) (hp : Pin w pb A n c xs) (h1 : pb ≠ eb) (h2 : pb ≠ bb) (h3 : v.ownBlock ≠ some pb) (h4 : pb < w.heap.size)
    (hlim : done.length + buf.length + n ≤ 100000) (hn : n ≤ 65536) (hn1 : 1 ≤ n) (hb00 : 0 < buf.length) :
    Calls Tryd.prog 60 #[.pointer (some ⟨eb, 0, none⟩), .slice A n c] w (EPost eb bb n v (done ++ buf ++ xs) w) := by
  have hpm : ¬ EMine eb bb v pb := by
    rintro (hm | hm | hm)
    · exact h1 hm
    · exact h2 hm
    · exact h3 hm
  have HPM := Lib.hid hpm
  have H := Lib.hid h
  have HP := Lib.hid hp
  have e0 := h.c0
  have e1 := h.c1
  have e6 := h.c6
  have fz := fun i => h.room.frozen i
  have hbl := h.blen
  have hxl := Lib.hid hp.1
  have hnc := hp.2.1
  have hcm := hp.2.2.1
  have hsa := fun W b k => slice72_all W b k
  have hsb := fun W b k => slice71_all W b k
  unfold maxLen at hcm
  obtain ⟨b, hb⟩ : ∃ b, b = buf.length := ⟨_, rfl⟩
  rw [← hb] at e6 hbl hlim hb00
  have HB := Lib.hid hb
  clear h hp hb hpm
  have hpb := h4
  obtain ⟨po, rfl, hpx⟩ := HP.out.2.2.2.2 hn1
  have hbp : 0 < b := by omega
  have hbu : buf ≠ [] := by intro e; rw [e] at HB; have := HB.out; simp at this; omega
  go_enter Tryd.func60, Tryd.ntmps60
  go_wp2
  go_loopg [6] 4 (fun k s6 wr => ∃ i : Nat, s6 = .int .i64 (i : Int) ∧ i ≤ n ∧ b + i ≤ 4 ∧ Hid (k = 4 - i) ∧ Wrote w wr eb 2 5 ∧ Has wr eb 2 (buf ++ xs.take i) ∧ wr.cell? ⟨eb, 6, none⟩ = some (.int .i64 ((b + i : Nat) : Int)))
  case atStart => exact ⟨0, rfl, by omega, by omega, rfl, Wrote.refl _ _ _ _, by simpa using H.out.hbuf, e6⟩
  case round =>
    clear fz e0 e1 e6
    obtain ⟨i, rfl, hin, hbi, hk, hww, hhb, f6⟩ := hrel
    have hrW : Room wr eb 1031 := H.out.room.wrote_ hww
    have ffz := fun i => hrW.frozen i
    by_cases hlt : i < n
    · by_cases hlt2 : b + i < 4
      · have hx : wr.cell? ⟨pb, po + i, none⟩ = some (.int .u8 (xs.getD i 0)) := (hww.cell H.out.room (.inl h1)).trans (hpx i (by rw [hxl.out]; omega))
        obtain ⟨y, hy⟩ : ∃ y, y = xs.getD i 0 := ⟨_, rfl⟩
        rw [← hy] at hx
        obtain ⟨z, hz⟩ := hrW.cell (i := 2 + (b + i)) (by omega)
        have HY := Lib.hid hy
        have HWW := Lib.hid hww
        have HHB := Lib.hid hhb
        clear hy hww hhb
        have hKS : ∀ u, (wr.setCell ⟨eb, 2 + (b + i), none⟩ u).drew.cell? ⟨eb, 6, none⟩ = some (.int .i64 ((b + i : Nat) : Int)) ∧ (wr.setCell ⟨eb, 2 + (b + i), none⟩ u).drew.cell? ⟨pb, po + i, none⟩ = some (.int .u8 y) := fun u =>
          ⟨(((Wrote.refl wr eb 2 4).setCell (i := 2 + (b + i)) (by omega) (by omega) u).cell hrW (by omega)).trans f6, (((Wrote.refl wr eb 2 4).setCell (i := 2 + (b + i)) (by omega) (by omega) u).cell hrW (.inl h1)).trans hx⟩
        go_wp2
        go_region_held (fun w' => w'.cell? ⟨eb, 6, none⟩ = some (.int .i64 ((b + i : Nat) : Int)) ∧ w'.cell? ⟨pb, po + i, none⟩ = some (.int .u8 y))
          (first | (exact hKS _) | (exact ⟨f6, hx⟩) | go_keep)
          (fail)
        have g6 := (hKS (.int .u8 y)).1
        have gfz : ∀ j, (wr.setCell ⟨eb, 2 + (b + i), none⟩ (.int .u8 y)).drew.frozen? ⟨eb, j, none⟩ = false := fun j => (show Room (wr.setCell ⟨eb, 2 + (b + i), none⟩ (.int .u8 y)).drew eb 1031 from (hrW.wrote_ ((Wrote.refl wr eb 2 4).setCell (i := 2 + (b + i)) (by omega) (by omega) _) : Room (wr.setCell ⟨eb, 2 + (b + i), none⟩ (.int .u8 y)) eb 1031)).frozen j
        have hll : Hid ((buf ++ xs.take i).length = b + i) := by rw [Hid, List.length_append, List.length_take, hxl.out, ← HB.out]; omega
        clear hKS
        go_wp2
        go_roundg (4 - (i + 1))
        case measure => have := hk.out; omega
        case rel =>
          obtain ⟨p1, p2, p3⟩ := kept_next (y := y) (v := .int .i64 ((b : Int) + (i : Int) + 1)) HWW.out hrW HHB.out hll.out hlt2
          refine ⟨i + 1, by go_num, by omega, by omega, rfl, p1, ?_, ?_⟩
          · rw [take_next (by rw [hxl.out]; omega), ← HY.out, ← List.append_assoc]
            exact p2
          · rw [show ((b + (i + 1) : Nat) : Int) = (b : Int) + (i : Int) + 1 by omega]
            exact p3
      · have hbi4 : b + i = 4 := by omega
        have e0' : wr.cell? ⟨eb, 0, none⟩ = some .nilIface := (H.out.core.wrote hww (by omega)).c0
        have e1' : wr.cell? ⟨eb, 1, none⟩ = some (.iface 52 (.pointer (some ⟨bb, 0, none⟩))) := (H.out.core.wrote hww (by omega)).c1
        have f6' : wr.cell? ⟨eb, 6, none⟩ = some (.int .i64 4) := by rw [f6, hbi4]; rfl
        have HCW : Hid (ECore wr eb bb v done) := H.out.core.wrote hww (by omega)
        obtain ⟨A2, hsl2, hp2⟩ := HP.out.from_ (k := i) hin
        have hsl3 : ∀ W, (Instr.slice 22 (.slice (some ⟨pb, po, none⟩) n c) (some (.int .i64 (i : Int))) none none).run Tryd.prog W = .ok (.slice A2 (n - i) (c - i)) W := fun W => by have := hsl2 W .i64; simpa using this
        have hp2 : Pin w pb A2 (n - i) (c - i) (xs.drop i) := by simpa using hp2
        obtain ⟨zs, hzs⟩ : ∃ zs, zs = buf ++ xs.take i := ⟨_, rfl⟩
        rw [← hzs] at hhb
        have hzl : zs.length = 4 := by rw [hzs, List.length_append, List.length_take, hxl.out, ← HB.out]; omega
        have hzb : AllBytes zs := by rw [hzs]; exact H.out.bbs.append (HP.out.2.2.2.1.take _)
        have hs71 := fun W => slice71_from0 W eb 2
        have hfar : Far wr.drew eb 7 1024 (some ⟨eb, 2, none⟩) 4 4 zs := ⟨hzl, Nat.le_refl _, by unfold maxLen; omega, hzb, fun _ => ⟨eb, 2, rfl, by omega, fun i hi => hhb i (by omega)⟩⟩
        have hE := Lib.hid (encode_any eb 7 1024 1024 (some ⟨eb, 2, none⟩) 4 4 zs wr.drew (hrW.mono_ (by omega)) hfar (by omega) (by omega) (Nat.le_refl _) (by unfold maxLen; omega))
        have hel := enc_le zs
        have hep := enc_pos (a := zs) (by omega)
        rw [hzl] at hel
        obtain ⟨m, hm⟩ : ∃ m, m = (enc zs).length := ⟨_, rfl⟩
        rw [← hm] at hel hep hE
        have hrd : Room wr.drew eb 1031 := hrW
        have hs3 := fun W => slice72_to W eb 7 m (by omega)
        have HM := Lib.hid hm
        have HZ := Lib.hid hzs
        have HZB := Lib.hid hzb
        have HZL := Lib.hid hzl
        have HWW := Lib.hid hww
        have HP2 := Lib.hid hp2
        have hed := enc_le done
        clear hsl2 hp2 hfar hm hzs hzl hzb f6 hww hhb
        go_wp2
        go_region_with
          ((go_at_call 61; refine hE.out.mono ?_; rintro e w1 ⟨rfl, hw1, hh1⟩
            have g0 : w1.cell? ⟨eb, 0, none⟩ = some .nilIface := (hw1.cell hrd (by omega)).trans e0'
            have g1 : w1.cell? ⟨eb, 1, none⟩ = some (.iface 52 (.pointer (some ⟨bb, 0, none⟩))) := (hw1.cell hrd (by omega)).trans e1'))
        have r1 : Room w1 eb 1031 := hrd.wrote_ hw1
        have core1 : ECore w1.drew eb bb v done := ((HCW.out.drew).wrote hw1 (by omega)).drew
        have hBW := Lib.hid (bufWrite_any bb eb 7 m 1024 v (enc done) (enc zs) w1.drew core1.bst core1.n1 hh1 HM.out.symm (enc_bytes HZB.out) hep core1.ne (by omega))
        have CORE := Lib.hid core1
        have hwv : Wrote wr w1.drew eb 7 1024 := (⟨hw1.os, hw1.tape, hw1.output, hw1.size, hw1.block, hw1.row⟩ : Wrote wr w1 eb 7 1024).drewN 1
        have HFR1 : Hid (Frm (EMine eb bb v) w w1.drew) := ((Frm.refl _ w).wrote HWW.out (fun _ => .inl rfl)).wrote hwv (fun _ => .inl rfl)
        have fz1 := fun i => r1.frozen i
        clear core1 hh1 hed hwv
        go_wp2
        go_region_held (fun w' => w'.cell? ⟨eb, 1, none⟩ = some (.iface 52 (.pointer (some ⟨bb, 0, none⟩))))
          (first | go_keep | (exact g1) | (exact k1) | (exact (((Wrote.refl _ eb 0 1).setCell (i := 0) (by omega) (by omega) _).cell r3 (by omega)).trans k1))
          ((go_at_call 50; refine hBW.out.mono ?_; rintro e w3 hpo; obtain ⟨rfl, v'', hb', hnx, hfr, hsame⟩ := hpo.enc CORE.out.room CORE.out.n1 CORE.out.n2
            have r3 : Room w3 eb 1031 := CORE.out.room.same hsame
            have k1 : w3.cell? ⟨eb, 1, none⟩ = some (.iface 52 (.pointer (some ⟨bb, 0, none⟩))) := (cell_same hsame).trans g1
            obtain ⟨z0, k0⟩ := r3.cell (i := 0) (by omega)
            have fz3 := fun i => r3.frozen i))
        have hw4 : Wrote w3 (w3.setCell ⟨eb, 0, none⟩ .nilIface) eb 0 1 := (Wrote.refl w3 eb 0 1).setCell (i := 0) (by omega) (by omega) _
        have q0 : (w3.setCell ⟨eb, 0, none⟩ .nilIface).cell? ⟨eb, 0, none⟩ = some .nilIface := World.cell?_setCell_same _ _ _ k0
        have core4 := CORE.out.flush hb' hnx hsame hw4 q0 (zs := zs) (by rw [HZL.out]) (by rw [HZL.out]; omega) HZB.out
        have hfr4 : Frm (EMine eb bb v) w (w3.setCell ⟨eb, 0, none⟩ .nilIface) := (HFR1.out.trans hfr (fun _ _ hm => .inr hm)).wrote hw4 (fun _ => .inl rfl)
        have hnx4 : Nxt w v v'' := (Nxt.refl w v).trans hnx HFR1.out.size
        obtain ⟨w4, hw4e⟩ : ∃ w4, w3.setCell ⟨eb, 0, none⟩ .nilIface = w4 := ⟨_, rfl⟩
        have HW4 := Lib.hid hw4e
        rw [hw4e] at q0 core4 hfr4
        have fz4 := fun i => core4.room.frozen i
        obtain ⟨z6, f6⟩ := core4.room.cell (i := 6) (by omega)
        have hw5 : Wrote w4 (w4.setCell ⟨eb, 6, none⟩ (.int .i64 0)) eb 6 1 := (Wrote.refl w4 eb 6 1).setCell (i := 6) (by omega) (by omega) _
        have hst5 : Hid (ESt (w4.setCell ⟨eb, 6, none⟩ (.int .i64 0)) eb bb v'' (done ++ zs) []) := (core4.wrote hw5 (by omega)).full Has.nil (by simp) (World.cell?_setCell_same _ _ _ f6) (fun _ hx => by cases hx)
        have hfr5 : Hid (Frm (EMine eb bb v) w (w4.setCell ⟨eb, 6, none⟩ (.int .i64 0))) := hfr4.wrote hw5 (fun _ => .inl rfl)
        have HNX4 := Lib.hid hnx4
        rw [hw4e]
        clear hw4e hw5 hfr4 hnx4 core4 hw4 hb' hnx hfr hsame k1 k0 fz3 r3 g0 g1 fz1 e0' e1' f6'
        go_wp2
        go_loopg [1, 4, 5] (n - i) (fun k s1 s4 s5 wr => WRel eb bb pb n v done buf xs w k s1 s4 s5 wr)
        case atStart => exact ⟨i, c - i, A2, v'', done ++ zs, rfl, rfl, rfl, by omega, HP2.out, hst5.out, by rw [HZ.out], HNX4.out, hfr5.out⟩
        case round =>
          obtain ⟨j, c', A', v', dn, rfl, rfl, rfl, hjr, hpp, hee, hdn, hnx, hfr⟩ := hrel
          obtain ⟨r, hr⟩ : ∃ r, r = gk := ⟨_, rfl⟩
          subst hr
          have HPP := Lib.hid hpp
          have HEE := Lib.hid hee
          have HDN := Lib.hid hdn
          have HNX := Lib.hid hnx
          have HFR := Lib.hid hfr
          have HJR := Lib.hid hjr
          have hjl : j + r ≤ 65536 := by omega
          have hrc := hpp.2.1
          have hcm2 := hpp.2.2.1
          unfold maxLen at hcm2
          have f0 := hee.c0
          have f1 := hee.c1
          have ffz := fun i => hee.room.frozen i
          have hdnl : Hid (dn.length ≤ 100000) := by
            rw [Hid, hdn]
            simp only [List.length_append, List.length_take]
            have := hxl.out
            have := HB.out
            omega
          obtain ⟨z6, f6⟩ := hee.room.cell (i := 6) (by omega)
          clear hpp hee hdn hnx hfr hjr
          by_cases h4r : r < 4
          · obtain ⟨ys, hys⟩ : ∃ ys, ys = xs.drop j := ⟨_, rfl⟩
            have HYS := Lib.hid hys
            have HPR : Hid (Pin wr pb A' r c' ys) := by rw [hys]; exact HPP.out.same (HFR.out.block pb hpb HPM.out)
            have hyl : Hid (ys.length = r) := HPR.out.1
            have hmin : Hid (r = Nat.min r 4) := (Nat.min_eq_left (by omega)).symm
            have hrm : Hid (Room wr eb (2 + r)) := HEE.out.room.mono_ (by omega)
            clear hys
            go_wp2_with (refine wpList_cp rfl (.tmp 167) (.tmp 168) rfl (xs := ys) (g := eb) (off := 2) rfl rfl (by rw [hyl.out]; exact hmin.out) (fun _ => rfl) (fun hx => by rw [hyl.out] at hx; obtain ⟨o, ha, hb⟩ := HPR.out.2.2.2.2 hx; exact ⟨pb, o, ha, hb⟩) (by rw [hyl.out]; exact hrm.out) r hyl.out.symm ?_; intro w2 hw2 hh2; have r2 := HEE.out.room.wrote_ hw2; have fz2 := fun i => r2.frozen i; have q6 : w2.cell? ⟨eb, 6, none⟩ = some z6 := (hw2.cell HEE.out.room (by omega)).trans f6)
            go_ret2
            exact EPost.last HEE.out HDN.out HYS.out HPR.out.2.2.2.1 hyl.out (by omega) HJR.out HNX.out HFR.out hw2 hh2 ((Wrote.refl w2 eb 6 1).setCell (i := 6) (by omega) (by omega) _) (World.cell?_setCell_same _ _ _ q6)
          · by_cases h8 : r < 816
            · obtain ⟨q, hq⟩ : ∃ q : Nat, (r : Int) - (r : Int) % 4 = (q : Int) := ⟨r - r % 4, by omega⟩
              have hq0 : 4 ≤ q := by omega
              have hqb : q ≤ 816 := by omega
              have hqi : (q : Int) % 4 = 0 := by omega
              have hqr : q ≤ r := by omega
              have HQ4 : Hid (q % 4 = 0) := by unfold Hid; omega
              have hsl1 : ∀ W, (Instr.slice 22 (.slice A' r c') (some (.int .i64 0)) (some (.int .i64 (q : Int))) none).run Tryd.prog W = .ok (.slice A' q c') W := fun W => HPP.out.to_ (k := q) hqr W
              obtain ⟨A2, hsl2, hp2⟩ := HPP.out.from_ (k := q) hqr
              have hsl3 : ∀ W, (Instr.slice 22 (.slice A' r c') (some (.int .i64 (q : Int))) none none).run Tryd.prog W = .ok (.slice A2 (r - q) (c' - q)) W := fun W => hsl2 W .i64
              have HP2 := Lib.hid hp2
              obtain ⟨zs, hzs⟩ : ∃ zs, zs = (xs.drop j).take q := ⟨_, rfl⟩
              have hzl : zs.length = q := by rw [hzs, List.length_take, HPP.out.1]; omega
              have hzb : AllBytes zs := by rw [hzs]; exact HPP.out.2.2.2.1.take _
              have hfar : Far wr.drew eb 7 1024 A' q c' zs := by rw [hzs]; exact (HPP.out.same (w' := wr.drew) (HFR.out.block pb hpb HPM.out)).far hqr h1
              have hE := Lib.hid (encode_any eb 7 1024 1024 A' q c' zs wr.drew (HEE.out.room.mono_ (by omega)) hfar (by omega) (by omega) (Nat.le_refl _) (by unfold maxLen; omega))
              have hel := enc_le zs
              have hep := enc_pos (a := zs) (by omega)
              rw [hzl] at hel
              obtain ⟨m, hm⟩ : ∃ m, m = (enc zs).length := ⟨_, rfl⟩
              rw [← hm] at hel hep hE
              have HM := Lib.hid hm
              have hrW : Room wr.drew eb 1031 := HEE.out.room
              have hs3 := fun W => slice72_to W eb 7 m (by omega)
              have HZ := Lib.hid hzs
              have HZB := Lib.hid hzb
              have hdl := hdnl.out
              have hed := enc_le dn
              clear hsl2 hp2 hfar hm hzs hzl hzb
              go_wp2
              go_region_with
                ((go_at_call 61; refine hE.out.mono ?_; rintro e w1 ⟨rfl, hw1, hh1⟩
                  have g0 : w1.cell? ⟨eb, 0, none⟩ = some .nilIface := (hw1.cell hrW (by omega)).trans f0
                  have g1 : w1.cell? ⟨eb, 1, none⟩ = some (.iface 52 (.pointer (some ⟨bb, 0, none⟩))) := (hw1.cell hrW (by omega)).trans f1))
              have r1 : Room w1 eb 1031 := hrW.wrote_ hw1
              have core1 : ECore w1.drew eb bb v' dn := ((HEE.out.core.drew).wrote hw1 (by omega)).drew
              have hBW := Lib.hid (bufWrite_any bb eb 7 m 1024 v' (enc dn) (enc zs) w1.drew core1.bst core1.n1 hh1 HM.out.symm (enc_bytes HZB.out) hep core1.ne (by omega))
              have CORE := Lib.hid core1
              have hww : Hid (Wrote wr w1.drew eb 7 1024) := (⟨hw1.os, hw1.tape, hw1.output, hw1.size, hw1.block, hw1.row⟩ : Wrote wr w1 eb 7 1024).drewN 1
              have fz1 := fun i => r1.frozen i
              clear core1 hh1 hed
              go_wp2
              go_region_held (fun w' => w'.cell? ⟨eb, 1, none⟩ = some (.iface 52 (.pointer (some ⟨bb, 0, none⟩))))
                (first | go_keep | (exact g1) | (exact k1) | (exact (((Wrote.refl _ eb 0 1).setCell (i := 0) (by omega) (by omega) _).cell r3 (by omega)).trans k1))
                ((go_at_call 50; refine hBW.out.mono ?_; rintro e w3 hpo; obtain ⟨rfl, v'', hb', hnx, hfr, hsame⟩ := hpo.enc CORE.out.room CORE.out.n1 CORE.out.n2
                  have r3 : Room w3 eb 1031 := CORE.out.room.same hsame
                  have k1 : w3.cell? ⟨eb, 1, none⟩ = some (.iface 52 (.pointer (some ⟨bb, 0, none⟩))) := (cell_same hsame).trans g1
                  obtain ⟨z0, k0⟩ := r3.cell (i := 0) (by omega)
                  have fz3 := fun i => r3.frozen i))
              have hw4 : Wrote w3 (w3.setCell ⟨eb, 0, none⟩ .nilIface) eb 0 1 := (Wrote.refl w3 eb 0 1).setCell (i := 0) (by omega) (by omega) _
              have q0 : (w3.setCell ⟨eb, 0, none⟩ .nilIface).cell? ⟨eb, 0, none⟩ = some .nilIface := World.cell?_setCell_same _ _ _ k0
              clear f0 f1 ffz g0 g1 k1 k0
              go_wp2
              go_roundg (r - q)
              case measure => omega
              case rel => exact WRel.next (j := j) (r := r) (q := q) HEE.out HDN.out HZ.out HQ4.out (by omega) hqr HJR.out HP2.out HPP.out.1 HPP.out.2.2.2.1 HNX.out HFR.out hww.out hb' hnx hfr hsame hw4 q0
            · have hq0 : (0 : Nat) < 816 := by omega
              have hqr : 816 ≤ r := by omega

              have hsl1 : ∀ W, (Instr.slice 22 (.slice A' r c') (some (.int .i64 0)) (some (.int .i64 816)) none).run Tryd.prog W = .ok (.slice A' 816 c') W := fun W => HPP.out.to_ (k := 816) hqr W
              obtain ⟨A2, hsl2, hp2⟩ := HPP.out.from_ (k := 816) hqr
              have hsl3 : ∀ W, (Instr.slice 22 (.slice A' r c') (some (.int .i64 816)) none none).run Tryd.prog W = .ok (.slice A2 (r - 816) (c' - 816)) W := fun W => hsl2 W .i64
              have HP2 := Lib.hid hp2
              obtain ⟨zs, hzs⟩ : ∃ zs, zs = (xs.drop j).take 816 := ⟨_, rfl⟩
              have hzl : zs.length = 816 := by rw [hzs, List.length_take, HPP.out.1]; omega
              have hzb : AllBytes zs := by rw [hzs]; exact HPP.out.2.2.2.1.take _
              have hfar : Far wr.drew eb 7 1024 A' 816 c' zs := by rw [hzs]; exact (HPP.out.same (w' := wr.drew) (HFR.out.block pb hpb HPM.out)).far hqr h1
              have hE := Lib.hid (encode_any eb 7 1024 1024 A' 816 c' zs wr.drew (HEE.out.room.mono_ (by omega)) hfar (by omega) (by omega) (Nat.le_refl _) (by unfold maxLen; omega))
              have hel := enc_le zs
              have hep := enc_pos (a := zs) (by omega)
              rw [hzl] at hel
              obtain ⟨m, hm⟩ : ∃ m, m = (enc zs).length := ⟨_, rfl⟩
              rw [← hm] at hel hep hE
              have HM := Lib.hid hm
              have hrW : Room wr.drew eb 1031 := HEE.out.room
              have hs3 := fun W => slice72_to W eb 7 m (by omega)
              have HZ := Lib.hid hzs
              have HZB := Lib.hid hzb
              have hdl := hdnl.out
              have hed := enc_le dn
              clear hsl2 hp2 hfar hm hzs hzl hzb
              go_wp2
              go_region_with
                ((go_at_call 61; refine hE.out.mono ?_; rintro e w1 ⟨rfl, hw1, hh1⟩
                  have g0 : w1.cell? ⟨eb, 0, none⟩ = some .nilIface := (hw1.cell hrW (by omega)).trans f0
                  have g1 : w1.cell? ⟨eb, 1, none⟩ = some (.iface 52 (.pointer (some ⟨bb, 0, none⟩))) := (hw1.cell hrW (by omega)).trans f1))
              have r1 : Room w1 eb 1031 := hrW.wrote_ hw1
              have core1 : ECore w1.drew eb bb v' dn := ((HEE.out.core.drew).wrote hw1 (by omega)).drew
              have hBW := Lib.hid (bufWrite_any bb eb 7 m 1024 v' (enc dn) (enc zs) w1.drew core1.bst core1.n1 hh1 HM.out.symm (enc_bytes HZB.out) hep core1.ne (by omega))
              have CORE := Lib.hid core1
              have hww : Hid (Wrote wr w1.drew eb 7 1024) := (⟨hw1.os, hw1.tape, hw1.output, hw1.size, hw1.block, hw1.row⟩ : Wrote wr w1 eb 7 1024).drewN 1
              have fz1 := fun i => r1.frozen i
              clear core1 hh1 hed
              go_wp2
              go_region_held (fun w' => w'.cell? ⟨eb, 1, none⟩ = some (.iface 52 (.pointer (some ⟨bb, 0, none⟩))))
                (first | go_keep | (exact g1) | (exact k1) | (exact (((Wrote.refl _ eb 0 1).setCell (i := 0) (by omega) (by omega) _).cell r3 (by omega)).trans k1))
                ((go_at_call 50; refine hBW.out.mono ?_; rintro e w3 hpo; obtain ⟨rfl, v'', hb', hnx, hfr, hsame⟩ := hpo.enc CORE.out.room CORE.out.n1 CORE.out.n2
                  have r3 : Room w3 eb 1031 := CORE.out.room.same hsame
                  have k1 : w3.cell? ⟨eb, 1, none⟩ = some (.iface 52 (.pointer (some ⟨bb, 0, none⟩))) := (cell_same hsame).trans g1
                  obtain ⟨z0, k0⟩ := r3.cell (i := 0) (by omega)
                  have fz3 := fun i => r3.frozen i))
              have hw4 : Wrote w3 (w3.setCell ⟨eb, 0, none⟩ .nilIface) eb 0 1 := (Wrote.refl w3 eb 0 1).setCell (i := 0) (by omega) (by omega) _
              have q0 : (w3.setCell ⟨eb, 0, none⟩ .nilIface).cell? ⟨eb, 0, none⟩ = some .nilIface := World.cell?_setCell_same _ _ _ k0
              clear f0 f1 ffz g0 g1 k1 k0
              go_wp2
              go_roundg (r - 816)
              case measure => omega
              case rel => exact WRel.next (j := j) (r := r) (q := 816) HEE.out HDN.out HZ.out (by decide) (by omega) hqr HJR.out HP2.out HPP.out.1 HPP.out.2.2.2.1 HNX.out HFR.out hww.out hb' hnx hfr hsame hw4 q0
    · obtain rfl : n = i := by omega
      by_cases hlt2 : b + n < 4
      · have HWW := Lib.hid hww
        have HHB := Lib.hid hhb
        have hsl3 : ∃ A2, ∀ W, (Instr.slice 22 (.slice (some ⟨pb, po, none⟩) n c) (some (.int .i64 (n : Int))) none none).run Tryd.prog W = .ok (.slice A2 (n - n) (c - n)) W := by
          obtain ⟨A2, h2, _⟩ := HP.out.from_ (k := n) (Nat.le_refl _)
          exact ⟨A2, fun W => h2 W .i64⟩
        obtain ⟨A2, hsl3⟩ := hsl3
        clear hww hhb
        go_wp2
        go_ret2
        refine ⟨rfl, v, done, buf ++ xs, (H.out.core.wrote HWW.out (by omega)).full ?_ ?_ ?_ (H.out.bbs.append HP.out.2.2.2.1), by simp [List.append_assoc], Nxt.refl _ _, (Frm.refl _ _).wrote HWW.out (fun _ => .inl rfl)⟩
        · have := HHB.out
          rw [← hxl.out, List.take_length] at this
          exact this
        · rw [List.length_append, ← HB.out, hxl.out]; omega
        · rw [List.length_append, ← HB.out, hxl.out]; exact f6
      · have hbi4 : b + n = 4 := by omega
        have e0' : wr.cell? ⟨eb, 0, none⟩ = some .nilIface := (H.out.core.wrote hww (by omega)).c0
        have e1' : wr.cell? ⟨eb, 1, none⟩ = some (.iface 52 (.pointer (some ⟨bb, 0, none⟩))) := (H.out.core.wrote hww (by omega)).c1
        have f6' : wr.cell? ⟨eb, 6, none⟩ = some (.int .i64 4) := by rw [f6, hbi4]; rfl
        have HCW : Hid (ECore wr eb bb v done) := H.out.core.wrote hww (by omega)
        obtain ⟨A2, hsl2, hp2⟩ := HP.out.from_ (k := n) hin
        have hsl3 : ∀ W, (Instr.slice 22 (.slice (some ⟨pb, po, none⟩) n c) (some (.int .i64 (n : Int))) none none).run Tryd.prog W = .ok (.slice A2 0 (c - n)) W := fun W => by have := hsl2 W .i64; simpa using this
        have hp2 : Pin w pb A2 0 (c - n) (xs.drop n) := by simpa using hp2
        obtain ⟨zs, hzs⟩ : ∃ zs, zs = buf ++ xs.take n := ⟨_, rfl⟩
        rw [← hzs] at hhb
        have hzl : zs.length = 4 := by rw [hzs, List.length_append, List.length_take, hxl.out, ← HB.out]; omega
        have hzb : AllBytes zs := by rw [hzs]; exact H.out.bbs.append (HP.out.2.2.2.1.take _)
        have hs71 := fun W => slice71_from0 W eb 2
        have hfar : Far wr.drew eb 7 1024 (some ⟨eb, 2, none⟩) 4 4 zs := ⟨hzl, Nat.le_refl _, by unfold maxLen; omega, hzb, fun _ => ⟨eb, 2, rfl, by omega, fun i hi => hhb i (by omega)⟩⟩
        have hE := Lib.hid (encode_any eb 7 1024 1024 (some ⟨eb, 2, none⟩) 4 4 zs wr.drew (hrW.mono_ (by omega)) hfar (by omega) (by omega) (Nat.le_refl _) (by unfold maxLen; omega))
        have hel := enc_le zs
        have hep := enc_pos (a := zs) (by omega)
        rw [hzl] at hel
        obtain ⟨m, hm⟩ : ∃ m, m = (enc zs).length := ⟨_, rfl⟩
        rw [← hm] at hel hep hE
        have hrd : Room wr.drew eb 1031 := hrW
        have hs3 := fun W => slice72_to W eb 7 m (by omega)
        have HM := Lib.hid hm
        have HZ := Lib.hid hzs
        have HZB := Lib.hid hzb
        have HZL := Lib.hid hzl
        have HWW := Lib.hid hww
        have HP2 := Lib.hid hp2
        have hed := enc_le done
        clear hsl2 hp2 hfar hm hzs hzl hzb f6 hww hhb
        go_wp2
        go_region_with
          ((go_at_call 61; refine hE.out.mono ?_; rintro e w1 ⟨rfl, hw1, hh1⟩
            have g0 : w1.cell? ⟨eb, 0, none⟩ = some .nilIface := (hw1.cell hrd (by omega)).trans e0'
            have g1 : w1.cell? ⟨eb, 1, none⟩ = some (.iface 52 (.pointer (some ⟨bb, 0, none⟩))) := (hw1.cell hrd (by omega)).trans e1'))
        have r1 : Room w1 eb 1031 := hrd.wrote_ hw1
        have core1 : ECore w1.drew eb bb v done := ((HCW.out.drew).wrote hw1 (by omega)).drew
        have hBW := Lib.hid (bufWrite_any bb eb 7 m 1024 v (enc done) (enc zs) w1.drew core1.bst core1.n1 hh1 HM.out.symm (enc_bytes HZB.out) hep core1.ne (by omega))
        have CORE := Lib.hid core1
        have hwv : Wrote wr w1.drew eb 7 1024 := (⟨hw1.os, hw1.tape, hw1.output, hw1.size, hw1.block, hw1.row⟩ : Wrote wr w1 eb 7 1024).drewN 1
        have HFR1 : Hid (Frm (EMine eb bb v) w w1.drew) := ((Frm.refl _ w).wrote HWW.out (fun _ => .inl rfl)).wrote hwv (fun _ => .inl rfl)
        have fz1 := fun i => r1.frozen i
        clear core1 hh1 hed hwv
        go_wp2
        go_region_held (fun w' => w'.cell? ⟨eb, 1, none⟩ = some (.iface 52 (.pointer (some ⟨bb, 0, none⟩))))
          (first | go_keep | (exact g1) | (exact k1) | (exact (((Wrote.refl _ eb 0 1).setCell (i := 0) (by omega) (by omega) _).cell r3 (by omega)).trans k1))
          ((go_at_call 50; refine hBW.out.mono ?_; rintro e w3 hpo; obtain ⟨rfl, v'', hb', hnx, hfr, hsame⟩ := hpo.enc CORE.out.room CORE.out.n1 CORE.out.n2
            have r3 : Room w3 eb 1031 := CORE.out.room.same hsame
            have k1 : w3.cell? ⟨eb, 1, none⟩ = some (.iface 52 (.pointer (some ⟨bb, 0, none⟩))) := (cell_same hsame).trans g1
            obtain ⟨z0, k0⟩ := r3.cell (i := 0) (by omega)
            have fz3 := fun i => r3.frozen i))
        have hw4 : Wrote w3 (w3.setCell ⟨eb, 0, none⟩ .nilIface) eb 0 1 := (Wrote.refl w3 eb 0 1).setCell (i := 0) (by omega) (by omega) _
        have q0 : (w3.setCell ⟨eb, 0, none⟩ .nilIface).cell? ⟨eb, 0, none⟩ = some .nilIface := World.cell?_setCell_same _ _ _ k0
        have core4 := CORE.out.flush hb' hnx hsame hw4 q0 (zs := zs) (by rw [HZL.out]) (by rw [HZL.out]; omega) HZB.out
        have hfr4 : Frm (EMine eb bb v) w (w3.setCell ⟨eb, 0, none⟩ .nilIface) := (HFR1.out.trans hfr (fun _ _ hm => .inr hm)).wrote hw4 (fun _ => .inl rfl)
        have hnx4 : Nxt w v v'' := (Nxt.refl w v).trans hnx HFR1.out.size
        obtain ⟨w4, hw4e⟩ : ∃ w4, w3.setCell ⟨eb, 0, none⟩ .nilIface = w4 := ⟨_, rfl⟩
        have HW4 := Lib.hid hw4e
        rw [hw4e] at q0 core4 hfr4
        have fz4 := fun i => core4.room.frozen i
        obtain ⟨z6, f6⟩ := core4.room.cell (i := 6) (by omega)
        have hw5 : Wrote w4 (w4.setCell ⟨eb, 6, none⟩ (.int .i64 0)) eb 6 1 := (Wrote.refl w4 eb 6 1).setCell (i := 6) (by omega) (by omega) _
        have hst5 : Hid (ESt (w4.setCell ⟨eb, 6, none⟩ (.int .i64 0)) eb bb v'' (done ++ zs) []) := (core4.wrote hw5 (by omega)).full Has.nil (by simp) (World.cell?_setCell_same _ _ _ f6) (fun _ hx => by cases hx)
        have hfr5 : Hid (Frm (EMine eb bb v) w (w4.setCell ⟨eb, 6, none⟩ (.int .i64 0))) := hfr4.wrote hw5 (fun _ => .inl rfl)
        have HNX4 := Lib.hid hnx4
        rw [hw4e]
        clear hw4e hw5 hfr4 hnx4 core4 hw4 hb' hnx hfr hsame k1 k0 fz3 r3 g0 g1 fz1 e0' e1' f6'
        go_wp2
        go_loopg [1, 4, 5] 0 (fun k s1 s4 s5 wr => WRel eb bb pb n v done buf xs w k s1 s4 s5 wr)
        case atStart => exact ⟨n, c - n, A2, v'', done ++ zs, rfl, rfl, rfl, by omega, HP2.out, hst5.out, by rw [HZ.out], HNX4.out, hfr5.out⟩
        case round =>
          obtain ⟨j, c', A', v', dn, rfl, rfl, rfl, hjr, hpp, hee, hdn, hnx, hfr⟩ := hrel
          obtain ⟨r, hr⟩ : ∃ r, r = gk := ⟨_, rfl⟩
          subst hr
          have HPP := Lib.hid hpp
          have HEE := Lib.hid hee
          have HDN := Lib.hid hdn
          have HNX := Lib.hid hnx
          have HFR := Lib.hid hfr
          have HJR := Lib.hid hjr
          have hjl : j + r ≤ 65536 := by omega
          have hrc := hpp.2.1
          have hcm2 := hpp.2.2.1
          unfold maxLen at hcm2
          have f0 := hee.c0
          have f1 := hee.c1
          have ffz := fun i => hee.room.frozen i
          have hdnl : Hid (dn.length ≤ 100000) := by
            rw [Hid, hdn]
            simp only [List.length_append, List.length_take]
            have := hxl.out
            have := HB.out
            omega
          obtain ⟨z6, f6⟩ := hee.room.cell (i := 6) (by omega)
          clear hpp hee hdn hnx hfr hjr
          by_cases h4r : r < 4
          · obtain ⟨ys, hys⟩ : ∃ ys, ys = xs.drop j := ⟨_, rfl⟩
            have HYS := Lib.hid hys
            have HPR : Hid (Pin wr pb A' r c' ys) := by rw [hys]; exact HPP.out.same (HFR.out.block pb hpb HPM.out)
            have hyl : Hid (ys.length = r) := HPR.out.1
            have hmin : Hid (r = Nat.min r 4) := (Nat.min_eq_left (by omega)).symm
            have hrm : Hid (Room wr eb (2 + r)) := HEE.out.room.mono_ (by omega)
            clear hys
            go_wp2_with (refine wpList_cp rfl (.tmp 167) (.tmp 168) rfl (xs := ys) (g := eb) (off := 2) rfl rfl (by rw [hyl.out]; exact hmin.out) (fun _ => rfl) (fun hx => by rw [hyl.out] at hx; obtain ⟨o, ha, hb⟩ := HPR.out.2.2.2.2 hx; exact ⟨pb, o, ha, hb⟩) (by rw [hyl.out]; exact hrm.out) r hyl.out.symm ?_; intro w2 hw2 hh2; have r2 := HEE.out.room.wrote_ hw2; have fz2 := fun i => r2.frozen i; have q6 : w2.cell? ⟨eb, 6, none⟩ = some z6 := (hw2.cell HEE.out.room (by omega)).trans f6)
            go_ret2
            exact EPost.last HEE.out HDN.out HYS.out HPR.out.2.2.2.1 hyl.out (by omega) HJR.out HNX.out HFR.out hw2 hh2 ((Wrote.refl w2 eb 6 1).setCell (i := 6) (by omega) (by omega) _) (World.cell?_setCell_same _ _ _ q6)
          · by_cases h8 : r < 816
            · obtain ⟨q, hq⟩ : ∃ q : Nat, (r : Int) - (r : Int) % 4 = (q : Int) := ⟨r - r % 4, by omega⟩
              have hq0 : 4 ≤ q := by omega
              have hqb : q ≤ 816 := by omega
              have hqi : (q : Int) % 4 = 0 := by omega
              have hqr : q ≤ r := by omega
              have HQ4 : Hid (q % 4 = 0) := by unfold Hid; omega
              have hsl1 : ∀ W, (Instr.slice 22 (.slice A' r c') (some (.int .i64 0)) (some (.int .i64 (q : Int))) none).run Tryd.prog W = .ok (.slice A' q c') W := fun W => HPP.out.to_ (k := q) hqr W
              obtain ⟨A2, hsl2, hp2⟩ := HPP.out.from_ (k := q) hqr
              have hsl3 : ∀ W, (Instr.slice 22 (.slice A' r c') (some (.int .i64 (q : Int))) none none).run Tryd.prog W = .ok (.slice A2 (r - q) (c' - q)) W := fun W => hsl2 W .i64
              have HP2 := Lib.hid hp2
              obtain ⟨zs, hzs⟩ : ∃ zs, zs = (xs.drop j).take q := ⟨_, rfl⟩
              have hzl : zs.length = q := by rw [hzs, List.length_take, HPP.out.1]; omega
              have hzb : AllBytes zs := by rw [hzs]; exact HPP.out.2.2.2.1.take _
              have hfar : Far wr.drew eb 7 1024 A' q c' zs := by rw [hzs]; exact (HPP.out.same (w' := wr.drew) (HFR.out.block pb hpb HPM.out)).far hqr h1
              have hE := Lib.hid (encode_any eb 7 1024 1024 A' q c' zs wr.drew (HEE.out.room.mono_ (by omega)) hfar (by omega) (by omega) (Nat.le_refl _) (by unfold maxLen; omega))
              have hel := enc_le zs
              have hep := enc_pos (a := zs) (by omega)
              rw [hzl] at hel
              obtain ⟨m, hm⟩ : ∃ m, m = (enc zs).length := ⟨_, rfl⟩
              rw [← hm] at hel hep hE
              have HM := Lib.hid hm
              have hrW : Room wr.drew eb 1031 := HEE.out.room
              have hs3 := fun W => slice72_to W eb 7 m (by omega)
              have HZ := Lib.hid hzs
              have HZB := Lib.hid hzb
              have hdl := hdnl.out
              have hed := enc_le dn
              clear hsl2 hp2 hfar hm hzs hzl hzb
              go_wp2
              go_region_with
                ((go_at_call 61; refine hE.out.mono ?_; rintro e w1 ⟨rfl, hw1, hh1⟩
                  have g0 : w1.cell? ⟨eb, 0, none⟩ = some .nilIface := (hw1.cell hrW (by omega)).trans f0
                  have g1 : w1.cell? ⟨eb, 1, none⟩ = some (.iface 52 (.pointer (some ⟨bb, 0, none⟩))) := (hw1.cell hrW (by omega)).trans f1))
              have r1 : Room w1 eb 1031 := hrW.wrote_ hw1
              have core1 : ECore w1.drew eb bb v' dn := ((HEE.out.core.drew).wrote hw1 (by omega)).drew
              have hBW := Lib.hid (bufWrite_any bb eb 7 m 1024 v' (enc dn) (enc zs) w1.drew core1.bst core1.n1 hh1 HM.out.symm (enc_bytes HZB.out) hep core1.ne (by omega))
              have CORE := Lib.hid core1
              have hww : Hid (Wrote wr w1.drew eb 7 1024) := (⟨hw1.os, hw1.tape, hw1.output, hw1.size, hw1.block, hw1.row⟩ : Wrote wr w1 eb 7 1024).drewN 1
              have fz1 := fun i => r1.frozen i
              clear core1 hh1 hed
              go_wp2
              go_region_held (fun w' => w'.cell? ⟨eb, 1, none⟩ = some (.iface 52 (.pointer (some ⟨bb, 0, none⟩))))
                (first | go_keep | (exact g1) | (exact k1) | (exact (((Wrote.refl _ eb 0 1).setCell (i := 0) (by omega) (by omega) _).cell r3 (by omega)).trans k1))
                ((go_at_call 50; refine hBW.out.mono ?_; rintro e w3 hpo; obtain ⟨rfl, v'', hb', hnx, hfr, hsame⟩ := hpo.enc CORE.out.room CORE.out.n1 CORE.out.n2
                  have r3 : Room w3 eb 1031 := CORE.out.room.same hsame
                  have k1 : w3.cell? ⟨eb, 1, none⟩ = some (.iface 52 (.pointer (some ⟨bb, 0, none⟩))) := (cell_same hsame).trans g1
                  obtain ⟨z0, k0⟩ := r3.cell (i := 0) (by omega)
                  have fz3 := fun i => r3.frozen i))
              have hw4 : Wrote w3 (w3.setCell ⟨eb, 0, none⟩ .nilIface) eb 0 1 := (Wrote.refl w3 eb 0 1).setCell (i := 0) (by omega) (by omega) _
              have q0 : (w3.setCell ⟨eb, 0, none⟩ .nilIface).cell? ⟨eb, 0, none⟩ = some .nilIface := World.cell?_setCell_same _ _ _ k0
              clear f0 f1 ffz g0 g1 k1 k0
              go_wp2
              go_roundg (r - q)
              case measure => omega
              case rel => exact WRel.next (j := j) (r := r) (q := q) HEE.out HDN.out HZ.out HQ4.out (by omega) hqr HJR.out HP2.out HPP.out.1 HPP.out.2.2.2.1 HNX.out HFR.out hww.out hb' hnx hfr hsame hw4 q0
            · have hq0 : (0 : Nat) < 816 := by omega
              have hqr : 816 ≤ r := by omega

              have hsl1 : ∀ W, (Instr.slice 22 (.slice A' r c') (some (.int .i64 0)) (some (.int .i64 816)) none).run Tryd.prog W = .ok (.slice A' 816 c') W := fun W => HPP.out.to_ (k := 816) hqr W
              obtain ⟨A2, hsl2, hp2⟩ := HPP.out.from_ (k := 816) hqr
              have hsl3 : ∀ W, (Instr.slice 22 (.slice A' r c') (some (.int .i64 816)) none none).run Tryd.prog W = .ok (.slice A2 (r - 816) (c' - 816)) W := fun W => hsl2 W .i64
              have HP2 := Lib.hid hp2
              obtain ⟨zs, hzs⟩ : ∃ zs, zs = (xs.drop j).take 816 := ⟨_, rfl⟩
              have hzl : zs.length = 816 := by rw [hzs, List.length_take, HPP.out.1]; omega
              have hzb : AllBytes zs := by rw [hzs]; exact HPP.out.2.2.2.1.take _
              have hfar : Far wr.drew eb 7 1024 A' 816 c' zs := by rw [hzs]; exact (HPP.out.same (w' := wr.drew) (HFR.out.block pb hpb HPM.out)).far hqr h1
              have hE := Lib.hid (encode_any eb 7 1024 1024 A' 816 c' zs wr.drew (HEE.out.room.mono_ (by omega)) hfar (by omega) (by omega) (Nat.le_refl _) (by unfold maxLen; omega))
              have hel := enc_le zs
              have hep := enc_pos (a := zs) (by omega)
              rw [hzl] at hel
              obtain ⟨m, hm⟩ : ∃ m, m = (enc zs).length := ⟨_, rfl⟩
              rw [← hm] at hel hep hE
              have HM := Lib.hid hm
              have hrW : Room wr.drew eb 1031 := HEE.out.room
              have hs3 := fun W => slice72_to W eb 7 m (by omega)
              have HZ := Lib.hid hzs
              have HZB := Lib.hid hzb
              have hdl := hdnl.out
              have hed := enc_le dn
              clear hsl2 hp2 hfar hm hzs hzl hzb
              go_wp2
              go_region_with
                ((go_at_call 61; refine hE.out.mono ?_; rintro e w1 ⟨rfl, hw1, hh1⟩
                  have g0 : w1.cell? ⟨eb, 0, none⟩ = some .nilIface := (hw1.cell hrW (by omega)).trans f0
                  have g1 : w1.cell? ⟨eb, 1, none⟩ = some (.iface 52 (.pointer (some ⟨bb, 0, none⟩))) := (hw1.cell hrW (by omega)).trans f1))
              have r1 : Room w1 eb 1031 := hrW.wrote_ hw1
              have core1 : ECore w1.drew eb bb v' dn := ((HEE.out.core.drew).wrote hw1 (by omega)).drew
              have hBW := Lib.hid (bufWrite_any bb eb 7 m 1024 v' (enc dn) (enc zs) w1.drew core1.bst core1.n1 hh1 HM.out.symm (enc_bytes HZB.out) hep core1.ne (by omega))
              have CORE := Lib.hid core1
              have hww : Hid (Wrote wr w1.drew eb 7 1024) := (⟨hw1.os, hw1.tape, hw1.output, hw1.size, hw1.block, hw1.row⟩ : Wrote wr w1 eb 7 1024).drewN 1
              have fz1 := fun i => r1.frozen i
              clear core1 hh1 hed
              go_wp2
              go_region_held (fun w' => w'.cell? ⟨eb, 1, none⟩ = some (.iface 52 (.pointer (some ⟨bb, 0, none⟩))))
                (first | go_keep | (exact g1) | (exact k1) | (exact (((Wrote.refl _ eb 0 1).setCell (i := 0) (by omega) (by omega) _).cell r3 (by omega)).trans k1))
                ((go_at_call 50; refine hBW.out.mono ?_; rintro e w3 hpo; obtain ⟨rfl, v'', hb', hnx, hfr, hsame⟩ := hpo.enc CORE.out.room CORE.out.n1 CORE.out.n2
                  have r3 : Room w3 eb 1031 := CORE.out.room.same hsame
                  have k1 : w3.cell? ⟨eb, 1, none⟩ = some (.iface 52 (.pointer (some ⟨bb, 0, none⟩))) := (cell_same hsame).trans g1
                  obtain ⟨z0, k0⟩ := r3.cell (i := 0) (by omega)
                  have fz3 := fun i => r3.frozen i))
              have hw4 : Wrote w3 (w3.setCell ⟨eb, 0, none⟩ .nilIface) eb 0 1 := (Wrote.refl w3 eb 0 1).setCell (i := 0) (by omega) (by omega) _
              have q0 : (w3.setCell ⟨eb, 0, none⟩ .nilIface).cell? ⟨eb, 0, none⟩ = some .nilIface := World.cell?_setCell_same _ _ _ k0
              clear f0 f1 ffz g0 g1 k1 k0
              go_wp2
              go_roundg (r - 816)
              case measure => omega
              case rel => exact WRel.next (j := j) (r := r) (q := 816) HEE.out HDN.out HZ.out (by decide) (by omega) hqr HJR.out HP2.out HPP.out.1 HPP.out.2.2.2.1 HNX.out HFR.out hww.out hb' hnx hfr hsame hw4 q0
end Go.Proofs.YtfonpcfcelahdaaDoor
