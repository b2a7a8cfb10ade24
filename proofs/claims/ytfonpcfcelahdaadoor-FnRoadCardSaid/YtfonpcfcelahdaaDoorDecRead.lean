/-
  What the decoder's Read does.
-/
import Derived.Test.YtfonpcfcelahdaaDoorDecSt
import Derived.Deep.LoopGhost
import Derived.Deep.RegionWith
import Derived.Deep.RegionHeld
namespace Go.Proofs.YtfonpcfcelahdaaDoor
open Go.RowKit

theorem tot_given {o bf rest : List Int} {T : Option (List Int)} (h : Tot o bf rest = T) (N : Nat) : T = (Tot (o.drop N) bf rest).map (o.take N ++ ·) := by
  rw [← h]
  unfold Tot
  cases run (bf ++ rest) with
  | none => rfl
  | some t => simp [← List.append_assoc]

set_option maxRecDepth 100000 in
set_option maxHeartbeats 40000000 in
theorem decRead_any (B db sb q pc g off L c : Nat) (bt : TypeId) (ba : Value) (T : Option (List Int)) (o bf rest : List Int) (eof : Bool) (w : World) (h : DSt w db sb q pc (.iface bt ba) o bf rest eof) (hT : Tot o bf rest = T)
    (hv : w.cell? ⟨0, 0, none⟩ = some (.iface bt ba)) (hr : Room w g (off + L)) (h1 : g ≠ db) (h2 : g ≠ sb) (h3 : g ≠ q) (hB0 : 0 < B) (hB1' : B ≤ db) (hB2' : B ≤ sb) (hB3' : B ≤ g) (hpc : 1 ≤ pc) (hpm : pc ≤ maxLen) (hL : 1 ≤ L) (_hLc : L ≤ c) (_hcm : c ≤ maxLen) :
    Calls Tryd.prog 62 #[.pointer (some ⟨db, 0, none⟩), .slice (some ⟨g, off, none⟩) L c] w (ReadPost B db sb q pc g off L (.iface bt ba) T w) := by
  have hB1 : Mine B db sb g db := ⟨hB1', .inl rfl⟩
  have hB2 : Mine B db sb g sb := ⟨hB2', .inr (.inl rfl)⟩
  have hB3 : Mine B db sb g g := ⟨hB3', .inr (.inr rfl)⟩
  unfold maxLen at hpm _hcm
  have HH := Lib.hid h
  have HT := Lib.hid hT
  have e0 := h.c0
  clear h hT
  have hL0 : ((L : Int) == 0) = false := by simp; omega
  go_enter Tryd.func62, Tryd.ntmps62
  go_wp2
  go_loopg [5] (todo o rest eof) (fun k s5 wr => s5 = .nilIface ∧ ∃ (o bf rest : List Int) (eof : Bool), DSt wr db sb q pc (.iface bt ba) o bf rest eof ∧ Tot o bf rest = T ∧ todo o rest eof = k ∧ Steps B db sb g w wr)
  case atStart => exact ⟨rfl, o, bf, rest, eof, HH.out, HT.out, rfl, Steps.refl _ _ _ _ _⟩
  case round =>
    clear HH HT e0
    obtain ⟨rfl, o, bf, rest, eof, hD, hT, hk, hst⟩ := hrel
    have HD := Lib.hid hD
    have HT := Lib.hid hT
    have HK := Lib.hid hk
    have HS := Lib.hid hst
    have fz := fun i => hD.room.frozen i
    obtain ⟨S, c2, e4, hol, hoc, hox⟩ := hD.out
    have e0 := hD.c0
    have e3 := hD.c3
    have hob := hD.ob
    have hbl := hD.len
    clear hT hk hst hD
    by_cases ho : o = []
    · subst ho
      obtain ⟨n, hn⟩ : ∃ n, n = bf.length := ⟨_, rfl⟩
      have HN := Lib.hid hn
      have HO := Lib.hid hox
      have HOL := Lib.hid hol
      have HOC := Lib.hid hoc
      simp only [List.length_nil] at e4
      rw [← hn] at e3
      have hnl : n ≤ 1024 := by omega
      have hbf : Hid (Has wr.drew db 3 bf) := HD.out.buf
      have hfar : Hid (Far wr.drew db 1029 1024 (some ⟨db, 3, none⟩) n 1024 bf) := ⟨hn.symm, hnl, by unfold maxLen; omega, HD.out.bb, fun _ => ⟨db, 3, rfl, by omega, fun i hi => hbf.out i (by omega)⟩⟩
      have hrd : Room wr.drew db 2053 := HD.out.room
      have hrd2 : Room wr.drew db (1029 + 1024) := HD.out.room
      have hmx : 1024 ≤ maxLen := by unfold maxLen; omega
      have e1 := HD.out.c1
      have e2 := HD.out.c2
      have hs1 := fun W => slice72_to W db 3 n hnl
      have hs2 := fun W => slice72_all W db 1029
      clear hn hox hol hoc hbl hob
      by_cases hn0 : n ≤ 0
      · have hnn : bf = [] := List.eq_nil_of_length_eq_zero (by have := HN.out; omega)
        have HD1 := HD
        have HS1 := HS
        have HT1 := HT
        have HN1 := HN
        have hrW := hrd
        have HNN := Lib.hid hnn
        clear hnn
        cases eof
        · simp only [Bool.false_eq_true, if_false] at e1
          have f0 := e0
          have f1 := e1
          have f2 := e2
          have f3 := e3
          clear e0 e1 e2 e3
          have hsl := HD1.out.slow
          have hs5 : ∀ Wx, (Instr.sliceAt 72 (.pointer (some ⟨db, 3, none⟩)) (some (.int .i64 (n : Int))) none none).run Tryd.prog Wx = .ok (.slice (some ⟨db, 3 + n, none⟩) (1024 - n) (1024 - n)) Wx := fun Wx => by
            rw [slice72_from Wx db 3 n (by omega), if_neg (by omega)]
          have hvW : Hid ((wr).cell? ⟨0, 0, none⟩ = some (.iface bt ba)) := HS1.out.cell0 hv hB0
          have HSL := Lib.hid hsl
          clear hsl
          have n1 := HD1.out.n1
          have n2 := HD1.out.n2
          have n3 := HD1.out.n3
          by_cases hre : rest = []
          · subst hre
            have hse : Hid (∀ pv, Calls Tryd.prog 57 #[.pointer (some ⟨sb, 0, none⟩), pv] (wr).drew fun e w' => e = .returned (.tuple #[.int .i64 0, .iface bt ba]) ∧ ∃ k, w' = (wr).drew.drewN k) := fun pv => slow_end sb q pc (.iface bt ba) pv (wr).drew ⟨HSL.out.room, HSL.out.s0, HSL.out.s1⟩ hvW.out
            go_wp2
            go_region_held (fun w' => w'.cell? ⟨db, 2, none⟩ = some (.iface 60 (.pointer (some ⟨sb, 0, none⟩))) ∧ w'.cell? ⟨db, 1027, none⟩ = some (.int .i64 (n : Int)))
              (first | go_keep | (exact ⟨f2, f3⟩) | (exact ⟨(((Wrote.refl _ db 1 1).setCell (i := 1) (by omega) (by omega) _).cell hrW (by omega)).trans f2, (((Wrote.refl _ db 1 1).setCell (i := 1) (by omega) (by omega) _).cell hrW (by omega)).trans f3⟩))
              ((go_at_call 57; refine (hse.out _).mono ?_; rintro e w1 ⟨rfl, k1, rfl⟩))
            go_wp2
            go_roundg 1
            case measure => rw [← HK.out]; simp [todo]
            case rel =>
              have st1 := fun v => (Wrote.refl ((wr).drewN (1 + k1)) db 1 1).setCell (i := 1) (by omega) (by omega) v
              have st2 := fun v => (Wrote.refl (((wr).drewN (1 + k1)).setCell ⟨db, 1, none⟩ (.iface bt ba)) db 1027 1).setCell (i := 1027) (by omega) (by omega) v
              refine ⟨rfl, [], _, [], true, (HD1.out.drewN (1 + k1)).ended (st1 _) (World.cell?_setCell_same _ _ _ f1) (st2 _) ?_, HT1.out, rfl, ((HS1.out.drewN (1 + k1)).wrote (st1 _) hB1).wrote (st2 _) hB1⟩
              rw [← HN1.out]
              exact World.cell?_setCell_same _ _ _ (((st1 _).cell (HD1.out.drewN (1 + k1)).room (by omega)).trans f3)
          · have hr0 : 0 < rest.length := List.length_pos_iff.2 hre
            have hsr : Hid (Room (wr).drew sb 2) := HSL.out.room
            have hsm := Lib.hid (slow_more sb q pc db (3 + n) (1024 - n) (1024 - n) rest (wr).drew ⟨HSL.out.room, HSL.out.s0, HSL.out.s1⟩ hpc (hrW.mono_ (by omega)) n1 n2 n3 hr0 (by omega) (Nat.le_refl _) (by unfold maxLen; omega) (by unfold maxLen; omega))
            clear hre
            go_wp2
            go_region_held (fun w' => w'.cell? ⟨db, 2, none⟩ = some (.iface 60 (.pointer (some ⟨sb, 0, none⟩))) ∧ w'.cell? ⟨db, 1027, none⟩ = some (.int .i64 (n : Int)))
              (first | go_keep | (exact ⟨f2, f3⟩) | (exact ⟨g2, g3⟩) | (exact ⟨(((Wrote.refl _ db 1 1).setCell (i := 1) (by omega) (by omega) _).cell rW1 (by omega)).trans g2, (((Wrote.refl _ db 1 1).setCell (i := 1) (by omega) (by omega) _).cell rW1 (by omega)).trans g3⟩))
              ((go_at_call 57; refine hsm.out.mono ?_; rintro e w1 ⟨N, hN1, hN2, hN3, rfl, ⟨wa, hwa, hwb⟩, hhx, hsw⟩
                have rWa := hrW.wrote_ hwa; have rSb := hsr.out.wrote_ hwa; have rW1 := rWa.wrote_ hwb
                have g1 : w1.cell? ⟨db, 1, none⟩ = some .nilIface := (hwb.cell rSb (.inl (Ne.symm n1))).trans ((hwa.cell hrW (by omega)).trans f1)
                have g2 : w1.cell? ⟨db, 2, none⟩ = some (.iface 60 (.pointer (some ⟨sb, 0, none⟩))) := (hwb.cell rSb (.inl (Ne.symm n1))).trans ((hwa.cell hrW (by omega)).trans f2)
                have g3 : w1.cell? ⟨db, 1027, none⟩ = some (.int .i64 (n : Int)) := (hwb.cell rSb (.inl (Ne.symm n1))).trans ((hwa.cell hrW (by omega)).trans f3)
                have fz2 := fun i => rW1.frozen i))
            have hnN : n + N ≤ 1024 := by omega
            go_wp2
            go_roundg (todo [] (rest.drop N) false)
            case measure => rw [← HK.out]; first | (simp [todo]; done) | (simp [todo]; omega)
            case rel =>
              have hnb := HN1.out
              subst hnb
              have st1 := fun v => (Wrote.refl w1 db 1 1).setCell (i := 1) (by omega) (by omega) v
              have st2 := fun v => (Wrote.refl (w1.setCell ⟨db, 1, none⟩ .nilIface) db 1027 1).setCell (i := 1027) (by omega) (by omega) v
              refine ⟨rfl, [], bf ++ rest.take N, rest.drop N, false, HD1.out.drew.more hwa hwb hhx hsw (st1 _) (World.cell?_setCell_same _ _ _ g1) (st2 _) ?_ hN3 hnN, tot_more HT1.out N, rfl, ((((HS1.out.drew).wrote hwa hB1).wrote hwb hB2).wrote (st1 _) hB1).wrote (st2 _) hB1⟩
              rw [Int.natCast_add]
              exact World.cell?_setCell_same _ _ _ (((st1 _).cell rW1 (by omega)).trans g3)
        · simp only [if_true] at e1
          have HZ : Hid (T = some []) := by rw [Hid, ← HT.out, HD.out.sub rfl, HNN.out]; rfl
          go_wp2
          go_quiet (fail)
          go_wp2
          go_ret2
          exact ⟨((HS.out).wrote ((Wrote.refl _ db 0 1).setCell (i := 0) (by omega) (by omega) _) hB1).drewN _, .inr (.inl ⟨rfl, HZ.out⟩)⟩
      · have hnp : 0 < n := by omega
        clear hn0
        obtain ⟨⟨out, nsrc, er⟩, hdec⟩ : ∃ r, decode 1024 bf eof = r := ⟨_, rfl⟩
        have HDEC := Lib.hid hdec
        cases er with
        | some i =>
          have hb := decode_bad (rest := rest) hdec HD.out.sub
          obtain rfl := hb.2
          have HB := Lib.hid hb.1
          clear hb hdec
          cases eof
          · simp only [Bool.false_eq_true, if_false] at e1
            go_wp2
            go_region_held (fun w' => w'.cell? ⟨db, 1027, none⟩ = some (.int .i64 (n : Int)) ∧ w'.cell? ⟨db, 1, none⟩ = some .nilIface)
              (first | go_keep | (exact ⟨(hw1.cell hrd (by omega)).trans e3, (hw1.cell hrd (by omega)).trans e1⟩) | (exact ⟨(((Wrote.refl w1 db 0 1).setCell (i := 0) (by omega) (by omega) _).cell (hrd.wrote_ hw1) (by omega)).trans ((hw1.cell hrd (by omega)).trans e3), (((Wrote.refl w1 db 0 1).setCell (i := 0) (by omega) (by omega) _).cell (hrd.wrote_ hw1) (by omega)).trans ((hw1.cell hrd (by omega)).trans e1)⟩))
              ((go_at_call 17; refine (decode_any db 1029 1024 1024 (some ⟨db, 3, none⟩) n 1024 bf false wr.drew hrd2 hfar.out (Nat.le_refl _) hmx).mono ?_; rw [HDEC.out]; rintro e w1 ⟨rfl, hw1, hh1⟩; have f0 : w1.cell? ⟨db, 0, none⟩ = some .nilIface := (hw1.cell hrd (by omega)).trans e0; have f1 : w1.cell? ⟨db, 1, none⟩ = some .nilIface := (hw1.cell hrd (by omega)).trans e1; have f3 : w1.cell? ⟨db, 1027, none⟩ = some (.int .i64 (n : Int)) := (hw1.cell hrd (by omega)).trans e3; have f4 : w1.cell? ⟨db, 1028, none⟩ = some (.slice S 0 c2) := (hw1.cell hrd (by omega)).trans e4; have fz1 := fun i => (hrd.wrote_ hw1).frozen i; simp only [errV]))
            have hw2 : Wrote wr w1 db 1029 1024 := ⟨hw1.os, hw1.tape, hw1.output, hw1.size, hw1.block, hw1.row⟩
            have hst := fun v => (Wrote.refl w1 db 0 1).setCell (i := 0) (by omega) (by omega) v
            clear e0 e1 e2 e3 e4 fz
            go_wp2
            go_quiet (fail)
            go_wp2
            go_ret2
            exact ⟨((HS.out.wrote hw2 hB1).wrote (hst _) hB1).drewN _, .inr (.inr ⟨i, rfl, by rw [← HT.out]; unfold Tot; rw [HB.out]; rfl⟩)⟩
          · simp only [if_true] at e1
            go_wp2
            go_region_held (fun w' => w'.cell? ⟨db, 1027, none⟩ = some (.int .i64 (n : Int)) ∧ w'.cell? ⟨db, 1, none⟩ = some (.iface bt ba))
              (first | go_keep | (exact ⟨(hw1.cell hrd (by omega)).trans e3, (hw1.cell hrd (by omega)).trans e1⟩) | (exact ⟨(((Wrote.refl w1 db 0 1).setCell (i := 0) (by omega) (by omega) _).cell (hrd.wrote_ hw1) (by omega)).trans ((hw1.cell hrd (by omega)).trans e3), (((Wrote.refl w1 db 0 1).setCell (i := 0) (by omega) (by omega) _).cell (hrd.wrote_ hw1) (by omega)).trans ((hw1.cell hrd (by omega)).trans e1)⟩))
              ((go_at_call 17; refine (decode_any db 1029 1024 1024 (some ⟨db, 3, none⟩) n 1024 bf true wr.drew hrd2 hfar.out (Nat.le_refl _) hmx).mono ?_; rw [HDEC.out]; rintro e w1 ⟨rfl, hw1, hh1⟩; have f0 : w1.cell? ⟨db, 0, none⟩ = some .nilIface := (hw1.cell hrd (by omega)).trans e0; have f1 : w1.cell? ⟨db, 1, none⟩ = some (.iface bt ba) := (hw1.cell hrd (by omega)).trans e1; have f3 : w1.cell? ⟨db, 1027, none⟩ = some (.int .i64 (n : Int)) := (hw1.cell hrd (by omega)).trans e3; have f4 : w1.cell? ⟨db, 1028, none⟩ = some (.slice S 0 c2) := (hw1.cell hrd (by omega)).trans e4; have fz1 := fun i => (hrd.wrote_ hw1).frozen i; simp only [errV]))
            have hw2 : Wrote wr w1 db 1029 1024 := ⟨hw1.os, hw1.tape, hw1.output, hw1.size, hw1.block, hw1.row⟩
            have hst := fun v => (Wrote.refl w1 db 0 1).setCell (i := 0) (by omega) (by omega) v
            clear e0 e1 e2 e3 e4 fz
            go_wp2
            go_quiet (fail)
            go_wp2
            go_ret2
            exact ⟨((HS.out.wrote hw2 hB1).wrote (hst _) hB1).drewN _, .inr (.inr ⟨i, rfl, by rw [← HT.out]; unfold Tot; rw [HB.out]; rfl⟩)⟩
        | none =>
          obtain ⟨hns, hrun⟩ := decode_step (rest := rest) hdec HD.out.sub
          have hlen := decode_len 1024 bf eof
          have hby := decode_bytes 1024 bf eof
          rw [hdec] at hlen hby
          dsimp only at hlen hby
          rw [← HN.out] at hns
          have HRUN := Lib.hid hrun
          have HBY := Lib.hid hby
          clear hrun hby
          by_cases hout : out = []
          · subst hout
            obtain ⟨hs4, hse⟩ := decode_dry (by omega) hdec
            have HS4 := Lib.hid hs4
            have HSE := Lib.hid hse
            clear hs4 hse hdec hlen hns
            cases eof
            · simp only [Bool.false_eq_true, if_false] at e1
              go_wp2
              go_region_held (fun w' => w'.cell? ⟨db, 1027, none⟩ = some (.int .i64 (n : Int)) ∧ w'.cell? ⟨db, 1, none⟩ = some .nilIface)
                (first | go_keep | (exact ⟨(hw1.cell hrd (by omega)).trans e3, (hw1.cell hrd (by omega)).trans e1⟩) | (exact ⟨(((Wrote.refl w1 db 0 1).setCell (i := 0) (by omega) (by omega) _).cell (hrd.wrote_ hw1) (by omega)).trans ((hw1.cell hrd (by omega)).trans e3), (((Wrote.refl w1 db 0 1).setCell (i := 0) (by omega) (by omega) _).cell (hrd.wrote_ hw1) (by omega)).trans ((hw1.cell hrd (by omega)).trans e1)⟩))
                ((go_at_call 17; refine (decode_any db 1029 1024 1024 (some ⟨db, 3, none⟩) n 1024 bf false wr.drew hrd2 hfar.out (Nat.le_refl _) hmx).mono ?_; rw [HDEC.out]; rintro e w1 ⟨rfl, hw1, hh1⟩; have f0 : w1.cell? ⟨db, 0, none⟩ = some .nilIface := (hw1.cell hrd (by omega)).trans e0; have f1 : w1.cell? ⟨db, 1, none⟩ = some .nilIface := (hw1.cell hrd (by omega)).trans e1; have f3 : w1.cell? ⟨db, 1027, none⟩ = some (.int .i64 (n : Int)) := (hw1.cell hrd (by omega)).trans e3; have f4 : w1.cell? ⟨db, 1028, none⟩ = some (.slice S 0 c2) := (hw1.cell hrd (by omega)).trans e4; have fz1 := fun i => (hrd.wrote_ hw1).frozen i; simp only [errV]))
              have hw2 : Wrote wr w1 db 1029 1024 := ⟨hw1.os, hw1.tape, hw1.output, hw1.size, hw1.block, hw1.row⟩
              have hst := fun v => (Wrote.refl w1 db 0 1).setCell (i := 0) (by omega) (by omega) v
              have r1 : Room w1 db 2053 := hrd.wrote_ hw1
              have st0 := hst .nilIface
              have q0 : (w1.setCell ⟨db, 0, none⟩ .nilIface).cell? ⟨db, 0, none⟩ = some .nilIface := World.cell?_setCell_same _ _ _ f0
              have hhb : Has w1 db 3 bf := hbf.out.out_ hw1 hrd (by rw [← HN.out]; omega)
              obtain ⟨w2, hw2e⟩ : ∃ w2, w1.setCell ⟨db, 0, none⟩ .nilIface = w2 := ⟨_, rfl⟩
              rw [hw2e] at st0 q0 ⊢
              clear hw2e hst
              have r2 := r1.wrote_ st0
              have q1 : w2.cell? ⟨db, 1, none⟩ = some .nilIface := (st0.cell r1 (by omega)).trans f1
              have q2 : w2.cell? ⟨db, 2, none⟩ = some (.iface 60 (.pointer (some ⟨sb, 0, none⟩))) := (st0.cell r1 (by omega)).trans ((hw1.cell hrd (by omega)).trans e2)
              have q3 : w2.cell? ⟨db, 1027, none⟩ = some (.int .i64 (n : Int)) := (st0.cell r1 (by omega)).trans f3
              have hh2 : Hid (Has w2 db 3 bf) := hhb.out_ st0 r1 (by omega)
              have fz2 := fun i => r2.frozen i
              clear e0 e1 e2 e3 e4 fz f0 f1 f3 f4 fz1 hhb
              go_wp2
              go_loopg [9, 10] n (fun k s9 s10 wv => ∃ (i u : Nat), s10 = .int .i64 (i : Int) ∧ s9 = .int .i64 (u : Int) ∧ i + k = n ∧ u ≤ i ∧ Hid ((sift (bf.take i)).length = u) ∧ Wrote w2 wv db 3 1024 ∧ Has wv db 3 (sift (bf.take i)) ∧ Has wv db (3 + i) (bf.drop i))
              case atStart => exact ⟨0, 0, rfl, rfl, by omega, by omega, by simp [Hid, sift], Wrote.refl _ _ _ _, by simpa [sift] using Has.nil, by simpa using hh2.out⟩
              case round =>
                obtain ⟨i, u, rfl, rfl, hik, hui, hul, hwv, hha, hhb⟩ := hrel
                have rW := r2.wrote_ hwv
                have fzv := fun i => rW.frozen i
                have v0 := (hwv.cell (i := 0) r2 (.inr (by omega))).trans q0
                have v1 := (hwv.cell (i := 1) r2 (.inr (by omega))).trans q1
                have v2 := (hwv.cell (i := 2) r2 (.inr (by omega))).trans q2
                have v3 := (hwv.cell (i := 1027) r2 (.inr (by omega))).trans q3
                by_cases hin : i < n
                · obtain ⟨x, hx⟩ : ∃ x, bf.getD i 0 = x := ⟨_, rfl⟩
                  have hxb := HD.out.bb.getD i
                  have vx : wr.cell? ⟨db, 3 + i, none⟩ = some (.int .u8 x) := by
                    have := hhb 0 (by rw [List.length_drop, ← HN.out]; omega)
                    rw [Nat.add_zero] at this
                    rw [this, ← hx]
                    simp [List.getD, List.getElem?_drop]
                  have htk := sift_take (bf := bf) (i := i) (by rw [← HN.out]; exact hin)
                  rw [hx] at hxb htk
                  have HTK := Lib.hid htk
                  clear hx htk
                  by_cases hb : x ≤ 32
                  · go_wp2
                    go_roundg (n - (i + 1))
                    case measure => omega
                    case rel =>
                      have ht := HTK.out
                      rw [if_pos hb] at ht
                      exact ⟨i + 1, u, (by go_num), rfl, by omega, by omega, by rw [ht]; exact hul, hwv, by rw [ht]; exact hha, hhb.next⟩
                  · obtain ⟨vv, vu⟩ := rW.cell (i := 3 + u) (by omega)
                    go_wp2
                    go_region
                    all_goals
                      go_wp2
                      go_roundg (n - (i + 1))
                      case measure => omega
                      case rel =>
                        have ht := HTK.out
                        rw [if_neg (by omega)] at ht
                        have hwd : Wrote w2 wr.drew db 3 1024 := ⟨hwv.os, hwv.tape, hwv.output, hwv.size, hwv.block, hwv.row⟩
                        have rWd : Room wr.drew db 2053 := rW
                        have stu := fun v => (Wrote.refl wr.drew db (3 + u) 1).setCell (i := 3 + u) (by omega) (by omega) v
                        have hha' : Has wr.drew db 3 (sift (bf.take i)) := hha
                        have hhb' : Has wr.drew db (3 + i) (bf.drop i) := hhb
                        have vu' : wr.drew.cell? ⟨db, 3 + u, none⟩ = some vv := vu
                        have hul' := hul.out
                        refine ⟨i + 1, u + 1, (by go_num), (by go_num), by omega, by omega, by rw [ht, Hid, List.length_append, hul']; rfl, hwd.setCell (i := 3 + u) (by omega) (by omega) _, ?_, hhb'.next.out_ (stu _) rWd (by omega)⟩
                        rw [ht]
                        refine (hha'.out_ (stu _) rWd (by omega)).append (Has.cons ?_ Has.nil)
                        rw [hul']
                        exact World.cell?_setCell_same _ _ _ vu'
                · obtain rfl : i = n := by omega
                  have htb : bf.take i = bf := List.take_of_length_le (by rw [← HN.out]; exact Nat.le_refl _)
                  rw [htb] at hul hha
                  have hu4 : u ≤ 4 := by rw [← hul.out]; exact HS4.out
                  have st5 := fun v => (Wrote.refl wr db 1027 1).setCell (i := 1027) (by omega) (by omega) v
                  have HD1 := Lib.hid (HD.out.sifted hw2 st0 q0 hwv hha (st5 (.int .i64 (u : Int))) (World.cell?_setCell_same _ _ _ v3) hul.out (by omega) (sift_allbytes HD.out.bb))
                  have HS1 := Lib.hid (((HS.out.wrote hw2 hB1).wrote st0 hB1).wrote hwv hB1 |>.wrote (st5 (.int .i64 (u : Int))) hB1)
                  have HT1 := Lib.hid (tot_sift HT.out)
                  have HN1 : Hid (u = (sift bf).length) := hul.out.symm
                  have hrW : Room (wr.setCell ⟨db, 1027, none⟩ (.int .i64 (u : Int))).drew db 2053 := HD1.out.room
                  have f0 := HD1.out.c0
                  have f1 := HD1.out.c1
                  have f2 := HD1.out.c2
                  have f3 := HD1.out.c3
                  simp only [Bool.false_eq_true, if_false] at f1
                  rw [← HN1.out] at f3
                  have fzW := fun i => HD1.out.room.frozen i
                  have hsl := HD1.out.slow
                  have hs5 : ∀ Wx, (Instr.sliceAt 72 (.pointer (some ⟨db, 3, none⟩)) (some (.int .i64 (u : Int))) none none).run Tryd.prog Wx = .ok (.slice (some ⟨db, 3 + u, none⟩) (1024 - u) (1024 - u)) Wx := fun Wx => by
                    rw [slice72_from Wx db 3 u (by omega), if_neg (by omega)]
                  have hvW : Hid ((wr.setCell ⟨db, 1027, none⟩ (.int .i64 (u : Int))).cell? ⟨0, 0, none⟩ = some (.iface bt ba)) := HS1.out.cell0 hv hB0
                  have HSL := Lib.hid hsl
                  clear hsl
                  have n1 := HD1.out.n1
                  have n2 := HD1.out.n2
                  have n3 := HD1.out.n3
                  by_cases hre : rest = []
                  · subst hre
                    have hse : Hid (∀ pv, Calls Tryd.prog 57 #[.pointer (some ⟨sb, 0, none⟩), pv] (wr.setCell ⟨db, 1027, none⟩ (.int .i64 (u : Int))).drew fun e w' => e = .returned (.tuple #[.int .i64 0, .iface bt ba]) ∧ ∃ k, w' = (wr.setCell ⟨db, 1027, none⟩ (.int .i64 (u : Int))).drew.drewN k) := fun pv => slow_end sb q pc (.iface bt ba) pv (wr.setCell ⟨db, 1027, none⟩ (.int .i64 (u : Int))).drew ⟨HSL.out.room, HSL.out.s0, HSL.out.s1⟩ hvW.out
                    go_wp2
                    go_region_held (fun w' => w'.cell? ⟨db, 2, none⟩ = some (.iface 60 (.pointer (some ⟨sb, 0, none⟩))) ∧ w'.cell? ⟨db, 1027, none⟩ = some (.int .i64 (u : Int)))
                      (first | go_keep | (exact ⟨f2, f3⟩) | (exact ⟨(((Wrote.refl _ db 1 1).setCell (i := 1) (by omega) (by omega) _).cell hrW (by omega)).trans f2, (((Wrote.refl _ db 1 1).setCell (i := 1) (by omega) (by omega) _).cell hrW (by omega)).trans f3⟩))
                      ((go_at_call 57; refine (hse.out _).mono ?_; rintro e w1 ⟨rfl, k1, rfl⟩))
                    go_wp2
                    go_roundg 1
                    case measure => rw [← HK.out]; simp [todo]
                    case rel =>
                      have st1 := fun v => (Wrote.refl ((wr.setCell ⟨db, 1027, none⟩ (.int .i64 (u : Int))).drewN (1 + k1)) db 1 1).setCell (i := 1) (by omega) (by omega) v
                      have st2 := fun v => (Wrote.refl (((wr.setCell ⟨db, 1027, none⟩ (.int .i64 (u : Int))).drewN (1 + k1)).setCell ⟨db, 1, none⟩ (.iface bt ba)) db 1027 1).setCell (i := 1027) (by omega) (by omega) v
                      refine ⟨rfl, [], _, [], true, (HD1.out.drewN (1 + k1)).ended (st1 _) (World.cell?_setCell_same _ _ _ f1) (st2 _) ?_, HT1.out, rfl, ((HS1.out.drewN (1 + k1)).wrote (st1 _) hB1).wrote (st2 _) hB1⟩
                      rw [← HN1.out]
                      exact World.cell?_setCell_same _ _ _ (((st1 _).cell (HD1.out.drewN (1 + k1)).room (by omega)).trans f3)
                  · have hr0 : 0 < rest.length := List.length_pos_iff.2 hre
                    have hsr : Hid (Room (wr.setCell ⟨db, 1027, none⟩ (.int .i64 (u : Int))).drew sb 2) := HSL.out.room
                    have hsm := Lib.hid (slow_more sb q pc db (3 + u) (1024 - u) (1024 - u) rest (wr.setCell ⟨db, 1027, none⟩ (.int .i64 (u : Int))).drew ⟨HSL.out.room, HSL.out.s0, HSL.out.s1⟩ hpc (hrW.mono_ (by omega)) n1 n2 n3 hr0 (by omega) (Nat.le_refl _) (by unfold maxLen; omega) (by unfold maxLen; omega))
                    clear hre
                    go_wp2
                    go_region_held (fun w' => w'.cell? ⟨db, 2, none⟩ = some (.iface 60 (.pointer (some ⟨sb, 0, none⟩))) ∧ w'.cell? ⟨db, 1027, none⟩ = some (.int .i64 (u : Int)))
                      (first | go_keep | (exact ⟨f2, f3⟩) | (exact ⟨g2, g3⟩) | (exact ⟨(((Wrote.refl _ db 1 1).setCell (i := 1) (by omega) (by omega) _).cell rW1 (by omega)).trans g2, (((Wrote.refl _ db 1 1).setCell (i := 1) (by omega) (by omega) _).cell rW1 (by omega)).trans g3⟩))
                      ((go_at_call 57; refine hsm.out.mono ?_; rintro e w1 ⟨N, hN1, hN2, hN3, rfl, ⟨wa, hwa, hwb⟩, hhx, hsw⟩
                        have rWa := hrW.wrote_ hwa; have rSb := hsr.out.wrote_ hwa; have rW1 := rWa.wrote_ hwb
                        have g1 : w1.cell? ⟨db, 1, none⟩ = some .nilIface := (hwb.cell rSb (.inl (Ne.symm n1))).trans ((hwa.cell hrW (by omega)).trans f1)
                        have g2 : w1.cell? ⟨db, 2, none⟩ = some (.iface 60 (.pointer (some ⟨sb, 0, none⟩))) := (hwb.cell rSb (.inl (Ne.symm n1))).trans ((hwa.cell hrW (by omega)).trans f2)
                        have g3 : w1.cell? ⟨db, 1027, none⟩ = some (.int .i64 (u : Int)) := (hwb.cell rSb (.inl (Ne.symm n1))).trans ((hwa.cell hrW (by omega)).trans f3)
                        have fz2 := fun i => rW1.frozen i))
                    have hnN : u + N ≤ 1024 := by omega
                    go_wp2
                    go_roundg (todo [] (rest.drop N) false)
                    case measure => rw [← HK.out]; first | (simp [todo]; done) | (simp [todo]; omega)
                    case rel =>
                      have hnb := HN1.out
                      subst hnb
                      have st1 := fun v => (Wrote.refl w1 db 1 1).setCell (i := 1) (by omega) (by omega) v
                      have st2 := fun v => (Wrote.refl (w1.setCell ⟨db, 1, none⟩ .nilIface) db 1027 1).setCell (i := 1027) (by omega) (by omega) v
                      refine ⟨rfl, [], sift bf ++ rest.take N, rest.drop N, false, HD1.out.drew.more hwa hwb hhx hsw (st1 _) (World.cell?_setCell_same _ _ _ g1) (st2 _) ?_ hN3 hnN, tot_more HT1.out N, rfl, ((((HS1.out.drew).wrote hwa hB1).wrote hwb hB2).wrote (st1 _) hB1).wrote (st2 _) hB1⟩
                      rw [Int.natCast_add]
                      exact World.cell?_setCell_same _ _ _ (((st1 _).cell rW1 (by omega)).trans g3)
            · simp only [if_true] at e1
              go_wp2
              go_region_held (fun w' => w'.cell? ⟨db, 1027, none⟩ = some (.int .i64 (n : Int)) ∧ w'.cell? ⟨db, 1, none⟩ = some (.iface bt ba))
                (first | go_keep | (exact ⟨(hw1.cell hrd (by omega)).trans e3, (hw1.cell hrd (by omega)).trans e1⟩) | (exact ⟨(((Wrote.refl w1 db 0 1).setCell (i := 0) (by omega) (by omega) _).cell (hrd.wrote_ hw1) (by omega)).trans ((hw1.cell hrd (by omega)).trans e3), (((Wrote.refl w1 db 0 1).setCell (i := 0) (by omega) (by omega) _).cell (hrd.wrote_ hw1) (by omega)).trans ((hw1.cell hrd (by omega)).trans e1)⟩))
                ((go_at_call 17; refine (decode_any db 1029 1024 1024 (some ⟨db, 3, none⟩) n 1024 bf true wr.drew hrd2 hfar.out (Nat.le_refl _) hmx).mono ?_; rw [HDEC.out]; rintro e w1 ⟨rfl, hw1, hh1⟩; have f0 : w1.cell? ⟨db, 0, none⟩ = some .nilIface := (hw1.cell hrd (by omega)).trans e0; have f1 : w1.cell? ⟨db, 1, none⟩ = some (.iface bt ba) := (hw1.cell hrd (by omega)).trans e1; have f3 : w1.cell? ⟨db, 1027, none⟩ = some (.int .i64 (n : Int)) := (hw1.cell hrd (by omega)).trans e3; have f4 : w1.cell? ⟨db, 1028, none⟩ = some (.slice S 0 c2) := (hw1.cell hrd (by omega)).trans e4; have fz1 := fun i => (hrd.wrote_ hw1).frozen i; simp only [errV]))
              have hw2 : Wrote wr w1 db 1029 1024 := ⟨hw1.os, hw1.tape, hw1.output, hw1.size, hw1.block, hw1.row⟩
              have hst := fun v => (Wrote.refl w1 db 0 1).setCell (i := 0) (by omega) (by omega) v
              have r1 : Room w1 db 2053 := hrd.wrote_ hw1
              have st0 := hst .nilIface
              have q0 : (w1.setCell ⟨db, 0, none⟩ .nilIface).cell? ⟨db, 0, none⟩ = some .nilIface := World.cell?_setCell_same _ _ _ f0
              have hhb : Has w1 db 3 bf := hbf.out.out_ hw1 hrd (by rw [← HN.out]; omega)
              obtain ⟨w2, hw2e⟩ : ∃ w2, w1.setCell ⟨db, 0, none⟩ .nilIface = w2 := ⟨_, rfl⟩
              rw [hw2e] at st0 q0 ⊢
              clear hw2e hst
              have r2 := r1.wrote_ st0
              have q1 : w2.cell? ⟨db, 1, none⟩ = some (.iface bt ba) := (st0.cell r1 (by omega)).trans f1
              have q2 : w2.cell? ⟨db, 2, none⟩ = some (.iface 60 (.pointer (some ⟨sb, 0, none⟩))) := (st0.cell r1 (by omega)).trans ((hw1.cell hrd (by omega)).trans e2)
              have q3 : w2.cell? ⟨db, 1027, none⟩ = some (.int .i64 (n : Int)) := (st0.cell r1 (by omega)).trans f3
              have hh2 : Hid (Has w2 db 3 bf) := hhb.out_ st0 r1 (by omega)
              have fz2 := fun i => r2.frozen i
              clear e0 e1 e2 e3 e4 fz f0 f1 f3 f4 fz1 hhb
              go_wp2
              go_loopg [9, 10] n (fun k s9 s10 wv => ∃ (i u : Nat), s10 = .int .i64 (i : Int) ∧ s9 = .int .i64 (u : Int) ∧ i + k = n ∧ u ≤ i ∧ Hid ((sift (bf.take i)).length = u) ∧ Wrote w2 wv db 3 1024 ∧ Has wv db 3 (sift (bf.take i)) ∧ Has wv db (3 + i) (bf.drop i))
              case atStart => exact ⟨0, 0, rfl, rfl, by omega, by omega, by simp [Hid, sift], Wrote.refl _ _ _ _, by simpa [sift] using Has.nil, by simpa using hh2.out⟩
              case round =>
                obtain ⟨i, u, rfl, rfl, hik, hui, hul, hwv, hha, hhb⟩ := hrel
                have rW := r2.wrote_ hwv
                have fzv := fun i => rW.frozen i
                have v0 := (hwv.cell (i := 0) r2 (.inr (by omega))).trans q0
                have v1 := (hwv.cell (i := 1) r2 (.inr (by omega))).trans q1
                have v2 := (hwv.cell (i := 2) r2 (.inr (by omega))).trans q2
                have v3 := (hwv.cell (i := 1027) r2 (.inr (by omega))).trans q3
                by_cases hin : i < n
                · obtain ⟨x, hx⟩ : ∃ x, bf.getD i 0 = x := ⟨_, rfl⟩
                  have hxb := HD.out.bb.getD i
                  have vx : wr.cell? ⟨db, 3 + i, none⟩ = some (.int .u8 x) := by
                    have := hhb 0 (by rw [List.length_drop, ← HN.out]; omega)
                    rw [Nat.add_zero] at this
                    rw [this, ← hx]
                    simp [List.getD, List.getElem?_drop]
                  have htk := sift_take (bf := bf) (i := i) (by rw [← HN.out]; exact hin)
                  rw [hx] at hxb htk
                  have HTK := Lib.hid htk
                  clear hx htk
                  by_cases hb : x ≤ 32
                  · go_wp2
                    go_roundg (n - (i + 1))
                    case measure => omega
                    case rel =>
                      have ht := HTK.out
                      rw [if_pos hb] at ht
                      exact ⟨i + 1, u, (by go_num), rfl, by omega, by omega, by rw [ht]; exact hul, hwv, by rw [ht]; exact hha, hhb.next⟩
                  · obtain ⟨vv, vu⟩ := rW.cell (i := 3 + u) (by omega)
                    go_wp2
                    go_region
                    all_goals
                      go_wp2
                      go_roundg (n - (i + 1))
                      case measure => omega
                      case rel =>
                        have ht := HTK.out
                        rw [if_neg (by omega)] at ht
                        have hwd : Wrote w2 wr.drew db 3 1024 := ⟨hwv.os, hwv.tape, hwv.output, hwv.size, hwv.block, hwv.row⟩
                        have rWd : Room wr.drew db 2053 := rW
                        have stu := fun v => (Wrote.refl wr.drew db (3 + u) 1).setCell (i := 3 + u) (by omega) (by omega) v
                        have hha' : Has wr.drew db 3 (sift (bf.take i)) := hha
                        have hhb' : Has wr.drew db (3 + i) (bf.drop i) := hhb
                        have vu' : wr.drew.cell? ⟨db, 3 + u, none⟩ = some vv := vu
                        have hul' := hul.out
                        refine ⟨i + 1, u + 1, (by go_num), (by go_num), by omega, by omega, by rw [ht, Hid, List.length_append, hul']; rfl, hwd.setCell (i := 3 + u) (by omega) (by omega) _, ?_, hhb'.next.out_ (stu _) rWd (by omega)⟩
                        rw [ht]
                        refine (hha'.out_ (stu _) rWd (by omega)).append (Has.cons ?_ Has.nil)
                        rw [hul']
                        exact World.cell?_setCell_same _ _ _ vu'
                · obtain rfl : i = n := by omega
                  have htb : bf.take i = bf := List.take_of_length_le (by rw [← HN.out]; exact Nat.le_refl _)
                  rw [htb] at hul hha
                  have hu4 : u ≤ 4 := by rw [← hul.out]; exact HS4.out
                  have st5 := fun v => (Wrote.refl wr db 1027 1).setCell (i := 1027) (by omega) (by omega) v
                  have HD1 := Lib.hid (HD.out.sifted hw2 st0 q0 hwv hha (st5 (.int .i64 (u : Int))) (World.cell?_setCell_same _ _ _ v3) hul.out (by omega) (sift_allbytes HD.out.bb))
                  have HS1 := Lib.hid (((HS.out.wrote hw2 hB1).wrote st0 hB1).wrote hwv hB1 |>.wrote (st5 (.int .i64 (u : Int))) hB1)
                  have HT1 := Lib.hid (tot_sift HT.out)
                  have HN1 : Hid (u = (sift bf).length) := hul.out.symm
                  have hrW : Room (wr.setCell ⟨db, 1027, none⟩ (.int .i64 (u : Int))).drew db 2053 := HD1.out.room
                  have f0 := HD1.out.c0
                  have f1 := HD1.out.c1
                  have f2 := HD1.out.c2
                  have f3 := HD1.out.c3
                  simp only [if_true] at f1
                  rw [← HN1.out] at f3
                  have fzW := fun i => HD1.out.room.frozen i
                  have HZ : Hid (T = some []) := by rw [Hid, ← HT1.out, HD.out.sub rfl, HSE.out trivial]; rfl
                  go_wp2
                  go_quiet (fail)
                  go_wp2
                  go_ret2
                  exact ⟨((HS1.out).wrote ((Wrote.refl _ db 0 1).setCell (i := 0) (by omega) (by omega) _) hB1).drewN _, .inr (.inl ⟨rfl, HZ.out⟩)⟩
          · obtain ⟨m, hm⟩ : ∃ m, m = out.length := ⟨_, rfl⟩
            have hm1 : 0 < m := by rw [hm]; exact List.length_pos_iff.2 hout
            rw [← hm] at hlen
            have HM := Lib.hid hm
            have HOUT := Lib.hid hout
            have hs3 := fun W => slice72_to W db 1029 m hlen
            obtain ⟨D, hD⟩ : ∃ D, (some (if 1024 = nsrc then (⟨db, 3, none⟩ : Addr) else ⟨db, 3 + nsrc, none⟩)) = D := ⟨_, rfl⟩
            have hs4 := fun W => slice72 W db 3 nsrc n hns hnl
            rw [hD] at hs4
            have PD : Hid (nsrc < n → D = some ⟨db, 3 + nsrc, none⟩) := fun h => by rw [← hD, if_neg (by omega)]
            obtain ⟨M, hM⟩ : ∃ M, M = (bf.drop nsrc).length := ⟨_, rfl⟩
            have hMn : M = n - nsrc := by rw [hM, List.length_drop, HN.out]
            have P1 : Hid ((bf.drop nsrc).length = Nat.min (n - nsrc) 1024) := by show _ = min (n - nsrc) 1024; rw [← hM]; omega
            have P4 : Hid (M = (bf.drop nsrc).length) := hM
            have P5 : Hid (M = n - nsrc ∧ M ≤ 1024) := ⟨hMn, by omega⟩
            have hMl : 3 + M ≤ 1027 := by omega
            clear hM hMn hm hout hdec hD
            cases eof
            · simp only [Bool.false_eq_true, if_false] at e1
              go_wp2
              go_region_held (fun w' => w'.cell? ⟨db, 1027, none⟩ = some (.int .i64 (n : Int)) ∧ w'.cell? ⟨db, 1, none⟩ = some .nilIface)
                (first | go_keep | (exact ⟨(hw1.cell hrd (by omega)).trans e3, (hw1.cell hrd (by omega)).trans e1⟩) | (exact ⟨(((Wrote.refl w1 db 0 1).setCell (i := 0) (by omega) (by omega) _).cell (hrd.wrote_ hw1) (by omega)).trans ((hw1.cell hrd (by omega)).trans e3), (((Wrote.refl w1 db 0 1).setCell (i := 0) (by omega) (by omega) _).cell (hrd.wrote_ hw1) (by omega)).trans ((hw1.cell hrd (by omega)).trans e1)⟩))
                ((go_at_call 17; refine (decode_any db 1029 1024 1024 (some ⟨db, 3, none⟩) n 1024 bf false wr.drew hrd2 hfar.out (Nat.le_refl _) hmx).mono ?_; rw [HDEC.out]; dsimp only; rw [← HM.out]; rintro e w1 ⟨rfl, hw1, hh1⟩; have f0 : w1.cell? ⟨db, 0, none⟩ = some .nilIface := (hw1.cell hrd (by omega)).trans e0; have f1 : w1.cell? ⟨db, 1, none⟩ = some .nilIface := (hw1.cell hrd (by omega)).trans e1; have f3 : w1.cell? ⟨db, 1027, none⟩ = some (.int .i64 (n : Int)) := (hw1.cell hrd (by omega)).trans e3; have f4 : w1.cell? ⟨db, 1028, none⟩ = some (.slice S 0 c2) := (hw1.cell hrd (by omega)).trans e4; have fz1 := fun i => (hrd.wrote_ hw1).frozen i; simp only [errV]))
              have hw2 : Wrote wr w1 db 1029 1024 := ⟨hw1.os, hw1.tape, hw1.output, hw1.size, hw1.block, hw1.row⟩
              have hst := fun v => (Wrote.refl w1 db 0 1).setCell (i := 0) (by omega) (by omega) v
              have r1 := hrd.wrote_ hw1
              have st3 := fun v => (Wrote.refl (w1.setCell ⟨db, 0, none⟩ .nilIface) db 1028 1).setCell (i := 1028) (by omega) (by omega) v
              have r2 := r1.wrote_ (hst .nilIface)
              have r3 := r2.wrote_ (st3 (.slice (some ⟨db, 1029, none⟩) m 1024))
              have P2' : Has ((w1.setCell ⟨db, 0, none⟩ .nilIface).setCell ⟨db, 1028, none⟩ (.slice (some ⟨db, 1029, none⟩) m 1024)) db (3 + nsrc) (bf.drop nsrc) :=
                (((hbf.out.drop nsrc).out_ hw1 hrd (by have := P4.out; have := P5.out; omega)).out_ (hst .nilIface) r1 (by omega)).out_ (st3 _) r2 (by have := P4.out; have := P5.out; omega)
              have P2 : Hid (Has ((w1.setCell ⟨db, 0, none⟩ .nilIface).setCell ⟨db, 1028, none⟩ (.slice (some ⟨db, 1029, none⟩) m 1024)).drew db (3 + nsrc) (bf.drop nsrc)) := P2'
              clear P2'
              have r3d : Room ((w1.setCell ⟨db, 0, none⟩ .nilIface).setCell ⟨db, 1028, none⟩ (.slice (some ⟨db, 1029, none⟩) m 1024)).drew db 2053 := r3
              have g4 : (w1.setCell ⟨db, 0, none⟩ .nilIface).cell? ⟨db, 1028, none⟩ = some (.slice S 0 c2) := ((hst _).cell r1 (by omega)).trans f4
              have g3 : ((w1.setCell ⟨db, 0, none⟩ .nilIface).setCell ⟨db, 1028, none⟩ (.slice (some ⟨db, 1029, none⟩) m 1024)).cell? ⟨db, 1027, none⟩ = some (.int .i64 (n : Int)) := ((st3 _).cell r2 (by omega)).trans (((hst _).cell r1 (by omega)).trans f3)
              have P3 : Hid (Room ((w1.setCell ⟨db, 0, none⟩ .nilIface).setCell ⟨db, 1028, none⟩ (.slice (some ⟨db, 1029, none⟩) m 1024)).drew db (3 + (bf.drop nsrc).length)) := r3d.mono_ (by rw [← P4.out]; omega)
              clear e0 e1 e2 e3 e4 fz
              go_wp2
              go_region_law (refine step_cp rfl (.tmp 88) (.tmp 97) rfl (xs := bf.drop nsrc) (g := db) (off := 3) rfl rfl P1.out (fun _ => rfl) (fun hx => ⟨db, 3 + nsrc, PD.out (by rw [← P4.out] at hx; have := P5.out; omega), P2.out⟩) P3.out M P4.out ?_; intro w3 hw3 hh3; have r4 := r3d.wrote_ hw3; have g5 : w3.cell? ⟨db, 1027, none⟩ = some (.int .i64 (n : Int)) := (hw3.cell r3d (by omega)).trans g3; have fz4 := fun i => r4.frozen i)
              all_goals
                have hw4 : Wrote ((w1.setCell ⟨db, 0, none⟩ .nilIface).setCell ⟨db, 1028, none⟩ (.slice (some ⟨db, 1029, none⟩) m 1024)) w3 db 3 M := ⟨hw3.os, hw3.tape, hw3.output, hw3.size, hw3.block, hw3.row⟩
                have st5 := fun v => (Wrote.refl w3 db 1027 1).setCell (i := 1027) (by omega) (by omega) v
                go_wp2
                go_roundg 0
                case measure => rw [← HK.out]; first | (simp [todo]; done) | (simp [todo]; omega)
                case rel =>
                  refine ⟨rfl, out, bf.drop nsrc, rest, false, HD.out.decoded hw2 hh1 (hst _) (World.cell?_setCell_same _ _ _ f0) (st3 _) ?_ hw4 hh3 (st5 _) (World.cell?_setCell_same _ _ _ g5) P4.out.symm P5.out.2 (by rw [← HM.out]; exact hlen) HBY.out (HD.out.bb.drop nsrc), tot_step HT.out HRUN.out, by unfold todo; rw [if_neg HOUT.out],
                    ((((HS.out.wrote hw2 hB1).wrote (hst _) hB1).wrote (st3 _) hB1).wrote hw4 hB1).wrote (st5 _) hB1⟩
                  rw [World.cell?_setCell_same _ _ _ g4, HM.out]
            · simp only [if_true] at e1
              go_wp2
              go_region_held (fun w' => w'.cell? ⟨db, 1027, none⟩ = some (.int .i64 (n : Int)) ∧ w'.cell? ⟨db, 1, none⟩ = some (.iface bt ba))
                (first | go_keep | (exact ⟨(hw1.cell hrd (by omega)).trans e3, (hw1.cell hrd (by omega)).trans e1⟩) | (exact ⟨(((Wrote.refl w1 db 0 1).setCell (i := 0) (by omega) (by omega) _).cell (hrd.wrote_ hw1) (by omega)).trans ((hw1.cell hrd (by omega)).trans e3), (((Wrote.refl w1 db 0 1).setCell (i := 0) (by omega) (by omega) _).cell (hrd.wrote_ hw1) (by omega)).trans ((hw1.cell hrd (by omega)).trans e1)⟩))
                ((go_at_call 17; refine (decode_any db 1029 1024 1024 (some ⟨db, 3, none⟩) n 1024 bf true wr.drew hrd2 hfar.out (Nat.le_refl _) hmx).mono ?_; rw [HDEC.out]; dsimp only; rw [← HM.out]; rintro e w1 ⟨rfl, hw1, hh1⟩; have f0 : w1.cell? ⟨db, 0, none⟩ = some .nilIface := (hw1.cell hrd (by omega)).trans e0; have f1 : w1.cell? ⟨db, 1, none⟩ = some (.iface bt ba) := (hw1.cell hrd (by omega)).trans e1; have f3 : w1.cell? ⟨db, 1027, none⟩ = some (.int .i64 (n : Int)) := (hw1.cell hrd (by omega)).trans e3; have f4 : w1.cell? ⟨db, 1028, none⟩ = some (.slice S 0 c2) := (hw1.cell hrd (by omega)).trans e4; have fz1 := fun i => (hrd.wrote_ hw1).frozen i; simp only [errV]))
              have hw2 : Wrote wr w1 db 1029 1024 := ⟨hw1.os, hw1.tape, hw1.output, hw1.size, hw1.block, hw1.row⟩
              have hst := fun v => (Wrote.refl w1 db 0 1).setCell (i := 0) (by omega) (by omega) v
              have r1 := hrd.wrote_ hw1
              have st3 := fun v => (Wrote.refl (w1.setCell ⟨db, 0, none⟩ .nilIface) db 1028 1).setCell (i := 1028) (by omega) (by omega) v
              have r2 := r1.wrote_ (hst .nilIface)
              have r3 := r2.wrote_ (st3 (.slice (some ⟨db, 1029, none⟩) m 1024))
              have P2' : Has ((w1.setCell ⟨db, 0, none⟩ .nilIface).setCell ⟨db, 1028, none⟩ (.slice (some ⟨db, 1029, none⟩) m 1024)) db (3 + nsrc) (bf.drop nsrc) :=
                (((hbf.out.drop nsrc).out_ hw1 hrd (by have := P4.out; have := P5.out; omega)).out_ (hst .nilIface) r1 (by omega)).out_ (st3 _) r2 (by have := P4.out; have := P5.out; omega)
              have P2 : Hid (Has ((w1.setCell ⟨db, 0, none⟩ .nilIface).setCell ⟨db, 1028, none⟩ (.slice (some ⟨db, 1029, none⟩) m 1024)).drew db (3 + nsrc) (bf.drop nsrc)) := P2'
              clear P2'
              have r3d : Room ((w1.setCell ⟨db, 0, none⟩ .nilIface).setCell ⟨db, 1028, none⟩ (.slice (some ⟨db, 1029, none⟩) m 1024)).drew db 2053 := r3
              have g4 : (w1.setCell ⟨db, 0, none⟩ .nilIface).cell? ⟨db, 1028, none⟩ = some (.slice S 0 c2) := ((hst _).cell r1 (by omega)).trans f4
              have g3 : ((w1.setCell ⟨db, 0, none⟩ .nilIface).setCell ⟨db, 1028, none⟩ (.slice (some ⟨db, 1029, none⟩) m 1024)).cell? ⟨db, 1027, none⟩ = some (.int .i64 (n : Int)) := ((st3 _).cell r2 (by omega)).trans (((hst _).cell r1 (by omega)).trans f3)
              have P3 : Hid (Room ((w1.setCell ⟨db, 0, none⟩ .nilIface).setCell ⟨db, 1028, none⟩ (.slice (some ⟨db, 1029, none⟩) m 1024)).drew db (3 + (bf.drop nsrc).length)) := r3d.mono_ (by rw [← P4.out]; omega)
              clear e0 e1 e2 e3 e4 fz
              go_wp2
              go_region_law (refine step_cp rfl (.tmp 88) (.tmp 97) rfl (xs := bf.drop nsrc) (g := db) (off := 3) rfl rfl P1.out (fun _ => rfl) (fun hx => ⟨db, 3 + nsrc, PD.out (by rw [← P4.out] at hx; have := P5.out; omega), P2.out⟩) P3.out M P4.out ?_; intro w3 hw3 hh3; have r4 := r3d.wrote_ hw3; have g5 : w3.cell? ⟨db, 1027, none⟩ = some (.int .i64 (n : Int)) := (hw3.cell r3d (by omega)).trans g3; have fz4 := fun i => r4.frozen i)
              all_goals
                have hw4 : Wrote ((w1.setCell ⟨db, 0, none⟩ .nilIface).setCell ⟨db, 1028, none⟩ (.slice (some ⟨db, 1029, none⟩) m 1024)) w3 db 3 M := ⟨hw3.os, hw3.tape, hw3.output, hw3.size, hw3.block, hw3.row⟩
                have st5 := fun v => (Wrote.refl w3 db 1027 1).setCell (i := 1027) (by omega) (by omega) v
                go_wp2
                go_roundg 0
                case measure => rw [← HK.out]; first | (simp [todo]; done) | (simp [todo]; omega)
                case rel =>
                  refine ⟨rfl, out, bf.drop nsrc, rest, true, HD.out.decoded hw2 hh1 (hst _) (World.cell?_setCell_same _ _ _ f0) (st3 _) ?_ hw4 hh3 (st5 _) (World.cell?_setCell_same _ _ _ g5) P4.out.symm P5.out.2 (by rw [← HM.out]; exact hlen) HBY.out (HD.out.bb.drop nsrc), tot_step HT.out HRUN.out, by unfold todo; rw [if_neg HOUT.out],
                    ((((HS.out.wrote hw2 hB1).wrote (hst _) hB1).wrote (st3 _) hB1).wrote hw4 hB1).wrote (st5 _) hB1⟩
                  rw [World.cell?_setCell_same _ _ _ g4, HM.out]
    · have hop : 0 < o.length := List.length_pos_iff.2 ho
      obtain ⟨k, rfl, k1, k2, hh⟩ := hox hop
      obtain ⟨R, hR⟩ : ∃ R, R = o.length := ⟨_, rfl⟩
      obtain ⟨N, hN⟩ : ∃ N, N = min R L := ⟨_, rfl⟩
      rw [← hR] at e4 hol hop k2
      unfold maxLen at hoc
      have hN1 : 1 ≤ N := by omega
      have hNR : N ≤ R := by omega
      have hNL : N ≤ L := by omega
      have P1 : Hid ((o.take N).length = Nat.min R L) := by show _ = min R L; rw [List.length_take, ← hR, hN]; omega
      have P2 : Hid ((o.take N).length = N) := by unfold Hid; rw [List.length_take, ← hR]; omega
      have P3 : Hid (Has wr db k (o.take N)) := hh.take N
      have hrg : Room wr g (off + L) := HS.out.room _ hr
      obtain ⟨D, cD, hD⟩ : ∃ D cD, (Value.slice (if c2 = N then (some ⟨db, k, none⟩ : Option Addr) else (some ⟨db, k, none⟩ : Option Addr).map (·.add N)) (R - N) (c2 - N)) = .slice D (R - N) cD := ⟨_, _, rfl⟩
      have hNc : N ≤ c2 := by omega
      have hrs : ∀ W, (Instr.slice 22 (.slice (some ⟨db, k, none⟩) R c2) (some (.int .i64 (N : Int))) none none).run Tryd.prog W = .ok (.slice D (R - N) cD) W := by
        intro W
        rw [← hD]
        have hs : ∀ w : World, (sizeOf (Tryd.prog.elem 22)).run Tryd.prog w = .ok 1 w := fun w => by kernel_rfl
        rw [run_slice_l (P := Tryd.prog) W 22 (some ⟨db, k, none⟩) R c2 (by kernel_rfl) .i64 (N : Int) (by omega) (by omega), hs]
        simp [sliced, Result.andThen]
      have HE : Hid (cD = c2 - N ∧ (N < o.length → D = some ⟨db, k + N, none⟩)) := by
        rw [← hR]
        simp only [Value.slice.injEq, true_and] at hD
        refine ⟨hD.2.symm, fun h => ?_⟩
        rw [← hD.1, if_neg (by omega), Option.map_some, add_off]
      have HR := Lib.hid hR
      have HO := Lib.hid hh
      have HOB := Lib.hid hob
      clear hD hR hN hh hob ho hox
      go_wp2_with (refine wpList_cp rfl (.tmp 29) (.tmp 33) rfl (xs := o.take N) (g := g) (off := off) rfl rfl P1.out (fun _ => rfl) (fun _ => ⟨db, k, rfl, P3.out⟩) (hrg.mono_ (by rw [P2.out]; omega)) N P2.out.symm ?_; intro w1 hw1 hh1; have hr1 := HD.out.room.wrote_ hw1; have e4' := (hw1.cell hrg (.inl (Ne.symm h1))).trans e4; have fz' := fun i => hr1.frozen i; refine Hid.out ?_)
      refine Lib.hid ?_
      clear e0 e3 e4 fz
      go_wp2
      go_ret2
      have hst := fun v => (Wrote.refl w1 db 1028 1).setCell (i := 1028) (by omega) (by omega) v
      have hR := HR.out
      exact ⟨(HS.out.wrote hw1 hB3).wrote (hst _) hB1, .inl ⟨N, o.take N, o.drop N, bf, rest, eof, rfl, hN1, hNL, P2.out, HOB.out.take N, hh1.far (hst _) hr1 h1,
        (HD.out.other hw1 hrg h1 h2 h3).given (k := k) (c := c2) (hst _) (by rw [World.cell?_setCell_same _ _ _ e4', hR]) (by omega) (by unfold maxLen; omega) (by omega) HE.out k1 (by omega) (HO.out.far hw1 hrg (Ne.symm h1)), tot_given HT.out N⟩⟩
end Go.Proofs.YtfonpcfcelahdaaDoor
