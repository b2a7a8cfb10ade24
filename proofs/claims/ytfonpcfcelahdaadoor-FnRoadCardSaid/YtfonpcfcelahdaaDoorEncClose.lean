/-
  What the encoder's Close does.
-/
import Derived.Test.YtfonpcfcelahdaaDoorEncSt
import Derived.Deep.RegionWith
import Derived.Deep.RegionHeld
namespace Go.Proofs.YtfonpcfcelahdaaDoor
open Go.RowKit

set_option maxRecDepth 100000 in
set_option maxHeartbeats 4000000 in
theorem encClose_any (eb bb : Nat) (v : Value) (done buf : List Int) (w : World) (h : ESt w eb bb v done buf) (hd : done.length ≤ 100000) :
    Calls Tryd.prog 59 #[.pointer (some ⟨eb, 0, none⟩)] w fun e w' => e = .returned .nilIface ∧ ∃ v', BSt w' bb v' (enc (done ++ buf)) ∧ Nxt w v v' ∧ Frm (EMine eb bb v) w w' := by
  have e0 := h.c0
  have e1 := h.c1
  have e6 := h.c6
  have fz := fun i => h.room.frozen i
  have hbl := h.blen
  obtain ⟨n, hn⟩ : ∃ n, n = buf.length := ⟨_, rfl⟩
  rw [← hn] at e6 hbl
  have H := Lib.hid h
  have HN := Lib.hid hn
  clear h hn
  by_cases hn0 : n ≤ 0
  · have hbu : Hid (buf = []) := List.eq_nil_of_length_eq_zero (by have := HN.out; omega)
    go_enter Tryd.func59, Tryd.ntmps59
    go_wp2
    go_ret
    exact ⟨rfl, v, by rw [hbu.out, List.append_nil]; exact H.out.bst, Nxt.refl _ _, Frm.refl _ _⟩
  · have hs1 := fun W => slice72_all W eb 7
    have hs2 := fun W => slice71_to W eb 2 n (by omega)
    have hfar : Far w.drew eb 7 1024 (some ⟨eb, 2, none⟩) n 4 buf := ⟨HN.out.symm, by omega, by unfold maxLen; omega, H.out.bbs, fun _ => ⟨eb, 2, rfl, by omega, fun i hi => H.out.hbuf i (by rw [← HN.out]; exact hi)⟩⟩
    have hE := Lib.hid (encode_any eb 7 1024 1024 (some ⟨eb, 2, none⟩) n 4 buf w.drew (H.out.room.mono_ (by omega)) hfar (by omega) (by omega) (Nat.le_refl _) (by unfold maxLen; omega))
    have hel := enc_le buf
    have hep := enc_pos (a := buf) (by rw [← HN.out]; omega)
    rw [← HN.out] at hel
    obtain ⟨m, hm⟩ : ∃ m, m = (enc buf).length := ⟨_, rfl⟩
    rw [← hm] at hel hep hE
    have HM := Lib.hid hm
    have hrW : Room w.drew eb 1031 := H.out.room
    have hs3 := fun W => slice72_to W eb 7 m (by omega)
    clear hfar hm
    go_enter Tryd.func59, Tryd.ntmps59
    go_wp2
    go_region_held (fun w' => w'.cell? ⟨eb, 6, none⟩ = some (.int .i64 (n : Int)))
      (first | go_keep | (exact (hw1.cell hrW (by omega)).trans e6))
      ((go_at_call 61; refine hE.out.mono ?_; rintro e w1 ⟨rfl, hw1, hh1⟩
        have f0 : w1.cell? ⟨eb, 0, none⟩ = some .nilIface := (hw1.cell hrW (by omega)).trans e0
        have f1 : w1.cell? ⟨eb, 1, none⟩ = some (.iface 52 (.pointer (some ⟨bb, 0, none⟩))) := (hw1.cell hrW (by omega)).trans e1
        have f6 : w1.cell? ⟨eb, 6, none⟩ = some (.int .i64 (n : Int)) := (hw1.cell hrW (by omega)).trans e6
        have fz1 := fun i => (hrW.wrote_ hw1).frozen i))
    have r1 := hrW.wrote_ hw1
    have hw2 : Wrote w1 (w1.setCell ⟨eb, 6, none⟩ (.int .i64 0)) eb 6 1 := (Wrote.refl w1 eb 6 1).setCell (i := 6) (by omega) (by omega) _
    have r2 := r1.wrote_ hw2
    have hB2 : BSt (w1.setCell ⟨eb, 6, none⟩ (.int .i64 0)) bb v (enc done) := (H.out.bst.drew.wrote hw1 H.out.n1 H.out.n2).wrote hw2 H.out.n1 H.out.n2
    have hA2 : Has (w1.setCell ⟨eb, 6, none⟩ (.int .i64 0)) eb 7 (enc buf) := hh1.out_ hw2 r1 (by omega)
    have g1 : (w1.setCell ⟨eb, 6, none⟩ (.int .i64 0)).cell? ⟨eb, 1, none⟩ = some (.iface 52 (.pointer (some ⟨bb, 0, none⟩))) := (hw2.cell r1 (by omega)).trans f1
    have fz2 := fun i => r2.frozen i
    have hed := enc_le done
    have hBW := Lib.hid (bufWrite_any bb eb 7 m 1024 v (enc done) (enc buf) (w1.setCell ⟨eb, 6, none⟩ (.int .i64 0)).drew hB2.drew H.out.n1 hA2 HM.out.symm (enc_bytes H.out.bbs) hep (by
      by_cases h0 : done = []
      · exact .inr (H.out.first h0)
      · exact .inl (enc_pos (List.length_pos_iff.2 h0))) (by omega))
    have hF2 : Hid (Frm (EMine eb bb v) w (w1.setCell ⟨eb, 6, none⟩ (.int .i64 0)).drew) := (((Frm.refl _ w).drew.wrote hw1 (fun _ => .inl rfl)).wrote hw2 (fun _ => .inl rfl)).drew
    have R2 : Hid (Room (w1.setCell ⟨eb, 6, none⟩ (.int .i64 0)).drew eb 1031) := r2
    clear hw2 hB2 hA2 hh1 f0 f1 hed
    go_wp2
    go_region_held (fun w' => w'.cell? ⟨eb, 1, none⟩ = some (.iface 52 (.pointer (some ⟨bb, 0, none⟩))))
      (first | go_keep | (exact g1) | (exact k1) | (exact (((Wrote.refl _ eb 0 1).setCell (i := 0) (by omega) (by omega) _).cell r3 (by omega)).trans k1))
      ((go_at_call 50; refine hBW.out.mono ?_; rintro e w3 hp; obtain ⟨rfl, v', hb', hnx, hfr, hsame⟩ := hp.enc R2.out H.out.n1 H.out.n2
        have r3 := R2.out.same hsame
        have k1 : w3.cell? ⟨eb, 1, none⟩ = some (.iface 52 (.pointer (some ⟨bb, 0, none⟩))) := (cell_same hsame).trans g1
        obtain ⟨z0, k0⟩ := r3.cell (i := 0) (by omega)
        have fz3 := fun i => r3.frozen i))
    have hw4 : Wrote w3 (w3.setCell ⟨eb, 0, none⟩ .nilIface) eb 0 1 := (Wrote.refl w3 eb 0 1).setCell (i := 0) (by omega) (by omega) _
    have q0 : (w3.setCell ⟨eb, 0, none⟩ .nilIface).cell? ⟨eb, 0, none⟩ = some .nilIface := World.cell?_setCell_same _ _ _ k0
    go_wp2
    go_ret
    refine ⟨rfl, v', ?_, (Nxt.refl w v).trans hnx hF2.out.size, (hF2.out.trans hfr (fun i _ hm => .inr hm)).wrote hw4 (fun _ => .inl rfl)⟩
    rw [enc_app _ _ H.out.div]
    exact hb'.wrote hw4 H.out.n1 (hnx.ne H.out.n2 R2.out.lt)
end Go.Proofs.YtfonpcfcelahdaaDoor
