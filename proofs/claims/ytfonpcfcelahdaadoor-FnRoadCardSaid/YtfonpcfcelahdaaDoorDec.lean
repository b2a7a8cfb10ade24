/-
  What goascii85.Decode does.
-/
import Derived.Test.YtfonpcfcelahdaaDoorPlain2
import Derived.Test.YtfonpcfcelahdaaDoorWrote
import Derived.Test.YtfonpcfcelahdaaDoorEnc
import Derived.Deep.DeepCutAuto
namespace Go.Proofs.YtfonpcfcelahdaaDoor
open Go.RowKit

def errV : Option Nat → Value
  | none => .nilIface
  | some i => .iface 65 (.int .i64 (i : Int))

def DecRel (w : World) (b off dlen n : Nat) (xs : List Int) (s6 s7 s8 s9 s10 s17 : Value) (wr : World) : Prop :=
  ∃ (k nsrc nb : Nat) (out : List Int) (v : Int), s17 = .int .i64 (k : Int) ∧ s6 = .int .i64 (out.length : Nat) ∧ s7 = .int .i64 (nsrc : Int) ∧ s8 = .nilIface ∧ s9 = .int .u32 v ∧ s10 = .int .i64 (nb : Int) ∧
    k ≤ n ∧ nsrc ≤ n ∧ nb ≤ 4 ∧ 0 ≤ v ∧ v < 4294967296 ∧ out.length ≤ dlen ∧ (nb ≠ 0 → out.length + 4 ≤ dlen) ∧ Hid (scan dlen k out nsrc v nb (xs.drop k) = scan dlen 0 [] 0 0 0 xs) ∧ Wrote w wr b off dlen ∧ Has wr b off out

theorem four_stores {w : World} {b off len L : Nat} (hr : Room w b (off + len)) (hP : off + L + 4 ≤ off + len) (y0 y1 y2 y3 : Int) :
    Wrote w ((((w.setCell ⟨b, off + L, none⟩ (.int .u8 y0)).setCell ⟨b, off + (L + 1), none⟩ (.int .u8 y1)).setCell ⟨b, off + (L + 2), none⟩ (.int .u8 y2)).setCell ⟨b, off + (L + 3), none⟩ (.int .u8 y3)) b off len ∧
      Wrote w ((((w.setCell ⟨b, off + L, none⟩ (.int .u8 y0)).setCell ⟨b, off + (L + 1), none⟩ (.int .u8 y1)).setCell ⟨b, off + (L + 2), none⟩ (.int .u8 y2)).setCell ⟨b, off + (L + 3), none⟩ (.int .u8 y3)) b (off + L) 4 ∧
      Has ((((w.setCell ⟨b, off + L, none⟩ (.int .u8 y0)).setCell ⟨b, off + (L + 1), none⟩ (.int .u8 y1)).setCell ⟨b, off + (L + 2), none⟩ (.int .u8 y2)).setCell ⟨b, off + (L + 3), none⟩ (.int .u8 y3)) b (off + L) [y0, y1, y2, y3] := by
  have h4 : Wrote w ((((w.setCell ⟨b, off + L, none⟩ (.int .u8 y0)).setCell ⟨b, off + (L + 1), none⟩ (.int .u8 y1)).setCell ⟨b, off + (L + 2), none⟩ (.int .u8 y2)).setCell ⟨b, off + (L + 3), none⟩ (.int .u8 y3)) b (off + L) 4 :=
    ((((Wrote.refl w b (off + L) 4).setCell (by omega) (by omega) _).setCell (by omega) (by omega) _).setCell (by omega) (by omega) _).setCell (by omega) (by omega) _
  refine ⟨h4.mono (by omega) (by omega), h4, ?_⟩
  obtain ⟨v0, d0⟩ := hr.cell (i := off + L) (by omega)
  obtain ⟨v1, d1⟩ := hr.cell (i := off + (L + 1)) (by omega)
  obtain ⟨v2, d2⟩ := hr.cell (i := off + (L + 2)) (by omega)
  obtain ⟨v3, d3⟩ := hr.cell (i := off + (L + 3)) (by omega)
  refine Has.cons ?_ (Has.cons ?_ (Has.cons ?_ (Has.cons ?_ Has.nil)))
  all_goals simp [go_sem, d0, d1, d2, d3, Nat.add_assoc]

theorem three_stores {w : World} {b off len L : Nat} (hr : Room w b (off + len)) (hP : off + L + 4 ≤ off + len) (y0 y1 y2 : Int) :
    Wrote w (((w.setCell ⟨b, off + L, none⟩ (.int .u8 y0)).setCell ⟨b, off + (L + 1), none⟩ (.int .u8 y1)).setCell ⟨b, off + (L + 2), none⟩ (.int .u8 y2)) b (off + L) 4 ∧
      Has (((w.setCell ⟨b, off + L, none⟩ (.int .u8 y0)).setCell ⟨b, off + (L + 1), none⟩ (.int .u8 y1)).setCell ⟨b, off + (L + 2), none⟩ (.int .u8 y2)) b (off + L) [y0, y1, y2] := by
  refine ⟨(((Wrote.refl w b (off + L) 4).setCell (by omega) (by omega) _).setCell (by omega) (by omega) _).setCell (by omega) (by omega) _, ?_⟩
  obtain ⟨v0, d0⟩ := hr.cell (i := off + L) (by omega)
  obtain ⟨v1, d1⟩ := hr.cell (i := off + (L + 1)) (by omega)
  obtain ⟨v2, d2⟩ := hr.cell (i := off + (L + 2)) (by omega)
  refine Has.cons ?_ (Has.cons ?_ (Has.cons ?_ Has.nil))
  all_goals simp [go_sem, d0, d1, d2, Nat.add_assoc]
theorem two_stores {w : World} {b off len L : Nat} (hr : Room w b (off + len)) (hP : off + L + 4 ≤ off + len) (y0 y1 : Int) :
    Wrote w ((w.setCell ⟨b, off + L, none⟩ (.int .u8 y0)).setCell ⟨b, off + (L + 1), none⟩ (.int .u8 y1)) b (off + L) 4 ∧
      Has ((w.setCell ⟨b, off + L, none⟩ (.int .u8 y0)).setCell ⟨b, off + (L + 1), none⟩ (.int .u8 y1)) b (off + L) [y0, y1] := by
  refine ⟨((Wrote.refl w b (off + L) 4).setCell (by omega) (by omega) _).setCell (by omega) (by omega) _, ?_⟩
  obtain ⟨v0, d0⟩ := hr.cell (i := off + L) (by omega)
  obtain ⟨v1, d1⟩ := hr.cell (i := off + (L + 1)) (by omega)
  refine Has.cons ?_ (Has.cons ?_ Has.nil)
  all_goals simp [go_sem, d0, d1, Nat.add_assoc]

theorem tail_2 (v : Int) : tail v 2 = [(((v * 85 + 84) % 4294967296 * 85 + 84) % 4294967296 * 85 + 84) % 4294967296 / 16777216] := by
  simp only [tail, pad, bytes4, List.take, List.cons.injEq, and_true]
  omega
theorem tail_3 (v : Int) : tail v 3 = [((v * 85 + 84) % 4294967296 * 85 + 84) % 4294967296 / 16777216, ((v * 85 + 84) % 4294967296 * 85 + 84) % 4294967296 * 256 % 4294967296 / 16777216] := by
  simp only [tail, pad, bytes4, List.take, List.cons.injEq, and_true]
  generalize (v * 85 + 84) % 4294967296 * 85 + 84 = p
  constructor <;> omega
theorem tail_4 (v : Int) : tail v 4 = [(v * 85 + 84) % 4294967296 / 16777216, (v * 85 + 84) % 4294967296 * 256 % 4294967296 / 16777216, (v * 85 + 84) % 4294967296 * 256 % 4294967296 * 256 % 4294967296 / 16777216] := by
  simp only [tail, pad, bytes4, List.take, List.cons.injEq, and_true]
  generalize v * 85 + 84 = p
  refine ⟨?_, ?_, ?_⟩ <;> omega

theorem bytes_more {v x : Int} (_hx : 33 ≤ x) : bytes4 (more v x) = [(v * 85 + (x - 33)) % 4294967296 / 16777216, (v * 85 + (x - 33)) % 4294967296 / 65536 % 256, (v * 85 + (x - 33)) % 4294967296 / 256 % 256, (v * 85 + (x - 33)) % 256] := by
  unfold bytes4 more
  simp only [List.cons.injEq, and_true, true_and]
  constructor <;> omega
theorem more_spelt (v x : Int) : Value.int .u32 ((v * 85 % 4294967296 + (x - 33)) % 4294967296) = .int .u32 (more v x) := by
  unfold more
  congr 1
  omega

theorem scan_on {R R' S : Res} (h : Hid (R = S)) (e : R = R') : Hid (R' = S) := by rw [← e]; exact h

set_option maxRecDepth 100000 in
set_option maxHeartbeats 4000000 in
theorem decode_any (b off dlen dcap : Nat) (A : Option Addr) (n c : Nat) (xs : List Int) (flush : Bool) (w : World) (hr : Room w b (off + dlen)) (h : Far w b off dlen A n c xs) (hdc : dlen ≤ dcap) (hcm : dcap ≤ maxLen) :
    Calls Tryd.prog 17 #[.slice (some ⟨b, off, none⟩) dlen dcap, .slice A n c, .bool flush] w fun e w' =>
      e = .returned (.tuple #[.int .i64 (decode dlen xs flush).1.length, .int .i64 (decode dlen xs flush).2.1, errV (decode dlen xs flush).2.2]) ∧ Wrote w w' b off dlen ∧ Has w' b off (decode dlen xs flush).1 := by
  have hnc := h.2.1
  have hcm2 := h.2.2.1
  have HX := Lib.hid h.1
  have HF := Lib.hid h
  unfold maxLen at hcm hcm2
  clear h
  go_enter Tryd.func17, Tryd.ntmps17
  go_wp2
  go_loopw [6, 7, 8, 9, 10, 17] (fun s6 s7 s8 s9 s10 s17 wr => DecRel w b off dlen n xs s6 s7 s8 s9 s10 s17 wr)
    (fun _ _ _ _ _ s17 _ => n - (intOf s17).toNat)
  case atStart => exact ⟨0, 0, 0, [], 0, rfl, rfl, rfl, rfl, rfl, rfl, by omega, by omega, by omega, by omega, by omega, by simp, (fun h => absurd rfl h), (by simp [Hid]), Wrote.refl _ _ _ _, Has.nil⟩
  case round =>
    obtain ⟨k, nsrc, nb, out, v, rfl, rfl, rfl, rfl, rfl, rfl, hk, hns, hnb, hv0, hv1, hol, hroom4, hsc, hw, hh⟩ := hrel
    have HR4 := Lib.hid hroom4
    clear hroom4
    by_cases hkn : k < n
    · obtain ⟨x, hx⟩ : ∃ x, xs.getD k 0 = x := ⟨_, rfl⟩
      have hxb := HF.out.2.2.2.1.getD k
      have hrr := hr.wrote hw
      obtain ⟨g, o, rfl, _, hcell⟩ := (HF.out.wrote hw hr).2.2.2.2 (by omega)
      have hc := hcell k hkn
      rw [hx] at hc hxb
      have HX2 := Lib.hid hx
      have HD : Hid (xs.drop k = x :: xs.drop (k + 1)) := by
        have := HX.out
        rw [List.drop_eq_getElem_cons (by omega), ← hx]
        simp [Hid, List.getD, List.getElem?_eq_getElem (show k < xs.length by omega)]
      clear hx hcell
      have hscx : Hid (scan dlen k out nsrc v nb (x :: xs.drop (k + 1)) = scan dlen 0 [] 0 0 0 xs) := by rw [← HD.out]; exact hsc
      by_cases hroom : dlen < out.length + 4
      · have hd : Hid (decode dlen xs flush = (out, nsrc, none)) := by
          unfold decode Hid
          rw [← hscx.out, scan_full hroom]
          rfl
        go_wp2
        go_ret3
        rw [hd.out]
        exact ⟨rfl, hw, hh⟩
      · by_cases hbl : x ≤ 32
        · have hn := scan_on hscx (scan_blank hroom hbl)
          go_wp2
          go_roundw
          case rel => exact ⟨k + 1, nsrc, nb, out, v, (by go_num), rfl, rfl, rfl, rfl, rfl, by omega, hns, hnb, hv0, hv1, hol, HR4.out, hn, hw, hh⟩
          case measure => simp [intOf]; omega
        · have hP : off + out.length + 4 ≤ off + dlen := by omega
          obtain ⟨v0, d0⟩ := hrr.cell (i := off + out.length) (by omega)
          obtain ⟨v1, d1⟩ := hrr.cell (i := off + (out.length + 1)) (by omega)
          obtain ⟨v2, d2⟩ := hrr.cell (i := off + (out.length + 2)) (by omega)
          obtain ⟨v3, d3⟩ := hrr.cell (i := off + (out.length + 3)) (by omega)
          have fz := fun i => hrr.frozen i
          by_cases hz : x = 122 ∧ nb = 0
          · obtain ⟨rfl, rfl⟩ := hz
            have hn := scan_on hscx (scan_z hroom)
            have S := four_stores hrr hP 0 0 0 0
            go_wp2
            go_roundw
            case rel => exact ⟨k + 1, k + 1, 0, out ++ [0, 0, 0, 0], 0, (by go_num), (by simp), (by go_num), rfl, rfl, rfl, by omega, by omega, by omega, by omega, by omega, by simp; omega, (fun h => absurd rfl h), hn, hw.trans S.1, (hh.wrote S.2.1 hrr (by omega)).append S.2.2⟩
            case measure => simp [intOf]; omega
          · by_cases hs : 33 ≤ x ∧ x ≤ 117
            · have hmr := more_range v x
              by_cases h4 : nb = 4
              · subst h4
                have hn := scan_on hscx (scan_last hroom hs.1 hs.2)
                rw [bytes_more hs.1] at hn
                have S := four_stores hrr hP ((v * 85 + (x - 33)) % 4294967296 / 16777216) ((v * 85 + (x - 33)) % 4294967296 / 65536 % 256) ((v * 85 + (x - 33)) % 4294967296 / 256 % 256) ((v * 85 + (x - 33)) % 256)
                go_wp2
                go_roundw
                case rel => exact ⟨k + 1, k + 1, 0, out ++ [(v * 85 + (x - 33)) % 4294967296 / 16777216, (v * 85 + (x - 33)) % 4294967296 / 65536 % 256, (v * 85 + (x - 33)) % 4294967296 / 256 % 256, (v * 85 + (x - 33)) % 256], 0, (by go_num), (by simp), (by go_num), rfl, rfl, rfl, by omega, by omega, by omega, by omega, by omega, by simp; omega, (fun h => absurd rfl h), hn, hw.trans S.1, (hh.wrote S.2.1 hrr (by omega)).append S.2.2⟩
                case measure => simp [intOf]; omega
              · have hn := scan_on hscx (scan_sign hroom hs.1 hs.2 h4)
                go_wp2
                go_roundw
                case rel => exact ⟨k + 1, nsrc, nb + 1, out, more v x, (by go_num), rfl, rfl, rfl, more_spelt v x, (by go_num), by omega, hns, by omega, hmr.1, hmr.2, hol, (fun _ => by omega), hn, hw, hh⟩
                case measure => simp [intOf]; omega
            · have hd : Hid (decode dlen xs flush = ([], 0, some k)) := by
                unfold decode Hid
                rw [← hscx.out, scan_bad hroom hbl hz hs]
                rfl
              go_wp2
              all_goals
                go_ret3
                rw [hd.out]
                exact ⟨rfl, hw, Has.nil⟩
    · obtain rfl : k = n := by omega
      have hse : Hid (scan dlen 0 [] 0 0 0 xs = .done out nsrc v nb) := by
        have := hsc.out
        rw [List.drop_of_length_le (by rw [HX.out]; exact Nat.le_refl _)] at this
        exact this.symm
      cases flush
      · have hd : Hid (decode dlen xs false = (out, nsrc, none)) := by
          unfold decode Hid
          rw [hse.out]
          rfl
        go_wp2
        go_ret3
        rw [hd.out]
        exact ⟨rfl, hw, hh⟩
      · by_cases h0 : nb = 0
        · subst h0
          have hd : Hid (decode dlen xs true = (out, k, none)) := by
            unfold decode Hid
            rw [hse.out]
            simp [fin, HX.out]
          go_wp2
          go_ret3
          rw [hd.out]
          exact ⟨rfl, hw, hh⟩
        · by_cases h1 : nb = 1
          · subst h1
            have hd : Hid (decode dlen xs true = ([], 0, some k)) := by
              unfold decode Hid
              rw [hse.out]
              simp [fin, HX.out]
            go_wp2
            go_ret3
            rw [hd.out]
            exact ⟨rfl, hw, Has.nil⟩
          · have hd : Hid (decode dlen xs true = (out ++ tail v nb, k, none)) := by
              unfold decode Hid
              rw [hse.out]
              simp [fin, HX.out, h0, h1]
            have hP := HR4.out h0
            have hrr := hr.wrote hw
            obtain ⟨v0, d0⟩ := hrr.cell (i := off + out.length) (by omega)
            obtain ⟨v1, d1⟩ := hrr.cell (i := off + (out.length + 1)) (by omega)
            obtain ⟨v2, d2⟩ := hrr.cell (i := off + (out.length + 2)) (by omega)
            have fz := fun i => hrr.frozen i
            rcases (by omega : nb = 2 ∨ nb = 3 ∨ nb = 4) with rfl | rfl | rfl
            · have S := one_store (off := off + out.length) (len := 4) hrr (show off + out.length + 1 ≤ off + dlen by omega) ((((v * 85 + 84) % 4294967296 * 85 + 84) % 4294967296 * 85 + 84) % 4294967296 / 16777216) (Nat.le_refl _) (by omega)
              rw [tail_2] at hd
              go_wp2
              go_rounds 4
              go_rounds 2
              go_ret3
              rw [hd.out]
              exact ⟨by simp [errV], hw.trans (S.1.mono (by omega) (by omega)), (hh.wrote S.1 hrr (Nat.le_refl _)).append S.2⟩
            · have S := two_stores (L := out.length) hrr (by omega) (((v * 85 + 84) % 4294967296 * 85 + 84) % 4294967296 / 16777216) (((v * 85 + 84) % 4294967296 * 85 + 84) % 4294967296 * 256 % 4294967296 / 16777216)
              rw [tail_3] at hd
              go_wp2
              go_rounds 3
              go_rounds 3
              go_ret3
              rw [hd.out]
              exact ⟨by simp [errV]; omega, hw.trans (S.1.mono (by omega) (by omega)), (hh.wrote S.1 hrr (Nat.le_refl _)).append S.2⟩
            · have S := three_stores (L := out.length) hrr (by omega) ((v * 85 + 84) % 4294967296 / 16777216) ((v * 85 + 84) % 4294967296 * 256 % 4294967296 / 16777216) ((v * 85 + 84) % 4294967296 * 256 % 4294967296 * 256 % 4294967296 / 16777216)
              rw [tail_4] at hd
              go_wp2
              go_rounds 2
              go_rounds 4
              go_ret3
              rw [hd.out]
              exact ⟨by simp [errV]; omega, hw.trans (S.1.mono (by omega) (by omega)), (hh.wrote S.1 hrr (Nat.le_refl _)).append S.2⟩
end Go.Proofs.YtfonpcfcelahdaaDoor
