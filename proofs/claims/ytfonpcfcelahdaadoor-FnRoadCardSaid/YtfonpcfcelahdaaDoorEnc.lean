/-
  What goascii85.Encode does: the signs of bytes, written into a stretch of a block that has room for them.
-/
import Derived.Test.YtfonpcfcelahdaaDoorSpecEnc
import Derived.Test.YtfonpcfcelahdaaDoorWrote
import Derived.Deep.DeepCutAuto
namespace Go.Proofs.YtfonpcfcelahdaaDoor
open Go.RowKit

theorem or32_30 {c : Int} (hc : 0 ≤ c ∧ c < 256) : bits .or .u32 0 (c * 256) = c * 256 := or32_z (by omega) (by omega)
theorem or32_31 {b c : Int} (hb : 0 ≤ b ∧ b < 256) (hc : 0 ≤ c ∧ c < 256) : bits .or .u32 (c * 256) (b * 65536) = b * 65536 + c * 256 :=
  or_u32_add' _ _ 16 b (by omega) (by omega) (by omega) (by omega) (by omega) (by omega)
theorem or32_32 {a b c : Int} (ha : 0 ≤ a ∧ a < 256) (hb : 0 ≤ b ∧ b < 256) (hc : 0 ≤ c ∧ c < 256) : bits .or .u32 (b * 65536 + c * 256) (a * 16777216) = a * 16777216 + (b * 65536 + c * 256) :=
  or_u32_add' _ _ 24 a (by omega) (by omega) (by omega) (by omega) (by omega) (by omega)
theorem or32_20 {b : Int} (hb : 0 ≤ b ∧ b < 256) : bits .or .u32 0 (b * 65536) = b * 65536 := or32_z (by omega) (by omega)
theorem or32_21 {a b : Int} (ha : 0 ≤ a ∧ a < 256) (hb : 0 ≤ b ∧ b < 256) : bits .or .u32 (b * 65536) (a * 16777216) = a * 16777216 + b * 65536 :=
  or_u32_add' _ _ 24 a (by omega) (by omega) (by omega) (by omega) (by omega) (by omega)
theorem or32_10 {a : Int} (ha : 0 ≤ a ∧ a < 256) : bits .or .u32 0 (a * 16777216) = a * 16777216 := or32_z (by omega) (by omega)

section
variable {w : World} {b P : Nat}
theorem Has.cons {x : Int} {xs : List Int} (h : w.cell? ⟨b, P, none⟩ = some (.int .u8 x)) (k : Has w b (P + 1) xs) : Has w b P (x :: xs) := fun i hi => by
  match i with
  | 0 => simpa using h
  | i + 1 =>
    have := k i (by simpa using hi)
    rw [show P + 1 + i = P + (i + 1) by omega] at this
    simpa using this
theorem Has.take {xs : List Int} (h : Has w b P xs) (k : Nat) : Has w b P (xs.take k) := fun i hi => by
  rw [List.length_take] at hi
  rw [h i (by omega)]
  simp [List.getD, show i < k by omega]
/-- Five figures, the last one first. -/
theorem five_stores {n : Nat} (hr : Room w b n) (hP : P + 5 ≤ n) (m : Int) {off len : Nat} (h1 : off ≤ P) (h2 : P + 5 ≤ off + len) :
    Wrote w (((((w.setCell ⟨b, P + 4, none⟩ (.int .u8 (33 + m % 85))).setCell ⟨b, P + 3, none⟩ (.int .u8 (33 + m / 85 % 85))).setCell ⟨b, P + 2, none⟩ (.int .u8 (33 + m / 85 / 85 % 85))).setCell ⟨b, P + 1, none⟩ (.int .u8 (33 + m / 85 / 85 / 85 % 85))).setCell ⟨b, P, none⟩ (.int .u8 (33 + m / 85 / 85 / 85 / 85 % 85))) b off len ∧
      Has (((((w.setCell ⟨b, P + 4, none⟩ (.int .u8 (33 + m % 85))).setCell ⟨b, P + 3, none⟩ (.int .u8 (33 + m / 85 % 85))).setCell ⟨b, P + 2, none⟩ (.int .u8 (33 + m / 85 / 85 % 85))).setCell ⟨b, P + 1, none⟩ (.int .u8 (33 + m / 85 / 85 / 85 % 85))).setCell ⟨b, P, none⟩ (.int .u8 (33 + m / 85 / 85 / 85 / 85 % 85))) b P (figs m) := by
  refine ⟨(((((Wrote.refl w b off len).setCell (by omega) (by omega) _).setCell (by omega) (by omega) _).setCell (by omega) (by omega) _).setCell (by omega) (by omega) _).setCell (by omega) (by omega) _, ?_⟩
  obtain ⟨v0, d0⟩ := hr.cell (i := P) (by omega)
  obtain ⟨v1, d1⟩ := hr.cell (i := P + 1) (by omega)
  obtain ⟨v2, d2⟩ := hr.cell (i := P + 2) (by omega)
  obtain ⟨v3, d3⟩ := hr.cell (i := P + 3) (by omega)
  obtain ⟨v4, d4⟩ := hr.cell (i := P + 4) (by omega)
  rw [figs_eq]
  refine Has.cons ?_ (Has.cons ?_ (Has.cons ?_ (Has.cons ?_ (Has.cons ?_ Has.nil))))
  all_goals simp [go_sem, d0, d1, d2, d3, d4, Nat.add_assoc]
end

theorem five_stores0 {w : World} {b P n : Nat} (hr : Room w b n) (hP : P + 5 ≤ n) {off len : Nat} (h1 : off ≤ P) (h2 : P + 5 ≤ off + len) :
    Wrote w (((((w.setCell ⟨b, P + 4, none⟩ (.int .u8 33)).setCell ⟨b, P + 3, none⟩ (.int .u8 33)).setCell ⟨b, P + 2, none⟩ (.int .u8 33)).setCell ⟨b, P + 1, none⟩ (.int .u8 33)).setCell ⟨b, P, none⟩ (.int .u8 33)) b off len ∧
      Has (((((w.setCell ⟨b, P + 4, none⟩ (.int .u8 33)).setCell ⟨b, P + 3, none⟩ (.int .u8 33)).setCell ⟨b, P + 2, none⟩ (.int .u8 33)).setCell ⟨b, P + 1, none⟩ (.int .u8 33)).setCell ⟨b, P, none⟩ (.int .u8 33)) b P (figs 0) :=
  five_stores hr hP 0 h1 h2

/-- What a round leaves. -/
theorem round_close {w wr w5 : World} {b off dlen P len1 n1 c1 : Nat} {A : Option Addr} {ys acc e : List Int} (hr : Room w b (off + dlen)) (hw : Wrote w wr b off dlen) (h1 : Wrote wr w5 b P len1) (ho : off + acc.length = P) (hl : P + len1 ≤ off + dlen)
    (hh : Has wr b off acc) (he : Has w5 b P e) (hf : Far wr b off dlen A n1 c1 ys) : Wrote w w5 b off dlen ∧ Has w5 b off (acc ++ e) ∧ Far w5 b off dlen A n1 c1 ys := by
  have hrr := hr.wrote hw
  have h1' : Wrote wr w5 b off dlen := h1.mono (by omega) hl
  refine ⟨hw.trans h1', ?_, hf.wrote h1' hrr⟩
  refine (hh.wrote h1 hrr (by omega)).append ?_
  rw [ho]
  exact he

theorem one_store {w : World} {b P n : Nat} (hr : Room w b n) (hP : P + 1 ≤ n) (x : Int) {off len : Nat} (h1 : off ≤ P) (h2 : P + 1 ≤ off + len) : Wrote w (w.setCell ⟨b, P, none⟩ (.int .u8 x)) b off len ∧ Has (w.setCell ⟨b, P, none⟩ (.int .u8 x)) b P [x] := by
  refine ⟨(Wrote.refl w b off len).setCell (by omega) (by omega) _, Has.cons ?_ Has.nil⟩
  obtain ⟨v0, d0⟩ := hr.cell (i := P) (by omega)
  simp [go_sem, d0]

theorem takes {p : Prop} {w : World} {b P : Nat} {xs : List Int} (h : p ∧ Has w b P xs) (k : Nat) : p ∧ Has w b P (xs.take k) := ⟨h.1, h.2.take k⟩

theorem last_on {acc ys e xs : List Int} (h : Hid (acc ++ enc ys = enc xs)) (he : enc ys = e) : Hid ((acc ++ e) ++ enc [] = enc xs) := by
  have h := h.out
  rw [he] at h
  simpa [Hid, enc] using h

theorem Far.none_ (w : World) (b off len : Nat) : Far w b off len none 0 0 [] := ⟨rfl, Nat.le_refl _, by unfold maxLen; omega, fun _ hx => (by cases hx), fun h => absurd h (by omega)⟩
theorem only1 {ys : List Int} (h : ys.length = 1) : ∃ a, ys = [a] := by
  match ys, h with
  | [a], _ => exact ⟨a, rfl⟩
theorem only2 {ys : List Int} (h : ys.length = 2) : ∃ a b, ys = [a, b] := by
  match ys, h with
  | [a, b], _ => exact ⟨a, b, rfl⟩
theorem only3 {ys : List Int} (h : ys.length = 3) : ∃ a b c, ys = [a, b, c] := by
  match ys, h with
  | [a, b, c], _ => exact ⟨a, b, c, rfl⟩

section
variable {w : World} {b off len n c : Nat} {A : Option Addr} {x0 x1 x2 : Int}
theorem Far.cells3 (h : Far w b off len A 3 c [x0, x1, x2]) : ∃ g o, A = some ⟨g, o, none⟩ ∧ w.cell? ⟨g, o, none⟩ = some (.int .u8 x0) ∧ w.cell? ⟨g, o + 1, none⟩ = some (.int .u8 x1) ∧ w.cell? ⟨g, o + 2, none⟩ = some (.int .u8 x2) ∧ (g ≠ b ∨ o + 3 ≤ off ∨ off + len ≤ o) := by
  obtain ⟨g, o, e, hd, hc⟩ := h.2.2.2.2 (by omega)
  exact ⟨g, o, e, by simpa using hc 0 (by omega), by simpa using hc 1 (by omega), by simpa using hc 2 (by omega), hd⟩
theorem Far.cells2 (h : Far w b off len A 2 c [x0, x1]) : ∃ g o, A = some ⟨g, o, none⟩ ∧ w.cell? ⟨g, o, none⟩ = some (.int .u8 x0) ∧ w.cell? ⟨g, o + 1, none⟩ = some (.int .u8 x1) ∧ (g ≠ b ∨ o + 2 ≤ off ∨ off + len ≤ o) := by
  obtain ⟨g, o, e, hd, hc⟩ := h.2.2.2.2 (by omega)
  exact ⟨g, o, e, by simpa using hc 0 (by omega), by simpa using hc 1 (by omega), hd⟩
theorem Far.cells1 (h : Far w b off len A 1 c [x0]) : ∃ g o, A = some ⟨g, o, none⟩ ∧ w.cell? ⟨g, o, none⟩ = some (.int .u8 x0) ∧ (g ≠ b ∨ o + 1 ≤ off ∨ off + len ≤ o) := by
  obtain ⟨g, o, e, hd, hc⟩ := h.2.2.2.2 (by omega)
  exact ⟨g, o, e, by simpa using hc 0 (by omega), hd⟩
end

/-- What holds at the head of each round: slots 0 (dst), 1 (src), 5 (n). -/
def EncRel (w : World) (b off dlen dcap n : Nat) (xs : List Int) (s0 s1 s5 : Value) (wr : World) : Prop :=
  ∃ D len1 cap1 A n1 c1 ys acc, s0 = .slice D len1 cap1 ∧ s1 = .slice A n1 c1 ∧ s5 = .int .i64 ((acc : List Int).length : Nat) ∧ (0 < len1 → D = some ⟨b, off + acc.length, none⟩) ∧ len1 + acc.length = dlen ∧ len1 ≤ cap1 ∧ cap1 ≤ dcap ∧
    (n1 + 3) / 4 * 5 ≤ len1 ∧ n1 ≤ n ∧ Far wr b off dlen A n1 c1 ys ∧ Hid (acc ++ enc ys = enc xs) ∧ Wrote w wr b off dlen ∧ Has wr b off acc

theorem cap_ne {len1 cap1 k : Nat} (h : len1 ≤ cap1) (h0 : 0 < len1 - k) : ¬ cap1 = k := by omega
theorem need4 {n1 len1 : Nat} (h4 : 4 ≤ n1) (h : (n1 + 3) / 4 * 5 ≤ len1) : (n1 - 4 + 3) / 4 * 5 ≤ len1 - 5 := by omega
theorem need1 {n1 len1 : Nat} (h4 : 4 ≤ n1) (h : (n1 + 3) / 4 * 5 ≤ len1) : (n1 - 4 + 3) / 4 * 5 ≤ len1 - 1 := by omega
theorem need0 (k : Nat) : (0 + 3) / 4 * 5 ≤ k := by omega
theorem le_sub4 {n1 n : Nat} (h : n1 ≤ n) : n1 - 4 ≤ n := by omega
theorem sub4_lt {n1 : Nat} (h : 4 ≤ n1) : n1 - 4 < n1 := by omega

theorem rel_next {w wr w5 : World} {b off dlen dcap n P len1 cap1 n2 c2 k : Nat} {xs ys2 acc e : List Int} {A2 D' : Option Addr} {z : Int} (hr : Room w b (off + dlen)) (hw : Wrote w wr b off dlen) (h1 : Wrote wr w5 b P len1) (hP : off + acc.length = P) (hlen : len1 + acc.length = dlen)
    (hlc : len1 ≤ cap1) (hcd : cap1 ≤ dcap) (hk : e.length = k) (hk5 : k ≤ len1) (hneed : (n2 + 3) / 4 * 5 ≤ len1 - k) (hn2 : n2 ≤ n) (hh : Has wr b off acc) (he : Has w5 b P e) (hf : Far wr b off dlen A2 n2 c2 ys2) (hid : Hid ((acc ++ e) ++ enc ys2 = enc xs))
    (hD' : 0 < len1 - k → D' = some ⟨b, P + k, none⟩) (hz : z = (acc.length : Int) + (k : Int)) : EncRel w b off dlen dcap n xs (.slice D' (len1 - k) (cap1 - k)) (.slice A2 n2 c2) (.int .i64 z) w5 := by
  have R := round_close hr hw h1 hP (by omega) hh he hf
  refine ⟨_, len1 - k, cap1 - k, _, n2, c2, ys2, acc ++ e, rfl, rfl, ?_, ?_, ?_, by omega, by omega, hneed, hn2, R.2.2, hid, R.1, R.2.1⟩
  · rw [hz, List.length_append, hk]; simp
  · intro h0
    rw [hD' h0, List.length_append, hk, ← hP, Nat.add_assoc]
  · rw [List.length_append, hk]; omega

set_option maxRecDepth 100000 in
set_option maxHeartbeats 8000000 in
theorem encode_any (b off dlen dcap : Nat) (A : Option Addr) (n c : Nat) (xs : List Int) (w : World) (hr : Room w b (off + dlen)) (h : Far w b off dlen A n c xs) (hn : n ≤ 65536) (hd : (n + 3) / 4 * 5 ≤ dlen) (hdc : dlen ≤ dcap) (hcm : dcap ≤ maxLen) :
    Calls Tryd.prog 61 #[.slice (some ⟨b, off, none⟩) dlen dcap, .slice A n c] w fun e w' => e = .returned (.int .i64 (enc xs).length) ∧ Wrote w w' b off dlen ∧ Has w' b off (enc xs) := by
  by_cases hn0 : n = 0
  · subst hn0
    have : xs = [] := List.eq_nil_of_length_eq_zero h.1
    subst this
    go_enter Tryd.func61, Tryd.ntmps61
    go_wp2
    go_ret
    exact ⟨rfl, Wrote.refl _ _ _ _, Has.nil⟩
  · have hne : ((n : Int) == 0) = false := by simp; omega
    unfold maxLen at hcm
    have hxl := h.1
    go_enter Tryd.func61, Tryd.ntmps61
    go_wp2
    go_loopw [0, 1, 5] (fun s0 s1 s5 wr => EncRel w b off dlen dcap n xs s0 s1 s5 wr)
      (fun _ s1 _ _ => sliceLen s1)
    case atStart => exact ⟨some ⟨b, off, none⟩, dlen, dcap, A, n, c, xs, [], rfl, rfl, rfl, fun _ => rfl, by simp, hdc, Nat.le_refl _, hd, Nat.le_refl _, h, (by simp [Hid]), Wrote.refl _ _ _ _, Has.nil⟩
    case round =>
      obtain ⟨D, len1, cap1, A1, n1, c1, ys, acc, rfl, rfl, rfl, hD, hlen, hlc, hcd, hneed, hn1, hf, hacc, hw, hh⟩ := hrel
      by_cases h4 : 4 ≤ n1
      · skip
        obtain ⟨x0, x1, x2, x3, r, rfl⟩ := four (by rw [hf.1]; exact h4)
        obtain ⟨g, o, rfl, q0, q1, q2, q3, hdis⟩ := hf.cells4
        have hf2 := hf.cut (k := 4) h4 (by omega)
        have b0 := hf.2.2.2.1 x0 (by simp)
        have b1 := hf.2.2.2.1 x1 (by simp)
        have b2 := hf.2.2.2.1 x2 (by simp)
        have b3 := hf.2.2.2.1 x3 (by simp)
        have hc4 := hf.2.1
        have hsh := enc_short (n := n) h.1 hn hacc.out
        obtain rfl := hD (by omega)
        have hrr := hr.wrote hw
        obtain ⟨P, hP⟩ : ∃ P, off + acc.length = P := ⟨_, rfl⟩
        have hP1 : off ≤ P := by omega
        have hP2 : P + len1 ≤ off + dlen := by omega
        rw [hP]
        have hll : 5 ≤ len1 := by omega
        obtain ⟨v0, d0⟩ := hrr.cell (i := P) (by omega)
        obtain ⟨v1, d1⟩ := hrr.cell (i := P + 1) (by omega)
        obtain ⟨v2, d2⟩ := hrr.cell (i := P + 2) (by omega)
        obtain ⟨v3, d3⟩ := hrr.cell (i := P + 3) (by omega)
        obtain ⟨v4, d4⟩ := hrr.cell (i := P + 4) (by omega)
        have fz := fun i => hrr.frozen i
        have HX := Lib.hid hxl
        have HL := Lib.hid hlen
        have HF := Lib.hid hf
        have HD := Lib.hid hdis
        have HN := Lib.hid hneed
        have HP := Lib.hid hP
        have HDD := Lib.hid hd
        have H2 := Lib.hid hf2
        clear hxl hlen hf hdis hneed hP hd hf2
        go_upto_region 10 with (fail)
        go_cut [0, 6] (fun s0 s6 wx => s0 = .slice (some ⟨b, P, none⟩) len1 cap1 ∧ s6 = .int .u32 0 ∧ Wrote wr wx b P len1)
        case first =>
          go_wp2_with fail
          go_meet
          exact ⟨rfl, rfl, ((((((Wrote.refl wr b P len1).setCell (by omega) (by omega) _).setCell (by omega) (by omega) _).setCell (by omega) (by omega) _).setCell (by omega) (by omega) _).setCell (by omega) (by omega) _)⟩
        case rest =>
          obtain ⟨rfl, rfl, hw1⟩ := hcut
          clear d0 d1 d2 d3 d4 fz v0 v1 v2 v3 v4
          have hrc := hrr.wrote hw1
          obtain ⟨v0, d0⟩ := hrc.cell (i := P) (by omega)
          obtain ⟨v1, d1⟩ := hrc.cell (i := P + 1) (by omega)
          obtain ⟨v2, d2⟩ := hrc.cell (i := P + 2) (by omega)
          obtain ⟨v3, d3⟩ := hrc.cell (i := P + 3) (by omega)
          obtain ⟨v4, d4⟩ := hrc.cell (i := P + 4) (by omega)
          have fz := fun i => hrc.frozen i
          have q0' := (hw1.cell (b' := g) (i := o) hrr (by have := HD.out; omega)).trans q0
          have q1' := (hw1.cell (b' := g) (i := o + 1) hrr (by have := HD.out; omega)).trans q1
          have q2' := (hw1.cell (b' := g) (i := o + 2) hrr (by have := HD.out; omega)).trans q2
          have q3' := (hw1.cell (b' := g) (i := o + 3) hrr (by have := HD.out; omega)).trans q3
          clear q0 q1 q2 q3
          have o3 := or32_z (d := x3) (by omega) (by omega)
          have o2 := or32_2 b2 b3
          have o1 := or32_1 b1 b2 b3
          have o0 := or32_0 b0 b1 b2 b3
          obtain ⟨m, hm⟩ : ∃ m, m = x0 * 16777216 + (x1 * 65536 + (x2 * 256 + x3)) := ⟨_, rfl⟩
          have hmm : 0 ≤ m ∧ m < 4294967296 := by omega
          replace o0 := o0.trans hm.symm
          have HM := Lib.hid hm
          clear hm
          cases m0 : (m == 0)
          · have hz : enc4 x0 x1 x2 x3 = figs m := by
              have h := HM.out
              have : m ≠ 0 := by simpa using m0
              unfold enc4
              rw [if_neg (by omega)]
              unfold word
              congr 1
              omega
            have HZ := Lib.hid (round_on hacc hz)
            clear hz
            go_wp2
            go_rounds 6
            go_roundw
            case rel =>
              have S := five_stores (off := P) (len := len1) hrc (show P + 5 ≤ off + dlen by omega) m (Nat.le_refl _) (by omega)
              exact rel_next hr hw (hw1.trans S.1) HP.out HL.out hlc hcd (k := 5) rfl hll (need4 h4 HN.out) (le_sub4 hn1) hh S.2 H2.out HZ.out (fun h0 => by first | rfl | rw [if_neg (cap_ne hlc h0)]) (by rfl)
            case measure => exact sub4_lt h4
          · have hz : enc4 x0 x1 x2 x3 = [122] := by
              have h := HM.out
              have : m = 0 := by simpa using m0
              unfold enc4
              rw [if_pos (by omega)]
            have HZ := Lib.hid (round_on hacc hz)
            clear hz
            go_wp2
            go_roundw
            case rel =>
              have S := one_store (off := P) (len := len1) hrc (show P + 1 ≤ off + dlen by omega) 122 (Nat.le_refl _) (by omega)
              exact rel_next hr hw (hw1.trans S.1) HP.out HL.out hlc hcd (k := 1) rfl (Nat.le_trans (by decide) hll) (need1 h4 HN.out) (le_sub4 hn1) hh S.2 H2.out HZ.out (fun h0 => by first | rfl | rw [if_neg (cap_ne hlc h0)]) (by rfl)
            case measure => exact sub4_lt h4
      · rcases (by omega : n1 = 0 ∨ n1 = 1 ∨ n1 = 2 ∨ n1 = 3) with rfl | rfl | rfl | rfl
        · have hy : ys = [] := List.eq_nil_of_length_eq_zero hf.1
          subst hy
          have he : acc = enc xs := by have := hacc.out; simpa [enc] using this
          subst he
          go_wp2
          go_ret
          exact ⟨rfl, hw, hh⟩
        · skip
          obtain ⟨x0, rfl⟩ := only1 (by rw [hf.1])
          have hf2 := Far.none_ wr b off dlen
          obtain ⟨g, o, rfl, q0, hdis⟩ := hf.cells1
          have b0 := hf.2.2.2.1 x0 (by simp)
          have hc4 := hf.2.1
          have hsh := enc_short (n := n) h.1 hn hacc.out
          obtain rfl := hD (by omega)
          have hrr := hr.wrote hw
          obtain ⟨P, hP⟩ : ∃ P, off + acc.length = P := ⟨_, rfl⟩
          have hP1 : off ≤ P := by omega
          have hP2 : P + len1 ≤ off + dlen := by omega
          rw [hP]
          have hll : 5 ≤ len1 := by omega
          obtain ⟨v0, d0⟩ := hrr.cell (i := P) (by omega)
          obtain ⟨v1, d1⟩ := hrr.cell (i := P + 1) (by omega)
          obtain ⟨v2, d2⟩ := hrr.cell (i := P + 2) (by omega)
          obtain ⟨v3, d3⟩ := hrr.cell (i := P + 3) (by omega)
          obtain ⟨v4, d4⟩ := hrr.cell (i := P + 4) (by omega)
          have fz := fun i => hrr.frozen i
          have HX := Lib.hid hxl
          have HL := Lib.hid hlen
          have HF := Lib.hid hf
          have HD := Lib.hid hdis
          have HN := Lib.hid hneed
          have HP := Lib.hid hP
          have HDD := Lib.hid hd
          have H2 := Lib.hid hf2
          clear hxl hlen hf hdis hneed hP hd hf2
          go_upto_region 10 with (fail)
          go_cut [0, 6] (fun s0 s6 wx => s0 = .slice (some ⟨b, P, none⟩) len1 cap1 ∧ s6 = .int .u32 0 ∧ Wrote wr wx b P len1)
          case first =>
            go_wp2_with fail
            go_meet
            exact ⟨rfl, rfl, ((((((Wrote.refl wr b P len1).setCell (by omega) (by omega) _).setCell (by omega) (by omega) _).setCell (by omega) (by omega) _).setCell (by omega) (by omega) _).setCell (by omega) (by omega) _)⟩
          case rest =>
            obtain ⟨rfl, rfl, hw1⟩ := hcut
            clear d0 d1 d2 d3 d4 fz v0 v1 v2 v3 v4
            have hrc := hrr.wrote hw1
            obtain ⟨v0, d0⟩ := hrc.cell (i := P) (by omega)
            obtain ⟨v1, d1⟩ := hrc.cell (i := P + 1) (by omega)
            obtain ⟨v2, d2⟩ := hrc.cell (i := P + 2) (by omega)
            obtain ⟨v3, d3⟩ := hrc.cell (i := P + 3) (by omega)
            obtain ⟨v4, d4⟩ := hrc.cell (i := P + 4) (by omega)
            have fz := fun i => hrc.frozen i
            have q0' := (hw1.cell (b' := g) (i := o) hrr (by have := HD.out; omega)).trans q0
            clear q0
            have o0 := or32_10 b0
            obtain ⟨m, hm⟩ : ∃ m, m = x0 * 16777216 := ⟨_, rfl⟩
            have hmm : 0 ≤ m ∧ m < 4294967296 := by omega
            replace o0 := o0.trans hm.symm
            have HM := Lib.hid hm
            clear hm
            have hz : enc [x0] = (figs m).take 2 := by
              have h := HM.out
              simp only [enc]
              unfold word
              congr 2
              omega
            have HZ := Lib.hid (last_on hacc hz)
            clear hz
            cases m0 : (m == 0)
            all_goals
              go_wp2
              go_rounds 6
              go_roundw
              case rel =>
                have S := takes (five_stores (off := P) (len := len1) hrc (show P + 5 ≤ off + dlen by omega) m (Nat.le_refl _) (by omega)) 2
                exact rel_next hr hw (hw1.trans S.1) HP.out HL.out hlc hcd (k := 2) rfl (Nat.le_trans (by decide) hll) (need0 _) (Nat.zero_le _) hh S.2 H2.out HZ.out (fun h0 => by first | rfl | rw [if_neg (cap_ne hlc h0)]) (by rfl)
              case measure => simp [sliceLen]
        · skip
          obtain ⟨x0, x1, rfl⟩ := only2 (by rw [hf.1])
          have hf2 := Far.none_ wr b off dlen
          obtain ⟨g, o, rfl, q0, q1, hdis⟩ := hf.cells2
          have b0 := hf.2.2.2.1 x0 (by simp)
          have b1 := hf.2.2.2.1 x1 (by simp)
          have hc4 := hf.2.1
          have hsh := enc_short (n := n) h.1 hn hacc.out
          obtain rfl := hD (by omega)
          have hrr := hr.wrote hw
          obtain ⟨P, hP⟩ : ∃ P, off + acc.length = P := ⟨_, rfl⟩
          have hP1 : off ≤ P := by omega
          have hP2 : P + len1 ≤ off + dlen := by omega
          rw [hP]
          have hll : 5 ≤ len1 := by omega
          obtain ⟨v0, d0⟩ := hrr.cell (i := P) (by omega)
          obtain ⟨v1, d1⟩ := hrr.cell (i := P + 1) (by omega)
          obtain ⟨v2, d2⟩ := hrr.cell (i := P + 2) (by omega)
          obtain ⟨v3, d3⟩ := hrr.cell (i := P + 3) (by omega)
          obtain ⟨v4, d4⟩ := hrr.cell (i := P + 4) (by omega)
          have fz := fun i => hrr.frozen i
          have HX := Lib.hid hxl
          have HL := Lib.hid hlen
          have HF := Lib.hid hf
          have HD := Lib.hid hdis
          have HN := Lib.hid hneed
          have HP := Lib.hid hP
          have HDD := Lib.hid hd
          have H2 := Lib.hid hf2
          clear hxl hlen hf hdis hneed hP hd hf2
          go_upto_region 10 with (fail)
          go_cut [0, 6] (fun s0 s6 wx => s0 = .slice (some ⟨b, P, none⟩) len1 cap1 ∧ s6 = .int .u32 0 ∧ Wrote wr wx b P len1)
          case first =>
            go_wp2_with fail
            go_meet
            exact ⟨rfl, rfl, ((((((Wrote.refl wr b P len1).setCell (by omega) (by omega) _).setCell (by omega) (by omega) _).setCell (by omega) (by omega) _).setCell (by omega) (by omega) _).setCell (by omega) (by omega) _)⟩
          case rest =>
            obtain ⟨rfl, rfl, hw1⟩ := hcut
            clear d0 d1 d2 d3 d4 fz v0 v1 v2 v3 v4
            have hrc := hrr.wrote hw1
            obtain ⟨v0, d0⟩ := hrc.cell (i := P) (by omega)
            obtain ⟨v1, d1⟩ := hrc.cell (i := P + 1) (by omega)
            obtain ⟨v2, d2⟩ := hrc.cell (i := P + 2) (by omega)
            obtain ⟨v3, d3⟩ := hrc.cell (i := P + 3) (by omega)
            obtain ⟨v4, d4⟩ := hrc.cell (i := P + 4) (by omega)
            have fz := fun i => hrc.frozen i
            have q0' := (hw1.cell (b' := g) (i := o) hrr (by have := HD.out; omega)).trans q0
            have q1' := (hw1.cell (b' := g) (i := o + 1) hrr (by have := HD.out; omega)).trans q1
            clear q0 q1
            have o1 := or32_20 b1
            have o0 := or32_21 b0 b1
            obtain ⟨m, hm⟩ : ∃ m, m = x0 * 16777216 + x1 * 65536 := ⟨_, rfl⟩
            have hmm : 0 ≤ m ∧ m < 4294967296 := by omega
            replace o0 := o0.trans hm.symm
            have HM := Lib.hid hm
            clear hm
            have hz : enc [x0, x1] = (figs m).take 3 := by
              have h := HM.out
              simp only [enc]
              unfold word
              congr 2
              omega
            have HZ := Lib.hid (last_on hacc hz)
            clear hz
            cases m0 : (m == 0)
            all_goals
              go_wp2
              go_rounds 6
              go_roundw
              case rel =>
                have S := takes (five_stores (off := P) (len := len1) hrc (show P + 5 ≤ off + dlen by omega) m (Nat.le_refl _) (by omega)) 3
                exact rel_next hr hw (hw1.trans S.1) HP.out HL.out hlc hcd (k := 3) rfl (Nat.le_trans (by decide) hll) (need0 _) (Nat.zero_le _) hh S.2 H2.out HZ.out (fun h0 => by first | rfl | rw [if_neg (cap_ne hlc h0)]) (by rfl)
              case measure => simp [sliceLen]
        · skip
          obtain ⟨x0, x1, x2, rfl⟩ := only3 (by rw [hf.1])
          have hf2 := Far.none_ wr b off dlen
          obtain ⟨g, o, rfl, q0, q1, q2, hdis⟩ := hf.cells3
          have b0 := hf.2.2.2.1 x0 (by simp)
          have b1 := hf.2.2.2.1 x1 (by simp)
          have b2 := hf.2.2.2.1 x2 (by simp)
          have hc4 := hf.2.1
          have hsh := enc_short (n := n) h.1 hn hacc.out
          obtain rfl := hD (by omega)
          have hrr := hr.wrote hw
          obtain ⟨P, hP⟩ : ∃ P, off + acc.length = P := ⟨_, rfl⟩
          have hP1 : off ≤ P := by omega
          have hP2 : P + len1 ≤ off + dlen := by omega
          rw [hP]
          have hll : 5 ≤ len1 := by omega
          obtain ⟨v0, d0⟩ := hrr.cell (i := P) (by omega)
          obtain ⟨v1, d1⟩ := hrr.cell (i := P + 1) (by omega)
          obtain ⟨v2, d2⟩ := hrr.cell (i := P + 2) (by omega)
          obtain ⟨v3, d3⟩ := hrr.cell (i := P + 3) (by omega)
          obtain ⟨v4, d4⟩ := hrr.cell (i := P + 4) (by omega)
          have fz := fun i => hrr.frozen i
          have HX := Lib.hid hxl
          have HL := Lib.hid hlen
          have HF := Lib.hid hf
          have HD := Lib.hid hdis
          have HN := Lib.hid hneed
          have HP := Lib.hid hP
          have HDD := Lib.hid hd
          have H2 := Lib.hid hf2
          clear hxl hlen hf hdis hneed hP hd hf2
          go_upto_region 10 with (fail)
          go_cut [0, 6] (fun s0 s6 wx => s0 = .slice (some ⟨b, P, none⟩) len1 cap1 ∧ s6 = .int .u32 0 ∧ Wrote wr wx b P len1)
          case first =>
            go_wp2_with fail
            go_meet
            exact ⟨rfl, rfl, ((((((Wrote.refl wr b P len1).setCell (by omega) (by omega) _).setCell (by omega) (by omega) _).setCell (by omega) (by omega) _).setCell (by omega) (by omega) _).setCell (by omega) (by omega) _)⟩
          case rest =>
            obtain ⟨rfl, rfl, hw1⟩ := hcut
            clear d0 d1 d2 d3 d4 fz v0 v1 v2 v3 v4
            have hrc := hrr.wrote hw1
            obtain ⟨v0, d0⟩ := hrc.cell (i := P) (by omega)
            obtain ⟨v1, d1⟩ := hrc.cell (i := P + 1) (by omega)
            obtain ⟨v2, d2⟩ := hrc.cell (i := P + 2) (by omega)
            obtain ⟨v3, d3⟩ := hrc.cell (i := P + 3) (by omega)
            obtain ⟨v4, d4⟩ := hrc.cell (i := P + 4) (by omega)
            have fz := fun i => hrc.frozen i
            have q0' := (hw1.cell (b' := g) (i := o) hrr (by have := HD.out; omega)).trans q0
            have q1' := (hw1.cell (b' := g) (i := o + 1) hrr (by have := HD.out; omega)).trans q1
            have q2' := (hw1.cell (b' := g) (i := o + 2) hrr (by have := HD.out; omega)).trans q2
            clear q0 q1 q2
            have o2 := or32_30 b2
            have o1 := or32_31 b1 b2
            have o0 := or32_32 b0 b1 b2
            obtain ⟨m, hm⟩ : ∃ m, m = x0 * 16777216 + (x1 * 65536 + x2 * 256) := ⟨_, rfl⟩
            have hmm : 0 ≤ m ∧ m < 4294967296 := by omega
            replace o0 := o0.trans hm.symm
            have HM := Lib.hid hm
            clear hm
            have hz : enc [x0, x1, x2] = (figs m).take 4 := by
              have h := HM.out
              simp only [enc]
              unfold word
              congr 2
              omega
            have HZ := Lib.hid (last_on hacc hz)
            clear hz
            cases m0 : (m == 0)
            all_goals
              go_wp2
              go_rounds 6
              go_roundw
              case rel =>
                have S := takes (five_stores (off := P) (len := len1) hrc (show P + 5 ≤ off + dlen by omega) m (Nat.le_refl _) (by omega)) 4
                exact rel_next hr hw (hw1.trans S.1) HP.out HL.out hlc hcd (k := 4) rfl (Nat.le_trans (by decide) hll) (need0 _) (Nat.zero_le _) hh S.2 H2.out HZ.out (fun h0 => by first | rfl | rw [if_neg (cap_ne hlc h0)]) (by rfl)
              case measure => simp [sliceLen]
end Go.Proofs.YtfonpcfcelahdaaDoor
