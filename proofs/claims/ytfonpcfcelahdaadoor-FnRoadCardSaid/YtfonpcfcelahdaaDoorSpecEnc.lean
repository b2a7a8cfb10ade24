/-
  What spec.Encode does: the signs of bytes, in a slice of its own.
-/
import Derived.Test.YtfonpcfcelahdaaDoorSigns
import Derived.Test.YtfonpcfcelahdaaDoorMem
namespace Go.Proofs.YtfonpcfcelahdaaDoor
open Go.RowKit

def sliceLen : Value → Nat | .slice _ n _ => n | _ => 0

theorem zero4 {a b c d : Int} (ha : 0 ≤ a ∧ a < 256) (hb : 0 ≤ b ∧ b < 256) (hc : 0 ≤ c ∧ c < 256) (hd : 0 ≤ d ∧ d < 256) :
    bits .or .u8 (bits .or .u8 (bits .or .u8 a b) c) d = 0 ↔ a = 0 ∧ b = 0 ∧ c = 0 ∧ d = 0 := by
  have h1 := or_u8_zero ha hb
  have h2 := or_u8_zero ⟨h1.1, h1.2.1⟩ hc
  have h3 := or_u8_zero ⟨h2.1, h2.2.1⟩ hd
  rw [h3.2.2, h2.2.2, h1.2.2]
  constructor
  · rintro ⟨⟨⟨rfl, rfl⟩, rfl⟩, rfl⟩; exact ⟨rfl, rfl, rfl, rfl⟩
  · rintro ⟨rfl, rfl, rfl, rfl⟩; exact ⟨⟨⟨rfl, rfl⟩, rfl⟩, rfl⟩

theorem cells4 {w : World} {B n c : Nat} {A : Option Addr} {x0 x1 x2 x3 : Int} {r : List Int} (h : Src w B A n c (x0 :: x1 :: x2 :: x3 :: r)) :
    ∃ g off, A = some ⟨g, off, none⟩ ∧ g < B ∧ w.cell? ⟨g, off, none⟩ = some (.int .u8 x0) ∧ w.cell? ⟨g, off + 1, none⟩ = some (.int .u8 x1) ∧ w.cell? ⟨g, off + 2, none⟩ = some (.int .u8 x2) ∧ w.cell? ⟨g, off + 3, none⟩ = some (.int .u8 x3) := by
  have hn : n = r.length + 4 := by have := h.1; simp at this; omega
  obtain ⟨g, off, e, hlt, hc⟩ := h.cells (by omega)
  refine ⟨g, off, e, hlt, ?_, ?_, ?_, ?_⟩
  · simpa using hc 0 (by omega)
  · simpa using hc 1 (by omega)
  · simpa using hc 2 (by omega)
  · simpa using hc 3 (by omega)

theorem four {ys : List Int} (h : 4 ≤ ys.length) : ∃ a b c d r, ys = a :: b :: c :: d :: r := by
  match ys, h with
  | a :: b :: c :: d :: r, _ => exact ⟨a, b, c, d, r, rfl⟩

theorem enc_short {acc ys xs : List Int} {n : Nat} (hx : xs.length = n) (hn : n ≤ 65536) (h : acc ++ enc ys = enc xs) : acc.length ≤ 81920 := by
  have h1 := enc_le xs
  have h2 : (acc ++ enc ys).length = (enc xs).length := by rw [h]
  rw [List.length_append] at h2
  omega

theorem round_on {acc e r xs : List Int} {x0 x1 x2 x3 : Int} (h : Hid (acc ++ enc (x0 :: x1 :: x2 :: x3 :: r) = enc xs)) (he : enc4 x0 x1 x2 x3 = e) : Hid ((acc ++ e) ++ enc r = enc xs) := by
  have h := h.out
  rw [enc, he, ← List.append_assoc] at h
  exact h

theorem enc_tail {ys : List Int} {n : Nat} {z0 z1 z2 z3 : Int} {r : List Int} (hl : ys.length = n) (h0 : 0 < n) (h4 : n < 4) (h : ys ++ [0, 0, 0] = z0 :: z1 :: z2 :: z3 :: r) : enc ys = (figs (word z0 z1 z2 z3)).take (n + 1) := by
  subst hl
  match ys, h0, h4, h with
  | [a], _, _, h => simp at h; obtain ⟨rfl, rfl, rfl, rfl, _⟩ := h; rfl
  | [a, b], _, _, h => simp at h; obtain ⟨rfl, rfl, rfl, rfl, _⟩ := h; rfl
  | [a, b, c], _, _, h => simp at h; obtain ⟨rfl, rfl, rfl, rfl, _⟩ := h; rfl
  | _ :: _ :: _ :: _ :: _, _, h4, _ => simp at h4; omega

set_option maxHeartbeats 1000000 in
theorem specEncode_any (A : Option Addr) (n c : Nat) (xs : List Int) (w : World) (h : Src w w.heap.size A n c xs) (hn : n ≤ 65536) :
    Calls Tryd.prog 8 #[.slice A n c] w fun e w' => ∃ v, e = .returned v ∧ Own w' w.heap.size v (enc xs) ∧ Below w.heap.size w w' := by
  have ad : ∀ (W : World) j o, (W.drewN j).alloc o = (W.alloc o).drewN j := fun _ _ _ => rfl
  have sd : ∀ (W : World) j x v, (W.drewN j).setCell x v = (W.setCell x v).drewN j := fun _ _ _ _ => rfl
  go_enter Tryd.func8, Tryd.ntmps8
  go_wp2
  go_loopw [0, 3] (fun s0 s3 wr => ∃ A n c ys acc, s0 = .slice A n c ∧ Src wr w.heap.size A n c ys ∧ Own wr w.heap.size s3 acc ∧ Below w.heap.size w wr ∧ Hid (acc ++ enc ys = enc xs) ∧ n ≤ 65536)
    (fun s0 _ _ => sliceLen s0)
  case atStart => exact ⟨A, n, c, xs, [], rfl, h, Own.nil, Below.refl _ _, (by simp [Hid]), hn⟩
  case round =>
    obtain ⟨A1, n1, c1, ys, acc, rfl, hs, hown, hbel, hacc, hn1⟩ := hrel
    by_cases h4 : 4 ≤ n1
    · obtain ⟨x0, x1, x2, x3, r, rfl⟩ := four (by rw [hs.1]; exact h4)
      obtain ⟨g, off, rfl, hg, q0, q1, q2, q3⟩ := cells4 hs
      have hs2 := hs.cut (k := 4) h4 (by omega)
      have b0 := hs.2.2.2.1 x0 (by simp)
      have b1 := hs.2.2.2.1 x1 (by simp)
      have b2 := hs.2.2.2.1 x2 (by simp)
      have b3 := hs.2.2.2.1 x3 (by simp)
      have hsz := hbel.size
      have hc4 : 4 ≤ c1 := by have := hs.2.1; omega
      have hl := enc_short (n := n) h.1 hn hacc.out
      have hz4 := zero4 b0 b1 b2 b3
      cases hzb : (bits .or .u8 (bits .or .u8 (bits .or .u8 x0 x1) x2) x3 == 0)
      · have hz : enc4 x0 x1 x2 x3 = figs (word x0 x1 x2 x3) := by
          unfold enc4; rw [if_neg (by rw [← hz4]; simpa using hzb)]
        have HZ := Lib.hid hz
        have HS := Lib.hid hs
        clear hz hz4 hs
        go_wp2
        go_quiet (fail)
        go_wp2_with (first | (at_builtin; have tok := hl; refine wpList_app rfl _ _ rfl rfl (hown.alloc _) rfl (Src.lit _ _ (figs_bytes (word x0 x1 x2 x3)) ?_) ?_ ?_ ?_) | (go_at_call 16; refine (signs_any x0 x1 x2 x3 b0 b1 b2 b3 g off _ _ (Nat.le_refl _) (wr.drewN nq) q0 q1 q2 q3).mono ?_; rintro e w1 ⟨rfl, k1, rfl⟩))
        · simp [figs]
        · simp only [figs, List.length_cons, List.length_nil]; omega
        · simp; omega
        · intro v1 w2 hown1 hgrow hat
          have hb1 : Below w.heap.size wr w2 := Below.grown (Bdrew ((Below.refl _ _).alloc hsz _) _) hgrow (by simp; omega) (fun k hk => (hown.lt k hk).1)
          have hb2 := hbel.trans hb1
          have R := Lib.hid (round_on hacc HZ.out)
          have hs3 := hs2.below hb1
          clear hown hgrow hat hbel hb1 hs2 q0 q1 q2 q3 HS
          go_wp2
          go_roundw
          case rel => exact ⟨_, _, _, r, _, rfl, hs3, hown1, hb2, R.out, by omega⟩
          case measure => simp [sliceLen]; omega
      · have hz : enc4 x0 x1 x2 x3 = [122] := by
          unfold enc4; rw [if_pos (by rw [← hz4]; simpa using hzb)]
        have HZ := Lib.hid hz
        have HS := Lib.hid hs
        clear hz hz4 hs
        go_wp2
        go_quiet (fail)
        go_wp2_with (at_builtin; refine wpList_app rfl _ _ rfl rfl (hown.alloc _) rfl (Src.lit _ [122] ?_ ?_) ?_ ?_ ?_)
        · intro x hx; simp at hx; omega
        · simp
        · simp; omega
        · simp; omega
        · intro v1 w2 hown1 hgrow hat
          have hb1 : Below w.heap.size wr w2 := Below.grown (Bdrew ((Below.refl _ _).alloc hsz _) _) hgrow (by simp; omega) (fun k hk => (hown.lt k hk).1)
          have hb2 := hbel.trans hb1
          have R := Lib.hid (round_on hacc HZ.out)
          have hs3 := hs2.below hb1
          clear hown hgrow hat hbel hb1 hs2 q0 q1 q2 q3 HS
          go_wp2
          go_roundw
          case rel => exact ⟨_, _, _, r, _, rfl, hs3, hown1, hb2, R.out, by omega⟩
          case measure => simp [sliceLen]; omega
    · have hsz := hbel.size
      have hl := enc_short (n := n) h.1 hn hacc.out
      rcases Nat.eq_zero_or_pos n1 with h0 | h0
      · subst h0
        have hy : ys = [] := List.eq_nil_of_length_eq_zero hs.1
        subst hy
        go_wp2
        go_ret
        exact ⟨_, rfl, by have := hacc.out; simp only [enc, List.append_nil] at this; rw [← this]; exact hown, hbel⟩
      · obtain ⟨z0, z1, z2, z3, r, hz⟩ := four (ys := ys ++ [0, 0, 0]) (by rw [List.length_append, hs.1]; simp; omega)
        have ht := enc_tail hs.1 h0 (by omega) hz
        have HZ := Lib.hid hz
        have HT := Lib.hid ht
        have HL := Lib.hid hs.1
        clear hz ht
        go_wp2_with (at_builtin; refine wpList_app2 rfl (.tmp 39) (.tmp 40) rfl rfl (Own.lit wr w.heap.size [] ?_ ?_ ?_) rfl (hs.below ((Below.refl _ _).alloc hsz _)) ?_ ?_ n1 ?_ ?_)
        · intro x hx; cases hx
        · simp
        · exact hsz
        · have := HL.out; simp; omega
        · simp; omega
        · have := HL.out; simp; omega
        · intro A2 c2 w2 hown2 hs2 hg2 hat2
          have hb2 : Below wr.heap.size wr w2 := Below.grown ((Below.refl _ _).alloc (Nat.le_refl _) _) hg2 (by simp) (fun k hk => by simp [Value.ownBlock] at hk; omega)
          have hA2 : ∀ k, (Value.slice A2 n1 c2).ownBlock = some k → wr.heap.size ≤ k := fun k hk => by
            rcases hat2 with h | h
            · rw [h] at hk; simp [Value.ownBlock] at hk; omega
            · rw [h] at hk; simp at hk; omega
          go_wp2_with (at_builtin; refine wpList_app2 rfl (.tmp 41) (.tmp 42) rfl rfl (hown2.alloc _) rfl (Src.lit w2 [0, 0, 0] ?_ ?_) ?_ ?_ (n1 + 3) ?_ ?_)
          · intro x hx; simp at hx; omega
          · simp
          · have := HL.out; simp; omega
          · have := hb2.size; simp; omega
          · have := HL.out; simp; omega
          · intro A3 c3 w3 hown3 hs3 hg3 hat3
            have hb3 : Below wr.heap.size wr w3 := Below.grown (hb2.alloc hb2.size _) hg3 (by have := hb2.size; simp; omega) hA2
            rw [HZ.out] at hs3
            have hc3 : 4 ≤ c3 := by have := hs3.2.1; omega
            have ho3 : Own w3 w.heap.size u3 acc := hown.below_ hb3 (fun k hk => (hown.lt k hk).2)
            have b0 := hs3.2.2.2.1 z0 (by simp)
            have b1 := hs3.2.2.2.1 z1 (by simp)
            have b2 := hs3.2.2.2.1 z2 (by simp)
            have b3 := hs3.2.2.2.1 z3 (by simp)
            obtain ⟨g, off, rfl, hg, q0, q1, q2, q3⟩ := cells4 hs3
            have hsz3 := hb3.size
            have ho4 := ho3.alloc (.cells ((figs (word z0 z1 z2 z3)).map (.int .u8)).toArray 5)
            have HO := Lib.hid hown
            clear hs3 hown hg3 hat3 hown3 hg2 hat2 hown2 hs2 hs hA2
            go_wp2_with (first | (go_at_call 16; refine (signs_any z0 z1 z2 z3 b0 b1 b2 b3 g off _ _ (Nat.le_refl _) w3 q0 q1 q2 q3).mono ?_; rintro e w1 ⟨rfl, k1, rfl⟩) | (at_builtin; refine wpList_app2 rfl (.tmp 44) (.tmp 50) rfl rfl (ho4.drewN _) rfl (((Src.lit w3 (figs (word z0 z1 z2 z3)) (figs_bytes _) ?_).take_ (k := n1 + 1) ?_).drewN _) ?_ ?_ (acc.length + (n1 + 1)) ?_ ?_))
            · simp [figs]
            · simp [figs]; omega
            · simp [figs]; omega
            · simp; omega
            · simp [figs]; omega
            · intro A4 c4 w4 hown4 hs4 hg4 hat4
              have hb4 : Below w.heap.size w w4 := hbel.trans (Below.grown (Bdrew ((hb3.mono hsz).alloc (by omega) _) _) hg4 (by simp; omega) (fun k hk => (ho3.lt k hk).1))
              go_wp2
              go_ret
              exact ⟨_, rfl, by have := hacc.out; rw [HT.out] at this; rw [← this]; exact hown4, hb4⟩
end Go.Proofs.YtfonpcfcelahdaaDoor
