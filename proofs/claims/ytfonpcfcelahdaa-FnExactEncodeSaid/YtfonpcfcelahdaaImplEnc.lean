/-
  What impl.Encode does.
-/
import Derived.Test.YtfonpcfcelahdaaEnc
namespace Go.Proofs.Ytfonpcfcelahdaa
open Go.RowKit

theorem Src.far_ {w : World} {B b off len n c : Nat} {A : Option Addr} {xs : List Int} (h : Src w B A n c xs) (hne : ∀ g, (Value.slice A n c).ownBlock = some g → g ≠ b) : Far w b off len A n c xs := by
  refine ⟨h.1, h.2.1, h.2.2.1, h.2.2.2.1, fun hn => ?_⟩
  obtain ⟨g, o, e, _, hc⟩ := h.2.2.2.2 hn
  subst e
  exact ⟨g, o, rfl, .inl (hne g rfl), hc⟩

theorem ret_int {k : IntKind} {a b : Int} (h : a = b) : Ending.returned (.int k a) = .returned (.int k b) := by rw [h]

theorem max_any (n N : Nat) (w : World) (hn : n ≤ 65536) (hN : N = (n + 3) / 4 * 5) : Calls Try.prog 7 #[.int .i64 (n : Int)] w fun e w' => e = .returned (.int .i64 (N : Int)) ∧ w = w' := by
  have H := Lib.hid hN
  clear hN
  go_enter Try.func7, Try.ntmps7
  go_wp2
  go_ret
  exact ⟨ret_int (by have := H.out; omega), rfl⟩

set_option maxHeartbeats 1000000 in
theorem implEncode_any (A : Option Addr) (n c : Nat) (xs : List Int) (w : World) (h : Src w w.heap.size A n c xs) (hn : n ≤ 65536) :
    Calls Try.prog 5 #[.slice A n c] w fun e w' => ∃ A' m c', e = .returned (.slice A' m c') ∧ Src w' w'.heap.size A' m c' (enc xs) ∧ Below w.heap.size w w' := by
  have hel := enc_le xs
  have hxl := h.1
  obtain ⟨N, hN⟩ : ∃ N, N = (n + 3) / 4 * 5 := ⟨_, rfl⟩
  obtain ⟨E, hE⟩ : ∃ E, E = (enc xs).length := ⟨_, rfl⟩
  rw [hxl, ← hN, ← hE] at hel
  have HN := Lib.hid hN
  have HX := Lib.hid hxl
  have HE := Lib.hid hE
  have hNb : N ≤ 81925 := by omega
  clear hN hxl hE
  go_enter Try.func5, Try.ntmps5
  go_wp2_with (first | (go_at_call 7; refine (max_any n N w hn HN.out).mono ?_; rintro e w' ⟨rfl, rfl⟩) | at_make; refine wpList_mk _ rfl (.tmp 7) (.tmp 7) rfl _ _ _ _ N rfl rfl ?_ ?_ ?_ ?_)
  · rfl
  · rfl
  · omega
  · intro w1 hr1 hg1 hsz1
    have hb1 : Below w.heap.size w w1 := (Below.refl _ _).grown hg1 (Nat.le_refl _) (fun k hk => by cases hk)
    go_wp2_with (at_builtin; refine wpList_app2 rfl (.tmp 10) (.tmp 11) rfl rfl (Own.lit w1 w1.heap.size [] ?_ ?_ ?_) rfl (h.below (hb1.alloc (by omega) _)) ?_ ?_ n ?_ ?_)
    · intro x hx; cases hx
    · simp
    · exact Nat.le_refl _
    · have := HX.out; simp; omega
    · simp
    · have := HX.out; simp; omega
    · intro A2 c2 w2 hown2 hs2 hg2 hat2
      have hb2 : Below w1.heap.size w1 w2 := Below.grown ((Below.refl _ _).alloc (Nat.le_refl _) _) hg2 (by simp) (fun k hk => by simp [Value.ownBlock] at hk; omega)
      have hr2 : Room w2 w.heap.size N := by
        obtain ⟨cs, t, hc, hn⟩ := hr1
        exact ⟨cs, t, (hb2.block _ hsz1).trans hc, hn⟩
      have hf2 : Far w2 w.heap.size 0 N A2 n c2 xs := Src.far_ (by simpa using hs2) fun g hg => by
        rcases hat2 with h | h
        · rw [h] at hg; simp [Value.ownBlock] at hg; omega
        · rw [h] at hg; simp at hg; omega
      clear hat2 hg2 hown2 hs2 hg1
      go_wp2_with (go_at_call 8; refine (encode_any w.heap.size 0 N N A2 n c2 xs w2 ?_ hf2 hn ?_ (Nat.le_refl _) ?_).mono ?_; rotate_right; rintro e w3 ⟨rfl, hw3, hh3⟩; rw [← HE.out])
      · go_ret
        have hb3 := hw3.below (Nat.le_refl _)
        refine ⟨_, _, _, rfl, ?_, (hb1.trans (hb2.mono (by omega))).trans hb3⟩
        have := hb2.size
        have := hw3.size
        exact Has.src hh3 (enc_bytes h.2.2.2.1) HE.out.symm hel (by unfold maxLen; omega) (by omega)
      · simpa using hr2
      · have := HN.out; omega
      · unfold maxLen; omega
end Go.Proofs.Ytfonpcfcelahdaa
