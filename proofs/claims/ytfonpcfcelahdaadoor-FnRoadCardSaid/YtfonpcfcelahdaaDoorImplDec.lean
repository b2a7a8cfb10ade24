/-
  What impl.Decode does, by what impl.place does.
-/
import Derived.Test.YtfonpcfcelahdaaDoorDec
import Derived.Test.YtfonpcfcelahdaaDoorDecFacts
import Derived.Deep.RegionWith
import Derived.Deep.RegionHeld3
namespace Go.Proofs.YtfonpcfcelahdaaDoor
open Go.RowKit

/-- The place of an error, -1 for none. -/
def atV : Option Nat → Int
  | none => -1
  | some i => (i : Int)

set_option maxRecDepth 100000 in
set_option maxHeartbeats 1000000 in
theorem place_nil (w : World) : Calls Tryd.prog 18 #[.nilIface] w fun e w' => e = .returned (.int .i64 (-1)) ∧ Below w.heap.size w w' := by
  go_enter Tryd.func18, Tryd.ntmps18
  go_wp2
  go_ret
  exact ⟨rfl, by go_grown⟩

theorem Src.far_ {w : World} {B b off len n c : Nat} {A : Option Addr} {xs : List Int} (h : Src w B A n c xs) (hne : ∀ g, (Value.slice A n c).ownBlock = some g → g ≠ b) : Far w b off len A n c xs := by
  refine ⟨h.1, h.2.1, h.2.2.1, h.2.2.2.1, fun hn => ?_⟩
  obtain ⟨g, o, e, _, hc⟩ := h.2.2.2.2 hn
  subst e
  exact ⟨g, o, rfl, .inl (hne g rfl), hc⟩

/-- Block g is a row of n bytes. -/
def Row5 (w : World) (g n : Nat) : Prop := ∃ cs : Array Value, w.heap[g]? = some (.cells cs 5 (0, 0)) ∧ cs.size = n
theorem Row5.room {w : World} {g n : Nat} (h : Row5 w g n) : Room w g n := by
  obtain ⟨cs, hc, hn⟩ := h
  exact ⟨cs, 5, hc, by omega⟩
theorem Row5.below {w w' : World} {g n B : Nat} (h : Row5 w g n) (hb : Below B w w') (hg : g < B) : Row5 w' g n := by
  obtain ⟨cs, hc, hn⟩ := h
  exact ⟨cs, (hb.block g hg).trans hc, hn⟩
theorem Row5.wrote {w w' : World} {g n b off len : Nat} (h : Row5 w g n) (hw : Wrote w w' b off len) : Row5 w' g n := by
  obtain ⟨cs, hc, hn⟩ := h
  by_cases hb : g = b
  · subst hb
    obtain ⟨c1, g1, s1, _⟩ := hw.row cs 5 hc
    exact ⟨c1, g1, by omega⟩
  · exact ⟨cs, (hw.block g hb).trans hc, hn⟩
theorem Row5.own {w : World} {g n m B : Nat} {xs : List Int} (h : Row5 w g n) (hx : Has w g 0 xs) (hb : AllBytes xs) (hl : m = xs.length) (hm : m ≤ n) (hn : n ≤ maxLen) (hB : B ≤ g) : Own w B (.slice (some ⟨g, 0, none⟩) m n) xs := by
  obtain ⟨cs, hc, hs⟩ := h
  subst hl
  refine ⟨hb, by simp, .inr ⟨g, n, cs, rfl, hB, hc, hm, hn, by omega, ?_⟩⟩
  rw [Nat.mul_one]
  apply List.ext_getElem?
  intro i
  by_cases hi : i < xs.length
  · have h1 := hx i hi
    rw [Nat.zero_add, cell_of_row w g i cs 5 _ hc] at h1
    rw [List.getElem?_take, if_pos hi, Array.getElem?_toList, h1]
    simp [List.getD, List.getElem?_eq_getElem hi]
  · rw [List.getElem?_eq_none (by rw [List.length_take]; omega), List.getElem?_eq_none (by simpa using hi)]

/-- make([]byte, n), the row's type told. -/
theorem wpList_mk5 (w : World) {ops : Array Oper} {rest : List Oper} {o : Oper} {a : Act} {Q : Exit → Act → World → Prop} (hg : o.guard = none) (l c : Operand) (hop : o.op = Op.makeSlice 22 l c)
    (kl kc : IntKind) (L C : Int) (n : Nat) (hl : a.eval l = .int kl L) (hc : a.eval c = .int kc C) (hL : L = (n : Int)) (hC : C = (n : Int)) (hn : n ≤ 1099511627776)
    (hK : ∀ w', Row5 w' w.heap.size n → w.grownBy w' none → w.heap.size < w'.heap.size → wpList Tryd.prog ops Q rest (a.put o.dst (.slice (some ⟨w.heap.size, 0, none⟩) n n)) w') : wpList Tryd.prog ops Q (o :: rest) a w := by
  obtain ⟨i0, hi, hz0, hz1, hz2⟩ := info_parts Tryd.info5
  refine wpList_make_full (P := Tryd.prog) w hg l c 22 hop w.heap.size 5 i0 (.int .u8 0) 1 Tryd.underlying22 hi hz0 hz1 kl kc L C n hl hc hL hC (by rw [hz2]; omega) (by unfold maxLen; omega) (Nat.le_refl _) fun w' hown hgr => ?_
  rcases hown.2 with ⟨h', _⟩ | ⟨g, cap, cur, h', _, hh, hnc, _, hcs, _⟩
  · cases h'
  · simp only [Value.slice.injEq, Option.some.injEq, Addr.mk.injEq, and_true, true_and] at h'
    obtain ⟨rfl, rfl⟩ := h'
    exact hK w' ⟨cur, hh, by omega⟩ hgr (Array.getElem?_eq_some_iff.1 hh).1

set_option maxRecDepth 100000 in
set_option maxHeartbeats 2000000 in
theorem implDecode_with (A : Option Addr) (n c : Nat) (xs : List Int) (flush : Bool) (w : World) (h : Src w w.heap.size A n c xs) (hn : n ≤ 1000000)
    (hpl : ∀ W, Below w.heap.size w W → Calls Tryd.prog 18 #[errV (decode (4 * n + 8) xs flush).2.2] W fun e W' => e = .returned (.int .i64 (atV (decode (4 * n + 8) xs flush).2.2)) ∧ Below W.heap.size W W') :
    Calls Tryd.prog 9 #[.slice A n c, .bool flush] w fun e w' => ∃ A' m c', e = .returned (.tuple #[.slice A' m c', .int .i64 (decode (4 * n + 8) xs flush).2.1, .int .i64 (atV (decode (4 * n + 8) xs flush).2.2)]) ∧
      Src w' w'.heap.size A' m c' (decode (4 * n + 8) xs flush).1 ∧ Own w' w.heap.size (.slice A' m c') (decode (4 * n + 8) xs flush).1 ∧ Below w.heap.size w w' := by
  obtain ⟨out, hout⟩ : ∃ out, out = (decode (4 * n + 8) xs flush).1 := ⟨_, rfl⟩
  obtain ⟨took, htook⟩ : ∃ took, took = (decode (4 * n + 8) xs flush).2.1 := ⟨_, rfl⟩
  obtain ⟨er, her⟩ : ∃ er, er = (decode (4 * n + 8) xs flush).2.2 := ⟨_, rfl⟩
  have hlen := decode_len (4 * n + 8) xs flush
  have hby := decode_bytes (4 * n + 8) xs flush
  have hdec := fun b off dcap A n' c w => @decode_any b off (4 * n + 8) dcap A n' c xs flush w
  rw [← hout] at hlen hby
  simp only [← hout, ← htook, ← her] at hdec hpl ⊢
  obtain ⟨E, hE⟩ : ∃ E, E = out.length := ⟨_, rfl⟩
  rw [← hE] at hlen
  have HE := Lib.hid hE
  have HX := Lib.hid h.1
  have HDEC := Lib.hid hdec
  have HPL := Lib.hid hpl
  have HS := Lib.hid h
  have HBY := Lib.hid hby
  clear hout htook her hE hdec hpl h hby
  go_enter Tryd.func9, Tryd.ntmps9
  go_wp2_with (at_make; refine wpList_mk5 _ rfl (.tmp 14) (.tmp 14) rfl _ _ _ _ (4 * n + 8) rfl rfl ?_ ?_ ?_ ?_)
  · simp
  · simp
  · omega
  · intro w1 hr1 hg1 hsz1
    have hb1 : Below w.heap.size w w1 := (Below.refl _ _).grown hg1 (Nat.le_refl _) (fun k hk => by cases hk)
    go_wp2_with (at_builtin; refine wpList_app2 rfl (.tmp 18) (.tmp 19) rfl rfl (Own.lit w1 w1.heap.size [] ?_ ?_ ?_) rfl (HS.out.below (hb1.alloc (by omega) _)) ?_ ?_ n ?_ ?_)
    · intro x hx; cases hx
    · simp
    · exact Nat.le_refl _
    · have := HX.out; simp; omega
    · simp
    · have := HX.out; simp; omega
    · intro A2 c2 w2 hown2 hs2 hg2 hat2
      have hb2 : Below w1.heap.size w1 w2 := Below.grown ((Below.refl _ _).alloc (Nat.le_refl _) _) hg2 (by simp) (fun k hk => by simp [Value.ownBlock] at hk; omega)
      have hr5 : Row5 w2 w.heap.size (4 * n + 8) := hr1.below hb2 hsz1
      have hr2 : Room w2 w.heap.size (4 * n + 8) := hr5.room
      have hf2 : Far w2 w.heap.size 0 (4 * n + 8) A2 n c2 xs := Src.far_ (by simpa using hs2) fun g hg => by
        rcases hat2 with h | h
        · rw [h] at hg; simp [Value.ownBlock] at hg; omega
        · rw [h] at hg; simp at hg; omega
      have hbw2 := hb1.trans (hb2.mono (by omega))
      clear hat2 hg2 hown2 hs2 hg1
      go_wp2_with (go_at_call 17; refine (HDEC.out w.heap.size 0 (4 * n + 8) A2 n c2 w2 ?_ hf2 (Nat.le_refl _) ?_).mono ?_; rotate_right; rintro e w3 ⟨rfl, hw3, hh3⟩; rw [← HE.out])
      · have hb3 := hbw2.trans (hw3.below (Nat.le_refl _))
        go_region_with (go_at_call 18; refine (HPL.out _ (Below.drew hb3)).mono ?_; rintro e w4 ⟨rfl, hb4⟩)
        all_goals
          have hb4 : Below w3.heap.size w3 w4 := ⟨hb4.os, hb4.tape, hb4.output, hb4.size, hb4.block⟩
          go_wp2
          go_ret3
          refine ⟨_, _, _, rfl, ?_, ?_, hb3.trans ?_⟩
          · have hlt : w.heap.size < w3.heap.size := by have := hb2.size; have := hw3.size; omega
            exact (Has.src hh3 HBY.out HE.out.symm hlen (by unfold maxLen; omega) hlt).below hb4 |>.more hb4.size
          · have hlt : w.heap.size < w3.heap.size := by have := hb2.size; have := hw3.size; omega
            exact ((hr5.wrote hw3).own hh3 HBY.out HE.out hlen (by unfold maxLen; omega) (Nat.le_refl _)).below_ hb4 (fun k hk => by simp [Value.ownBlock] at hk; omega)
          · exact hb4.mono (by have := hb3.size; simpa using this)
      · simpa using hr2
      · unfold maxLen; omega

/-- Where all is well. -/
theorem implDecode_fine (A : Option Addr) (n c : Nat) (xs : List Int) (flush : Bool) (w : World) (h : Src w w.heap.size A n c xs) (hn : n ≤ 1000000) {out : List Int} {took : Nat} (hd : decode (4 * n + 8) xs flush = (out, took, none)) :
    Calls Tryd.prog 9 #[.slice A n c, .bool flush] w fun e w' => ∃ A' m c', e = .returned (.tuple #[.slice A' m c', .int .i64 (took : Int), .int .i64 (-1)]) ∧ Src w' w'.heap.size A' m c' out ∧ Own w' w.heap.size (.slice A' m c') out ∧ Below w.heap.size w w' := by
  have := implDecode_with A n c xs flush w h hn (by rw [hd]; exact fun W _ => place_nil W)
  rw [hd] at this
  exact this
end Go.Proofs.YtfonpcfcelahdaaDoor
