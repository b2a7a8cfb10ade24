/-
  The walk of the law FnWrong.
-/
import Derived.Test.YtfonpcfcelahdaaDoorLaw3Walk
import Derived.Test.YtfonpcfcelahdaaDoorImplRead
import Derived.Test.YtfonpcfcelahdaaDoorPlaceErr
namespace Go.Proofs.YtfonpcfcelahdaaDoor
open Go.RowKit

theorem step_app {ops : Array Oper} {o : Oper} {a : Act} {w : World} {K : Act → World → Prop} {Q : Exit → Act → World → Prop} {E : Prop} (hgd : o.guard = none) (s x : Operand)
    (ho : o.op = .call { callee := .builtin .append, args := #[s, x], argTypes := #[22, 22] }) {B B' : Nat} {v : Value} {xs ys : List Int} {A : Option Addr} {m c : Nat}
    (hs : a.eval s = v) (h : Own w B v xs) (hx : a.eval x = .slice A m c) (hr : Src w B' A m c ys) (hlim : xs.length + ys.length ≤ 1099511627776) (hB : B ≤ w.heap.size)
    (N : Nat) (hN : N = xs.length + ys.length)
    (k : ∀ A' c' w', Own w' B (.slice A' N c') (xs ++ ys) → Src w' w'.heap.size A' N c' (xs ++ ys) → w.grownBy w' v.ownBlock → K (a.put o.dst (.slice A' N c')) w') :
    if Region.wanted o (yielded ops a.tmps) = true then Oper.wp Tryd.prog o a w K Q else E := by
  have hw : Region.wanted o (yielded ops a.tmps) = true := by simp [Region.wanted, hgd]
  rw [if_pos hw]
  obtain ⟨v', w', hrun, h1, h2, h3⟩ := run_app o.type h hr hlim hB
  obtain ⟨A', c', hv, hs'⟩ := h1.src
  rw [List.length_append, ← hN] at hv hs'
  subst hv
  unfold Oper.wp
  simp only [execOp, ho, resolve, invoke, builtin, Sem.run_bind, Sem.run_pure, Result.andThen_ok, List.map_toArray, List.map_cons, List.map_nil, hs, hx, hrun]
  exact k A' c' w' h1 hs' h2
theorem Src.same_ {w w' : World} {B n c : Nat} {A : Option Addr} {xs : List Int} (h : Src w B A n c xs) (hs : ∀ g off, A = some ⟨g, off, none⟩ → w'.heap[g]? = w.heap[g]?) : Src w' B A n c xs := by
  refine ⟨h.1, h.2.1, h.2.2.1, h.2.2.2.1, fun hn => ?_⟩
  obtain ⟨g, off, e, hlt, hc⟩ := h.2.2.2.2 hn
  refine ⟨g, off, e, hlt, fun i hi => ?_⟩
  rw [← hc i hi]
  simp only [World.cell?]
  rw [hs g off e]

theorem Own.drew_ {w : World} {B : Nat} {v : Value} {xs : List Int} (h : Own w B v xs) : Own w.drew B v xs := h
theorem Src.drew_ {w : World} {B n c : Nat} {A : Option Addr} {xs : List Int} (h : Src w B A n c xs) : Src w.drew B A n c xs := h
theorem own_nil_lit (w : World) (B : Nat) (hB : B ≤ w.heap.size) : Own (w.alloc (.cells #[] 5)) B (.slice (some ⟨w.heap.size, 0, none⟩) 0 0) [] := Own.lit w B [] (fun _ h => by cases h) (by simp) hB
theorem src_one_lit (w : World) (x : Int) (h0 : 0 ≤ x) (h1 : x < 256) : Src (w.alloc (.cells #[.int .u8 x] 5)) (w.heap.size + 1) (some ⟨w.heap.size, 0, none⟩) 1 1 [x] := Src.lit w [x] (fun y hy => by simp at hy; omega) (by simp)

theorem src_grown {w w' : World} {B n c gb : Nat} {xs : List Int} {row : Option Nat} (h : Src w B (some ⟨gb, 0, none⟩) n c xs) (hg : w.grownBy w' row) (hlt : gb < w.heap.size) (hn : some gb ≠ row) : Src w' B (some ⟨gb, 0, none⟩) n c xs :=
  h.same_ (fun g off e => by
    simp only [Option.some.injEq, Addr.mk.injEq] at e
    obtain ⟨rfl, _⟩ := e
    exact hg.block _ hlt hn)

set_option maxRecDepth 100000 in
theorem wrong_any (x : Int) (w : World) : Calls Tryd.prog 15 #[.int .u8 x] w fun e w' => e = .returned (.bool (decide (117 < x ∧ x ≠ 122))) ∧ w' = w := by
  by_cases h1 : 117 < x
  · by_cases h2 : x = 122
    · subst h2
      go_enter Tryd.func15, Tryd.ntmps15
      go_wp2
      go_ret
      exact ⟨rfl, rfl⟩
    · go_enter Tryd.func15, Tryd.ntmps15
      go_wp2
      go_ret
      exact ⟨by simp [h1, h2], rfl⟩
  · go_enter Tryd.func15, Tryd.ntmps15
    go_wp2
    go_ret
    exact ⟨by simp; omega, rfl⟩

set_option maxRecDepth 100000 in
set_option maxHeartbeats 4000000 in
theorem law5_walk (A G : Option Addr) (n c m gc : Nat) (ea : Addr) (z x : Int) (xs gs : List Int) (w : World) (h : Src w w.heap.size A n c xs) (hg : Ints w w.heap.size G m gc gs) (hz : z ≤ 9223372036854775807) (hx0 : 0 ≤ x) (hx1 : x < 256)
    (hv : w.cell? ⟨0, 0, none⟩ = some (.iface 104 (.pointer (some ea)))) (hv1 : w.cell? ⟨1, 0, none⟩ = some (.iface 92 (.agg #[.pointer (some ⟨3, 41, none⟩)]))) :
    Calls Tryd.prog 6 #[.slice A n c, .slice G m gc, .int .i64 z, .int .u8 x] w fun e w' => e = .returned (.bool true) ∧ Below w.heap.size w w' := by
  have hm := h.2.2.1
  have hnc := h.2.1
  have hmg := hg.2.2.1
  have hmc := hg.2.1
  unfold maxLen at hm hmg
  by_cases h1 : 2147483647 < n
  · go_enter Tryd.func6, Tryd.ntmps6
    go_wp2
    go_ret
    exact ⟨rfl, Below.refl _ _⟩
  by_cases h2 : 2147483647 < m
  · go_enter Tryd.func6, Tryd.ntmps6
    go_wp2
    go_ret
    exact ⟨rfl, Below.refl _ _⟩
  by_cases h3 : 65536 < n
  · go_enter Tryd.func6, Tryd.ntmps6
    go_wp2
    go_ret
    exact ⟨rfl, Below.refl _ _⟩
  by_cases h4 : 1000 < m
  · go_enter Tryd.func6, Tryd.ntmps6
    go_wp2
    go_ret
    exact ⟨rfl, Below.refl _ _⟩
  by_cases h5 : z < 0
  · go_enter Tryd.func6, Tryd.ntmps6
    go_wp2
    go_ret
    exact ⟨rfl, Below.refl _ _⟩
  by_cases h6 : 117 < x ∧ x ≠ 122
  · have hwr := Lib.hid (wrong_any x)
    have hby := h.2.2.2.1
    have hel := enc_le xs
    rw [h.1] at hel
    have hsl := spread_length gs (enc xs) 0
    have hrun := run_spread (gs := gs) hby
    obtain ⟨S, hS⟩ : ∃ S, S = spread gs 0 (enc xs) := ⟨_, rfl⟩
    obtain ⟨E, hE⟩ : ∃ E, E = enc xs := ⟨_, rfl⟩
    have HE := Lib.hid hE
    have HS := Lib.hid hS
    have hEl : E.length ≤ 81920 := by rw [hE]; omega
    have hSl : S.length ≤ 500000 := by rw [hS]; omega
    rw [← hS] at hrun
    obtain ⟨L, hL⟩ : ∃ L, L = S.length := ⟨_, rfl⟩
    obtain ⟨q, hq⟩ : ∃ q : Nat, z % ((L : Int) + 1) = (q : Int) := ⟨(z % ((L : Int) + 1)).toNat, by have := Int.emod_nonneg z (show (L : Int) + 1 ≠ 0 by omega); omega⟩
    have hqL : q ≤ L := by have := Int.emod_lt_of_pos z (show (0 : Int) < (L : Int) + 1 by omega); omega
    have HRUN := Lib.hid hrun
    have HL := Lib.hid hL
    have hLb : L ≤ 500000 := by omega
    have H6 := Lib.hid h6
    have hd : decide (117 < x ∧ x ≠ 122) = true := by simp [h6]
    rw [hd] at hwr
    clear hrun hL hE hS hsl hel hby hSl hd h6
    have H := Lib.hid h
    have HG := Lib.hid hg
    have HV := Lib.hid hv
    have HV1 := Lib.hid hv1
    clear h hg hv hv1
    go_enter Tryd.func6, Tryd.ntmps6
    go_wp2_with (first
      | (go_at_call 15; refine (hwr.out w).mono ?_; rintro e w' ⟨rfl, hw'⟩; rw [hw']; clear hw')
      | (go_at_call 8; refine (specEncode_any A n c xs w H.out (by omega)).mono ?_; rintro e w1 ⟨v1, rfl, ho1, hb1⟩; rw [← HE.out] at ho1; obtain ⟨A1, c1, rfl, hs1⟩ := ho1.src; refine Hid.out ?_))
    refine Lib.hid ?_
    have hg1 := (HG.out.below hb1).more hb1.size
    go_wp2_with (go_at_call 7; refine (spread_any A1 G E.length c1 m gc E gs w1 hs1 (by omega) hg1).mono ?_; rintro e w2 ⟨v2, rfl, ho2, hb2⟩; rw [HE.out, ← HS.out] at ho2; obtain ⟨A2, c2, rfl, hs2⟩ := ho2.src; rw [← HL.out] at hs2 ⊢; refine Hid.out ?_)
    refine Lib.hid ?_
    have hLc : L ≤ c2 := hs2.2.1
    have hsl1 : ∀ W, (Instr.slice 22 (.slice A2 L c2) none (some (.int .i64 (q : Int))) none).run Tryd.prog W = .ok (.slice A2 q c2) W := by
      intro W
      have hs : ∀ w : World, (sizeOf (Tryd.prog.elem 22)).run Tryd.prog w = .ok 1 w := fun w => by kernel_rfl
      rw [run_slice_h (P := Tryd.prog) W 22 A2 L c2 (by kernel_rfl) .i64 (q : Int) (by omega) (by omega), hs]
      simp [sliced, Result.andThen]
      intro _
      cases A2 <;> simp [Addr.add]
    have hdr := hs2.drop_ (k := q) hqL
    obtain ⟨D, cD, hD, hdr2⟩ : ∃ D cD, (Value.slice (if c2 = q then A2 else A2.map (·.add q)) (L - q) (c2 - q)) = .slice D (L - q) cD ∧ Src w2 w2.heap.size D (L - q) cD (S.drop q) := ⟨_, _, rfl, hdr⟩
    have hsl2 : ∀ W, (Instr.slice 22 (.slice A2 L c2) (some (.int .i64 (q : Int))) none none).run Tryd.prog W = .ok (.slice D (L - q) cD) W := by
      intro W
      rw [← hD]
      have hs : ∀ w : World, (sizeOf (Tryd.prog.elem 22)).run Tryd.prog w = .ok 1 w := fun w => by kernel_rfl
      rw [run_slice_l (P := Tryd.prog) W 22 A2 L c2 (by kernel_rfl) .i64 (q : Int) (by omega) (by omega), hs]
      simp [sliced, Result.andThen]
    clear hD hdr
    go_wp2
    have hq1 := hs2.take_ (k := q) hqL
    have hal1 : ∀ o, Below w2.heap.size w2 (w2.alloc o).drew := fun o => Below.drew ((Below.refl _ _).alloc (Nat.le_refl _) _)
    have hal2 : ∀ o o', Below w2.heap.size w2 ((w2.alloc o).alloc o').drew := fun o o' => Below.drew (((Below.refl _ _).alloc (Nat.le_refl _) _).alloc (by rw [alloc_size_]; omega) _)
    have on1 := (own_nil_lit w2 w2.heap.size (Nat.le_refl _)).drew_
    have on2 := ((own_nil_lit w2 w2.heap.size (Nat.le_refl _)).alloc (.cells #[.int .u8 x] 5)).drew_
    have on3 := (own_nil_lit (w2.alloc (.cells #[.int .u8 x] 5)) w2.heap.size (by rw [alloc_size_]; omega)).drew_
    rw [alloc_size_] at on3
    have sl2 := (src_one_lit (w2.alloc (.cells #[] 5)) x hx0 hx1).drew_
    rw [alloc_size_] at sl2
    have sl3 := ((src_one_lit w2 x hx0 hx1).below ((Below.refl (w2.heap.size + 1) (w2.alloc (.cells #[.int .u8 x] 5))).alloc (by rw [alloc_size_]; exact Nat.le_refl _) (.cells #[] 5))).drew_
    have HON1 := Lib.hid on1
    have HON2 := Lib.hid on2
    have HON3 := Lib.hid on3
    have HSL2 := Lib.hid sl2
    have HSL3 := Lib.hid sl3
    have HQ1 := Lib.hid hq1
    have HAL1 := Lib.hid hal1
    have HAL2 := Lib.hid hal2
    have HDR2 := Lib.hid hdr2
    have HTL : Hid ((S.take q).length = q) := by rw [Hid, List.length_take, ← HL.out]; omega
    clear on1 on2 on3 sl2 sl3 hq1 hal1 hal2 hdr2
    go_region_law (first
      | (refine step_app rfl (.tmp 50) (.tmp 53) rfl (B := w2.heap.size) (v := .slice (some ⟨_, 0, none⟩) 0 0) (xs := []) (ys := S.take q) rfl (by first | exact HON1.out | exact HON2.out | exact HON3.out) rfl (by first | exact HQ1.out.below (HAL1.out _) | exact HQ1.out.below (HAL2.out _ _)) (by rw [HTL.out]; simp; omega) (by first | (simp; done) | (simp; omega)) q (by rw [HTL.out]; simp) ?_; intro A3 c3 w3 hown3 hs3 hg3; have hlt3 := hown3.lt; have hb3 : Below w2.heap.size w2 w3 := by first | exact Below.grown (HAL1.out _) hg3 (by simp) (fun k hk => by simp [Value.ownBlock] at hk; omega) | exact Below.grown (HAL2.out _ _) hg3 (by simp; omega) (fun k hk => by simp [Value.ownBlock] at hk; omega))
      | (refine step_app rfl (.tmp 54) (.tmp 56) rfl (B := w2.heap.size) (xs := [] ++ S.take q) (ys := [x]) rfl (by first | exact hown3 | exact hown3.alloc _) rfl (by first | exact src_one_lit w3 x hx0 hx1 | exact src_grown HSL2.out hg3 (by simp) (by simp [Value.ownBlock]) | exact src_grown HSL3.out hg3 (by simp; omega) (by simp [Value.ownBlock])) (by rw [List.nil_append, HTL.out]; simp; omega) (by have := hb3.size; simp; omega) (q + 1) (by rw [List.nil_append, HTL.out]; rfl) ?_; intro A4 c4 w4 hown4 hs4 hg4; have hb4 : Below w2.heap.size w2 w4 := by first | exact Below.grown hb3 hg4 hb3.size (fun k hk => (hown3.lt k hk).1) | exact Below.grown (hb3.alloc hb3.size _) hg4 (by have := hb3.size; simp; omega) (fun k hk => (hown3.lt k hk).1))
      | (refine step_app rfl (.tmp 57) (.tmp 60) rfl (B := w2.heap.size) (xs := ([] ++ S.take q) ++ [x]) (ys := S.drop q) rfl hown4 rfl (HDR2.out.below hb4) (by simp only [List.nil_append, List.length_append, List.length_cons, List.length_nil, HTL.out, List.length_drop, ← HL.out]; omega) hb4.size (L + 1) (by simp only [List.nil_append, List.length_append, List.length_cons, List.length_nil, HTL.out, List.length_drop, ← HL.out]; omega) ?_; intro A5 c5 w5 hown5 hs5 hg5; have hb5 : Below w2.heap.size w2 w5 := Below.grown hb4 hg5 hb4.size (fun k hk => (hown4.lt k hk).1)))
    all_goals
      have hall : ([] ++ S.take q) ++ [x] ++ S.drop q = S.take q ++ x :: S.drop q := by simp
      rw [hall] at hs5
      have hdec := decode_wrong HRUN.out H6.out.1 H6.out.2 q (by rw [← HL.out]; exact hqL) (room := 4 * (L + 1) + 8) (by rw [← HL.out]; omega) true
      have hnone : run (S.take q ++ x :: S.drop q) = none := run_wrong H6.out.1 H6.out.2
      have hz1 := hb1.size
      have hz2 := hb2.size
      have hbw5 : Below w.heap.size w w5 := (hb1.trans (hb2.mono hz1)).trans (hb5.mono (by omega))
      have hw1 : 1 < w.heap.size := block_lt HV1.out
      have hz5 := hbw5.size
      have hdw := implDecode_with A5 (L + 1) c5 (S.take q ++ x :: S.drop q) true w5 hs5 (by omega) (fun W hW => by
        rw [hdec]
        exact place_err (q : Int) ea W ((hW.cell (p := ⟨0, 0, none⟩) (by show 0 < _; omega)).trans ((hbw5.cell (p := ⟨0, 0, none⟩) (by show 0 < _; omega)).trans HV.out)) ((hW.cell (p := ⟨1, 0, none⟩) (by show 1 < _; omega)).trans ((hbw5.cell (p := ⟨1, 0, none⟩) (by show 1 < _; omega)).trans HV1.out)))
      simp only [hdec, atV] at hdw
      have HDW := Lib.hid hdw
      have HS5 := Lib.hid hs5
      have HNONE := Lib.hid hnone
      clear hdw hs5 hown5 hg5 hnone hdec hall
      go_wp2_with (go_at_call 9; refine HDW.out.mono ?_; rintro e w6 ⟨A6, m6, c6, rfl, _, _, hb6⟩; refine Hid.out ?_)
      refine Lib.hid ?_
      have hb56 : Below w.heap.size w w6 := hbw5.trans (hb6.mono hz5)
      have HR := Lib.hid (implRead_any A5 none (L + 1) c5 0 0 7 ea (S.take q ++ x :: S.drop q) [] w6 ((HS5.out.below hb6).more hb6.size) ⟨rfl, Nat.le_refl _, by unfold maxLen; omega, (fun y hy => by cases hy), fun h => absurd h (by omega)⟩ (fun y hy => by cases hy) (by omega) (by omega) (by omega) (by unfold maxLen; omega) ((hb56.cell (p := ⟨0, 0, none⟩) (by show 0 < _; omega)).trans HV.out))
      go_wp2_with (go_at_call 14; refine HR.out.mono ?_; rintro e w7 ⟨hb7, ⟨v7, d7, hr7, _⟩ | ⟨_, v7, rfl⟩⟩; exact absurd (hr7.symm.trans HNONE.out) (by simp))
      go_ret
      exact ⟨rfl, hb56.trans (hb7.mono (by have := hb56.size; omega))⟩
  · have hwr := Lib.hid (wrong_any x)
    rw [decide_eq_false h6] at hwr
    clear h6
    go_enter Tryd.func6, Tryd.ntmps6
    go_wp2_with (go_at_call 15; refine (hwr.out w).mono ?_; rintro e w' ⟨rfl, hw'⟩; rw [hw']; clear hw')
    go_ret
    exact ⟨rfl, Below.refl _ _⟩
end Go.Proofs.YtfonpcfcelahdaaDoor
