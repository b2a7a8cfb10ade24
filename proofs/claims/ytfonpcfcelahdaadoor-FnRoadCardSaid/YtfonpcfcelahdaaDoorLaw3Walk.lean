/-
  The walk of the law FnParts.
-/
import Derived.Test.YtfonpcfcelahdaaDoorLaw2Walk
import Derived.Test.YtfonpcfcelahdaaDoorGroups
namespace Go.Proofs.YtfonpcfcelahdaaDoor
open Go.RowKit

/-- append under a guard that says yes. -/
theorem wpList_app2g {ops : Array Oper} {rest : List Oper} {o : Oper} {a : Act} {Q : Exit → Act → World → Prop} {w : World} (hgd : Region.wanted o (yielded ops a.tmps) = true) (s x : Operand)
    (ho : o.op = .call { callee := .builtin .append, args := #[s, x], argTypes := #[22, 22] }) {B B' : Nat} {v : Value} {xs ys : List Int} {A : Option Addr} {m c : Nat}
    (hs : a.eval s = v) (h : Own w B v xs) (hx : a.eval x = .slice A m c) (hr : Src w B' A m c ys) (hlim : xs.length + ys.length ≤ 1099511627776) (hB : B ≤ w.heap.size)
    (N : Nat) (hN : N = xs.length + ys.length)
    (k : ∀ A' c' w', Own w' B (.slice A' N c') (xs ++ ys) → Src w' w'.heap.size A' N c' (xs ++ ys) → w.grownBy w' v.ownBlock → wpList Tryd.prog ops Q rest (a.put o.dst (.slice A' N c')) w') : wpList Tryd.prog ops Q (o :: rest) a w := by
  refine wpList_step fun K hK => ?_
  rw [if_pos hgd]
  obtain ⟨v', w', hrun, h1, h2, _⟩ := run_app o.type h hr hlim hB
  obtain ⟨A', c', hv, hs'⟩ := h1.src
  rw [List.length_append, ← hN] at hv hs'
  subst hv
  unfold Oper.wp execOp
  simp only [ho, resolve, invoke, builtin, Sem.run_bind, Sem.run_pure, Result.andThen_ok, List.map_toArray, List.map_cons, List.map_nil, hs, hx, hrun]
  exact hK _ _ (k A' c' w' h1 hs' h2)

set_option maxRecDepth 100000 in
set_option maxHeartbeats 4000000 in
theorem law3_walk (A G : Option Addr) (n c m gc : Nat) (z : Int) (xs gs : List Int) (w : World) (h : Src w w.heap.size A n c xs) (hg : Ints w w.heap.size G m gc gs) (hz : z ≤ 9223372036854775807) :
    Calls Tryd.prog 4 #[.slice A n c, .slice G m gc, .int .i64 z] w fun e w' => e = .returned (.bool true) ∧ Below w.heap.size w w' := by
  have hm := h.2.2.1
  have hnc := h.2.1
  have hmg := hg.2.2.1
  have hmc := hg.2.1
  unfold maxLen at hm hmg
  by_cases h1 : 2147483647 < n
  · go_enter Tryd.func4, Tryd.ntmps4
    go_wp2
    go_ret
    exact ⟨rfl, Below.refl _ _⟩
  by_cases h2 : 2147483647 < m
  · go_enter Tryd.func4, Tryd.ntmps4
    go_wp2
    go_ret
    exact ⟨rfl, Below.refl _ _⟩
  by_cases h3 : 65536 < n
  · go_enter Tryd.func4, Tryd.ntmps4
    go_wp2
    go_ret
    exact ⟨rfl, Below.refl _ _⟩
  by_cases h4 : 1000 < m
  · go_enter Tryd.func4, Tryd.ntmps4
    go_wp2
    go_ret
    exact ⟨rfl, Below.refl _ _⟩
  by_cases h5 : z < 0
  · go_enter Tryd.func4, Tryd.ntmps4
    go_wp2
    go_ret
    exact ⟨rfl, Below.refl _ _⟩
  have hby := h.2.2.2.1
  have hel := enc_le xs
  rw [h.1] at hel
  have hsl := spread_length gs (enc xs) 0
  have hrun := run_spread (gs := gs) hby
  obtain ⟨S, hS⟩ : ∃ S, S = spread gs 0 (enc xs) := ⟨_, rfl⟩
  obtain ⟨E, hE⟩ : ∃ E, E = enc xs := ⟨_, rfl⟩
  have HE := Lib.hid hE
  have HS := Lib.hid hS
  have hEl : E.length ≤ 81920 := by rw [hE]; omega
  have hSl : S.length ≤ 500000 := by rw [hS]; omega
  rw [← hS] at hrun
  obtain ⟨L, hL⟩ : ∃ L, L = S.length := ⟨_, rfl⟩
  obtain ⟨q, hq⟩ : ∃ q : Nat, z % ((L : Int) + 1) = (q : Int) := ⟨(z % ((L : Int) + 1)).toNat, by have := Int.emod_nonneg z (show (L : Int) + 1 ≠ 0 by omega); omega⟩
  have hqL : q ≤ L := by have := Int.emod_lt_of_pos z (show (0 : Int) < (L : Int) + 1 by omega); omega
  obtain ⟨ra, rb, took, hd1, hgr, htk, hrb, hab⟩ := parts hrun q (by omega)
  have hd2 : decode (4 * (L - took) + 8) (S.drop took) true = (rb, L - took, none) := by
    have hl : (S.drop took).length = L - took := by rw [List.length_drop, ← hL]
    have := decode_run (room := 4 * (L - took) + 8) (l := S.drop took) (by rw [hl]; omega) hrb
    rw [hl] at this
    exact this
  have HD1 := Lib.hid hd1
  have HD2 := Lib.hid hd2
  have HG2 := Lib.hid hgr
  have HAB := Lib.hid hab
  have HL := Lib.hid hL
  have hLb : L ≤ 500000 := by omega
  have hra : ra.length ≤ 65536 ∧ rb.length ≤ 65536 := by
    have := congrArg List.length hab
    rw [List.length_append, h.1] at this
    omega
  clear hd1 hd2 hgr hab hrb hL hE hS hrun hsl hel hby hSl
  have H := Lib.hid h
  have HG := Lib.hid hg
  clear h hg
  go_enter Tryd.func4, Tryd.ntmps4
  go_wp2_with (go_at_call 8; refine (specEncode_any A n c xs w H.out (by omega)).mono ?_; rintro e w1 ⟨v1, rfl, ho1, hb1⟩; rw [← HE.out] at ho1; obtain ⟨A1, c1, rfl, hs1⟩ := ho1.src; refine Hid.out ?_)
  refine Lib.hid ?_
  have hg1 := (HG.out.below hb1).more hb1.size
  go_wp2_with (go_at_call 7; refine (spread_any A1 G E.length c1 m gc E gs w1 hs1 (by omega) hg1).mono ?_; rintro e w2 ⟨v2, rfl, ho2, hb2⟩; rw [HE.out, ← HS.out] at ho2; obtain ⟨A2, c2, rfl, hs2⟩ := ho2.src; rw [← HL.out] at hs2 ⊢; refine Hid.out ?_)
  refine Lib.hid ?_
  have hLc : L ≤ c2 := hs2.2.1
  have hq1 := (hs2.take_ (k := q) hqL)
  go_wp2_with (go_at_call 9; refine (implDecode_fine A2 q c2 (S.take q) false w2 hq1 (by omega) HD1.out).mono ?_; rintro e w3 ⟨A3, m3, c3, rfl, hs3, ho3, hb3⟩; refine Hid.out ?_)
  refine Lib.hid ?_
  have hs4 := (hs2.below hb3).more hb3.size
  have hsx := ((((H.out.below hb1).more hb1.size).below hb2).more hb2.size).below hb3 |>.more hb3.size
  have hdr := hs4.drop_ (k := took) (by omega)
  obtain ⟨D, cD, hD, hdr2⟩ : ∃ D cD, (Value.slice (if c2 = took then A2 else A2.map (·.add took)) (L - took) (c2 - took)) = .slice D (L - took) cD ∧ Src w3 w3.heap.size D (L - took) cD (S.drop took) := ⟨_, _, rfl, hdr⟩
  clear hdr
  have hct : took ≤ c2 := by omega
  have hrs : ∀ W, (Instr.slice 22 (.slice A2 L c2) (some (.int .i64 (took : Int))) none none).run Tryd.prog W = .ok (.slice D (L - took) cD) W := by
    intro W
    rw [← hD]
    have hs : ∀ w : World, (sizeOf (Tryd.prog.elem 22)).run Tryd.prog w = .ok 1 w := fun w => by kernel_rfl
    rw [run_slice_l (P := Tryd.prog) W 22 A2 L c2 (by kernel_rfl) .i64 (took : Int) (by omega) (by omega), hs]
    simp [sliced, Result.andThen]
  have HH := Lib.hid hD
  clear hD
  go_wp2_with (go_at_call 9; refine (implDecode_fine D (L - took) cD (S.drop took) true w3 hdr2 (by omega) HD2.out).mono ?_; rintro e w4 ⟨A4, m4, c4, rfl, hs5, ho4, hb4⟩; refine Hid.out ?_)
  refine Lib.hid ?_
  have ho5 : Own w4 w2.heap.size (.slice A3 m3 c3) ra := ho3.below_ hb4 (fun k hk => (ho3.lt k hk).2)
  have hs6 := (hs4.below hb4).more hb4.size |>.take_ (k := q) hqL
  have hsx4 := (hsx.below hb4).more hb4.size
  have hsz4 := hb4.size
  have hsz3 := hb3.size
  have hltk : ((L - took : Nat) : Int) = (L : Int) - (took : Int) := by omega
  have HM3 := Lib.hid hs3.1
  clear hrs hdr2 ho3 hs3 hs4 hsx hq1 hs1 hs2 ho1 ho2 hg1
  go_wp2_with (first | (go_at_call 11; refine (groups_any A2 q c2 (S.take q) w4 hs6).mono ?_; rintro e w' ⟨rfl, rfl⟩; rw [← HG2.out]) | (at_builtin; refine wpList_app2g ?_ (.tmp 85) (.tmp 86) rfl rfl ho5 rfl hs5 ?_ ?_ (m3 + m4) ?_ ?_))
  · omega
  · omega
  · have := ho5.2.1
    have h1 := hs5.1
    have h2 := HM3.out
    omega
  · intro A6 c6 w5 ho6 hs7 hgr
    have hb5 : Below w2.heap.size w4 w5 := Below.grown (Below.refl _ _) hgr (by omega) (fun k hk => (ho5.lt k hk).1)
    rw [HAB.out] at hs7
    have hs8 : Src w5 w2.heap.size A n c xs := ((((H.out.below hb1).more hb1.size).below hb2).more hb2.size |>.below (hb3.trans (hb4.mono hsz3))).below hb5
    have hbe := (((hb1.trans (hb2.mono hb1.size)).trans (hb3.mono (by have := hb1.size; have := hb2.size; omega))).trans (hb4.mono (by have := hb1.size; have := hb2.size; omega))).trans (hb5.mono (by have := hb1.size; have := hb2.size; omega))
    clear ho6 hgr ho5 hs5 ho4 hs6 hsx4
    go_wp2_with (go_at_call 10; refine (equal_any w5 hs7 hs8).mono ?_; rintro e w' ⟨rfl, rfl⟩)
    go_ret
    exact ⟨rfl, hbe⟩

theorem fnParts_walk {A G : Option Addr} {n c m gc : Nat} {xs gs : List Int} {z : Int} (w : World) (_hL : laidMetH Tryd.prog [("errors.errorType", Rows.laid_errors_errorType), ("io.EOF", Rows.laid_io_EOF)] w) (h : Src w w.heap.size A n c xs) (hg : Ints w w.heap.size G m gc gs) (hz : (Lit.int .i64 z).wf = true) :
    Calls Tryd.prog 4 #[.slice A n c, .slice G m gc, .int .i64 z] w fun e w' => e = .returned (.bool true) ∧ Below w.heap.size w w' := law3_walk A G n c m gc z xs gs w h hg (by have := bounds_i64 hz; omega)
end Go.Proofs.YtfonpcfcelahdaaDoor
