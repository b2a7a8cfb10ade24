/-
  What impl.Written does (printed by gen_written.py).
-/
import Derived.Test.YtfonpcfcelahdaaDoorEncWrite
import Derived.Test.YtfonpcfcelahdaaDoorEncClose
import Derived.Test.YtfonpcfcelahdaaDoorNewEnc
import Derived.Test.YtfonpcfcelahdaaDoorImplRead
import Derived.Test.YtfonpcfcelahdaaDoorLaw5Walk
namespace Go.Proofs.YtfonpcfcelahdaaDoor
open Go.RowKit

theorem ESt.same {w w' : World} {eb bb B : Nat} {v : Value} {dn bf : List Int} (h : ESt w eb bb v dn bf) (hb : Below B w w') (h1 : eb < B) (h2 : bb < B) (h3 : ∀ k, v.ownBlock = some k → k < B) : ESt w' eb bb v dn bf := by
  have e1 := hb.block eb h1
  have e2 := hb.block bb h2
  obtain ⟨lr, hr⟩ := h.bst.row
  exact ⟨h.room.same e1, (cell_same e1).trans h.c0, (cell_same e1).trans h.c1, h.hbuf.same e1, h.blen, (cell_same e1).trans h.c6, ⟨⟨lr, e2.trans hr⟩, h.bst.own.below_ hb h3⟩, h.first, h.div, h.db, h.bbs, h.n1, h.n2⟩

theorem Pin.of_own {w : World} {B n c : Nat} {A : Option Addr} {xs : List Int} (h : Own w B (.slice A n c) xs) (hn : xs.length = n) (h1 : 1 ≤ n) : ∃ pb, B ≤ pb ∧ pb < w.heap.size ∧ Pin w pb A n c xs := by
  obtain ⟨A', c', e, hs⟩ := h.src
  simp only [Value.slice.injEq] at e
  obtain ⟨rfl, _, rfl⟩ := e
  obtain ⟨hb, h2⟩ := h
  rcases h2.2 with ⟨e, h0⟩ | ⟨g, cap, cur, e, hg, hh, _⟩
  · simp only [Value.slice.injEq] at e
    omega
  · simp only [Value.slice.injEq] at e
    obtain ⟨rfl, rfl, rfl⟩ := e
    rw [hn] at hs
    refine ⟨g, hg, Lib.lt_of_heap hh, hs.1, hs.2.1, hs.2.2.1, hs.2.2.2.1, fun hp => ?_⟩
    obtain ⟨b, o, e, _, hc⟩ := hs.2.2.2.2 hp
    simp only [Option.some.injEq, Addr.mk.injEq] at e
    obtain ⟨rfl, rfl, _⟩ := e
    exact ⟨0, rfl, fun i hi => hc i (by omega)⟩

/-- A piece has been copied: the encoder is called. -/
theorem written_step {wr w3 : World} {eb bb q c3 : Nat} {A3 : Option Addr} {v : Value} {dn bf ys : List Int} (h : ESt wr eb bb v dn bf) (hown : Own w3 wr.heap.size (.slice A3 q c3) ys) (hg : ((wr.alloc (.cells #[] 5)).drew).grownBy w3 (some wr.heap.size))
    (hl : ys.length = q) (hq : 1 ≤ q) (hqn : q ≤ 65536) (hlim : dn.length + bf.length + q ≤ 100000) :
    Below wr.heap.size wr w3 ∧ Calls Tryd.prog 60 #[.pointer (some ⟨eb, 0, none⟩), .slice A3 q c3] w3 (EPost eb bb q v (dn ++ bf ++ ys) w3) := by
  have hb : Below wr.heap.size wr w3 := Below.grown (Below.drew ((Below.refl _ _).alloc (Nat.le_refl _) _)) hg (by show wr.heap.size ≤ (wr.alloc (.cells #[] 5)).heap.size; rw [alloc_size_]; omega) (fun k hk => by injection hk with hk; omega)
  have he := h.room.lt
  have hbb := h.bst.lt
  have hv := fun k hk => (h.bst.own.lt k hk).2
  have h3 := h.same hb he hbb hv
  obtain ⟨pb, p1, p2, p3⟩ := Pin.of_own hown hl hq
  exact ⟨hb, encWrite_any eb bb pb q c3 A3 v dn bf ys w3 h3 p3 (by omega) (by omega) (fun e => by have := hv pb e; omega) p2 hlim hqn hq⟩

theorem nilAhead_enc (v : Value) (W : World) : (nilAhead 242 70 v "Write").run Tryd.prog W = .ok (some false) W := by kernel_rfl

theorem method_enc (v : Value) (W : World) : (Go.method 242 70 v "Write").run Tryd.prog W = .ok (60, v) W := by kernel_rfl

/-- What an encoder touches lies above. -/
theorem emine_le {w : World} {eb bb B : Nat} {v : Value} {dn bf : List Int} (h : ESt w eb bb v dn bf) (h1 : B ≤ eb) (h2 : B ≤ bb) : ∀ i, EMine eb bb v i → B ≤ i := by
  rintro i (hm | hm | hm)
  · omega
  · omega
  · have := (h.bst.own.lt i hm).1
    omega

/-- What is known at the head of a round. -/
def Rnd (w : World) (Z n : Nat) (xs : List Int) (k : Nat) (s0 s8 s9 : Value) (wr : World) : Prop :=
  ∃ (i j c' : Nat) (A' : Option Addr) (v : Value) (dn bf : List Int), s0 = .slice A' k c' ∧ s8 = .bool true ∧ s9 = .int .i64 (i : Int) ∧ i + k ≤ n ∧ j + k = n ∧ Src w Z A' k c' (xs.drop j) ∧ ESt wr (Z + 1) Z v dn bf ∧ dn ++ bf = xs.take j ∧ Below Z w wr ∧ Z + 2 ≤ wr.heap.size

theorem Rnd.next {w wr w3 w5 : World} {Z n i j k q r c2 : Nat} {A2 : Option Addr} {v v5 : Value} {dn bf dn5 bf5 xs ys : List Int} (hr : r = k - q) (hjk : j + k = n) (hik : i + k ≤ n) (hq1 : 1 ≤ q) (hqk : q ≤ k) (hys : ys = (xs.drop j).take q) (hdb : dn ++ bf = xs.take j) (hdb5 : dn5 ++ bf5 = dn ++ bf ++ ys)
    (hs2 : Src w Z A2 r c2 ((xs.drop j).drop q)) (hem : ∀ i, EMine (Z + 1) Z v i → Z ≤ i) (hes5 : ESt w5 (Z + 1) Z v5 dn5 bf5) (hfr5 : Frm (EMine (Z + 1) Z v) w3 w5) (hb3 : Below wr.heap.size wr w3) (hbl : Below Z w wr) (hz : Z + 2 ≤ wr.heap.size) :
    Rnd w Z n xs r (.slice A2 r c2) (.bool true) (.int .i64 ((i : Int) + 1)) w5 := by
  subst hr
  have h3 := hb3.size
  have h5 := hfr5.size
  refine ⟨i + 1, j + q, c2, A2, v5, dn5, bf5, rfl, rfl, by congr 1, by omega, by omega, ?_, hes5, ?_, (hbl.trans (hb3.mono (by omega))).trans (hfr5.below hem (by omega)), by omega⟩
  · rw [← List.drop_drop]
    exact hs2
  · rw [hdb5, hdb, hys, List.take_add]

set_option maxRecDepth 100000 in
set_option maxHeartbeats 8000000 in
theorem written_any (A G : Option Addr) (n c m gc : Nat) (xs gs : List Int) (w : World) (h : Src w w.heap.size A n c xs) (hg : Ints w w.heap.size G m gc gs) (hgs : Sizes gs) (hn : n ≤ 65536) (hm : m ≤ 1000) :
    Calls Tryd.prog 13 #[.slice A n c, .slice G m gc] w fun e w' => Below w.heap.size w w' ∧ ∃ v, e = .returned (.tuple #[v, .bool true]) ∧ Own w' w.heap.size v (enc xs) := by
  have hnc := h.2.1
  have hmg := hg.2.1
  have hmc := h.2.2.1
  have hmgc := hg.2.2.1
  unfold maxLen at hmc hmgc
  have HSRC := Lib.hid h
  have HINT := Lib.hid hg
  have HSZ := Lib.hid hgs
  have HX := Lib.hid h.1
  have HE := Lib.hid (ESt.start w)
  have HB := Lib.hid (encWorld_below w)
  have HZW := Lib.hid (encWorld_size w)
  clear h hg hgs
  go_enter Tryd.func13, Tryd.ntmps13
  go_wp2_with (go_at_call 19; refine (newEnc_any 52 (.pointer (some ⟨w.heap.size, 0, none⟩)) _).mono ?_; rintro e w3 ⟨rfl, rfl⟩)
  obtain ⟨w4, hw4⟩ : ∃ w4, encWorld w = w4 := ⟨_, rfl⟩
  have hw5 := hw4
  unfold encWorld at hw5
  rw [hw4] at HE HB HZW
  rw [hw5]
  obtain ⟨Z, hZ⟩ : ∃ Z, w.heap.size = Z := ⟨_, rfl⟩
  clear hw4 hw5
  have HWZ := Lib.hid hZ
  rw [hZ] at HE HZW HB HSRC HINT ⊢
  clear hZ
  have hna := fun W => nilAhead_enc (.pointer (some ⟨Z + 1, 0, none⟩)) W
  have hme := fun W => method_enc (.pointer (some ⟨Z + 1, 0, none⟩)) W
  go_loopg [0, 8, 9] n (fun k s0 s8 s9 wr => Rnd w Z n xs k s0 s8 s9 wr)
  case atStart => exact ⟨0, 0, c, A, _, [], [], rfl, rfl, rfl, by omega, by omega, by rw [List.drop_zero]; exact HSRC.out, HE.out, by simp, HB.out, by rw [HZW.out]; exact Nat.le_refl _⟩
  case round =>
    clear HE HB HZW
    obtain ⟨i, j, c', A', v, dn, bf, rfl, rfl, rfl, hik, hjk, hsr, hes, hdb, hbel, hwz⟩ := hrel
    obtain ⟨k, hk⟩ : ∃ k, k = gk := ⟨_, rfl⟩
    subst hk
    have hkc := hsr.2.1
    have hkm := hsr.2.2.1
    unfold maxLen at hkm
    have HS := Lib.hid hsr
    have HES := Lib.hid hes
    have HDB := Lib.hid hdb
    have hdb := HDB
    have hjk : Hid (j + k = n) := hjk
    have HBL := Lib.hid hbel
    have hlen : Hid (dn.length + bf.length = j) := by
      have := congrArg List.length hdb.out
      rw [List.length_append, List.length_take, HX.out] at this
      have := hjk.out
      unfold Hid
      omega
    by_cases hk0 : 0 < k
    · clear hsr hes hdb
      by_cases hm0 : m = 0
      · have HM0 := Lib.hid hm0
        have hq1 : 1 ≤ k := by omega
        have hqk : k ≤ k := Nat.le_refl _
        have hmz : ¬ 0 < m := by omega
        clear hm0
        have hsl1 : ∀ W, (Instr.slice 22 (.slice A' k c') none (some (.int .i64 (k : Int))) none).run Tryd.prog W = .ok (.slice A' k c') W := by
          intro W
          have hs : ∀ w : World, (sizeOf (Tryd.prog.elem 22)).run Tryd.prog w = .ok 1 w := fun w => by kernel_rfl
          rw [run_slice_h (P := Tryd.prog) W 22 A' k c' (by kernel_rfl) .i64 (k : Int) (by omega) (by omega), hs]
          simp [sliced, Result.andThen]
          intro _
          cases A' <;> simp [Addr.add]
        obtain ⟨A2, hsl2, hs2⟩ := HS.out.from_ (k := k) hqk
        have hsl3 : ∀ W, (Instr.slice 22 (.slice A' k c') (some (.int .i64 (k : Int))) none none).run Tryd.prog W = .ok (.slice A2 0 (c' - k)) W := fun W => by have := hsl2 W .i64; simpa using this
        have hs2 : Src w Z A2 0 (c' - k) ((xs.drop j).drop k) := by simpa using hs2
        have HS2 := Lib.hid hs2
        obtain ⟨ys, hys⟩ : ∃ ys, ys = (xs.drop j).take k := ⟨_, rfl⟩
        have hs1 := ((HS.out.below hbel).more (B' := wr.heap.size) (by omega)).take_ (k := k) hqk
        rw [← hys] at hs1
        have HYL := Lib.hid hs1.1
        have HS1 := Lib.hid (hs1.below (Below.drew ((Below.refl wr.heap.size wr).alloc (Nat.le_refl _) (.cells #[] 5))))
        have HON := Lib.hid (own_nil_lit wr wr.heap.size (Nat.le_refl _)).drew_
        have HYS := Lib.hid hys
        have HEM := Lib.hid (emine_le (B := Z) HES.out (by omega) (Nat.le_refl _))
        clear hsl2 hs2 hs1 hys hbel
        go_wp2
        go_region_law (first
          | (refine step_app rfl (.tmp 37) (.tmp 40) rfl (B := wr.heap.size) (v := .slice (some ⟨_, 0, none⟩) 0 0) (xs := []) (ys := ys) rfl HON.out rfl HS1.out (by rw [HYL.out]; simp; omega) (by rw [World.drew, alloc_size_]; omega) k (by simp [HYL.out]) ?_; intro A3 c3 w3 hown3 hs3 hg3; obtain ⟨hb3, HEW⟩ := written_step HES.out (by simpa using hown3) (by simpa [Value.ownBlock] using hg3) HYL.out hq1 (by omega) (by have := hlen.out; have := hjk.out; omega); clear hs3 hg3 hown3)
          | (go_simp; go_at_call 60; refine HEW.mono ?_; rintro e w5 ⟨rfl, v5, dn5, bf5, hes5, hdb5, hnx5, hfr5⟩; dsimp only))
        all_goals
          go_wp2
          go_roundg 0
          case measure => omega
          case rel => exact Rnd.next (k := k) (by omega) hjk.out hik hq1 hqk HYS.out HDB.out hdb5 HS2.out HEM.out hes5 hfr5 hb3 HBL.out hwz
      · have hmp : 0 < m := by omega
        have hkm2 : i % m < m := Nat.mod_lt _ hmp
        obtain ⟨gb, go, hG, _, hgc⟩ := (HINT.out.below hbel).2.2.2.2 hmp
        have hmem : gs.getD (i % m) 0 ∈ gs := by
          have := HINT.out.1
          simp [List.getD, List.getElem?_eq_getElem (show i % m < gs.length by omega)]
        have hsz := HSZ.out _ hmem
        obtain ⟨sz, hszq⟩ : ∃ sz : Nat, (sz : Int) = gs.getD (i % m) 0 := ⟨(gs.getD (i % m) 0).toNat, by omega⟩
        have hgcell := hgc (i % m) hkm2
        rw [← hszq] at hgcell hsz
        subst hG
        have e1 : (i : Int) % (m : Int) < (m : Int) := Int.emod_lt_of_pos _ (by omega)
        have e2 : 0 ≤ (i : Int) % (m : Int) := Int.emod_nonneg _ (by omega)
        have e3 : ((i : Int) % (m : Int)).toNat = i % m := by omega
        obtain ⟨q, hM, hq1, hqk⟩ : ∃ q : Nat, min (k : Int) (sz : Int) = (q : Int) ∧ 1 ≤ q ∧ q ≤ k := by
          exact ⟨min k sz, by omega, by omega, by omega⟩
        clear hm0 hgc hmem hszq
        have hsl1 : ∀ W, (Instr.slice 22 (.slice A' k c') none (some (.int .i64 (q : Int))) none).run Tryd.prog W = .ok (.slice A' q c') W := by
          intro W
          have hs : ∀ w : World, (sizeOf (Tryd.prog.elem 22)).run Tryd.prog w = .ok 1 w := fun w => by kernel_rfl
          rw [run_slice_h (P := Tryd.prog) W 22 A' k c' (by kernel_rfl) .i64 (q : Int) (by omega) (by omega), hs]
          simp [sliced, Result.andThen]
          intro _
          cases A' <;> simp [Addr.add]
        obtain ⟨A2, hsl2, hs2⟩ := HS.out.from_ (k := q) hqk
        have hsl3 : ∀ W, (Instr.slice 22 (.slice A' k c') (some (.int .i64 (q : Int))) none none).run Tryd.prog W = .ok (.slice A2 (k - q) (c' - q)) W := fun W => by have := hsl2 W .i64; simpa using this
        have hs2 : Src w Z A2 (k - q) (c' - q) ((xs.drop j).drop q) := by simpa using hs2
        have HS2 := Lib.hid hs2
        obtain ⟨ys, hys⟩ : ∃ ys, ys = (xs.drop j).take q := ⟨_, rfl⟩
        have hs1 := ((HS.out.below hbel).more (B' := wr.heap.size) (by omega)).take_ (k := q) hqk
        rw [← hys] at hs1
        have HYL := Lib.hid hs1.1
        have HS1 := Lib.hid (hs1.below (Below.drew ((Below.refl wr.heap.size wr).alloc (Nat.le_refl _) (.cells #[] 5))))
        have HON := Lib.hid (own_nil_lit wr wr.heap.size (Nat.le_refl _)).drew_
        have HYS := Lib.hid hys
        have HEM := Lib.hid (emine_le (B := Z) HES.out (by omega) (Nat.le_refl _))
        clear hsl2 hs2 hs1 hys hbel
        go_wp2
        go_region_law (first
          | (refine step_app rfl (.tmp 37) (.tmp 40) rfl (B := wr.heap.size) (v := .slice (some ⟨_, 0, none⟩) 0 0) (xs := []) (ys := ys) rfl HON.out rfl HS1.out (by rw [HYL.out]; simp; omega) (by rw [World.drew, alloc_size_]; omega) q (by simp [HYL.out]) ?_; intro A3 c3 w3 hown3 hs3 hg3; obtain ⟨hb3, HEW⟩ := written_step HES.out (by simpa using hown3) (by simpa [Value.ownBlock] using hg3) HYL.out hq1 (by omega) (by have := hlen.out; have := hjk.out; omega); clear hs3 hg3 hown3)
          | (go_simp; go_at_call 60; refine HEW.mono ?_; rintro e w5 ⟨rfl, v5, dn5, bf5, hes5, hdb5, hnx5, hfr5⟩; dsimp only))
        all_goals
          go_wp2
          go_roundg (k - q)
          case measure => omega
          case rel => exact Rnd.next (q := q) (by omega) hjk.out hik hq1 hqk HYS.out HDB.out hdb5 HS2.out HEM.out hes5 hfr5 hb3 HBL.out hwz
    · have hk00 : Hid (k = 0) := by unfold Hid; omega
      have hj : Hid (j = n) := by have := hjk.out; unfold Hid; omega
      have HCL := Lib.hid (encClose_any (Z + 1) Z v dn bf wr HES.out (by have := hlen.out; have := hjk.out; omega))
      have HEM := Lib.hid (emine_le (B := Z) HES.out (by omega) (Nat.le_refl _))
      clear hsr hes hdb
      go_wp2_with (go_at_call 59; refine HCL.out.mono ?_; rintro e w5 ⟨rfl, v5, hb5, hnx5, hfr5⟩)
      have HBY := Lib.hid (bufBytes_any Z v5 _ w5.drew hb5.drew)
      have hbw : Hid (Below Z w w5) := HBL.out.trans (hfr5.below HEM.out (by omega))
      have hown : Hid (Own w5 Z v5 (enc xs)) := by
        have := hb5.own.mono_ (B' := Z) (by omega)
        rw [HDB.out, hj.out, ← HX.out, List.take_length] at this
        exact this
      clear hb5 hnx5 hfr5 hbel
      go_region_with (go_at_call 20; refine HBY.out.mono ?_; rintro e w6 ⟨rfl, k6, rfl⟩)
      all_goals
        go_wp2
        go_ret2
        have hz := HWZ.out
        rw [hz]
        exact ⟨Bdrew hbw.out _, v5, rfl, hown.out.drewN _⟩
end Go.Proofs.YtfonpcfcelahdaaDoor
