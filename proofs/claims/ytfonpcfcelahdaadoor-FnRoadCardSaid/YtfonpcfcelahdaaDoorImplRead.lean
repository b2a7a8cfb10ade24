/-
  What impl.Read does.
-/
import Derived.Test.YtfonpcfcelahdaaDoorDecSt
import Derived.Test.YtfonpcfcelahdaaDoorStart
import Derived.Test.YtfonpcfcelahdaaDoorDecRead
import Derived.Test.YtfonpcfcelahdaaDoorSpread
import Derived.Test.YtfonpcfcelahdaaDoorEof
namespace Go.Proofs.YtfonpcfcelahdaaDoor
open Go.RowKit

/-- The sizes of writes or reads are well. -/
def Sizes (gs : List Int) : Prop := ∀ x ∈ gs, 1 ≤ x ∧ x ≤ 65536

/-- What is known at the head of a round. -/
structure RSt (w0 w : World) (B db sb q pc : Nat) (ev : Value) (T : Option (List Int)) (v : Value) (lim k : Nat) : Prop where
  below : Below B w0 w
  st : ∃ (outl o bf rest : List Int) (eof : Bool), Own w (db + 1) v outl ∧ DSt w db sb q pc ev o bf rest eof ∧ (Tot o bf rest).map (outl ++ ·) = T ∧ k = lim - outl.length ∧ outl.length ≤ lim + 65536
  hdb : db < w.heap.size
  hB : B ≤ q ∧ q < sb ∧ sb < db

theorem tot_over {outl xs : List Int} {t : Option (List Int)} (h : t.map (outl ++ ·) = run xs) (hx : 4 * xs.length + 8 < outl.length) : run xs = none := by
  cases hr : run xs with
  | none => rfl
  | some data =>
    rw [hr] at h
    cases t with
    | none => cases h
    | some z =>
      simp only [Option.map_some, Option.some.injEq] at h
      have h2 := run_len hr
      rw [← h, List.length_append] at h2
      omega

set_option maxRecDepth 100000 in
set_option maxHeartbeats 4000000 in
theorem implRead_any (A G : Option Addr) (n c m gc pc : Nat) (ea : Addr) (xs gs : List Int) (w : World) (h : Src w w.heap.size A n c xs) (hg : Ints w w.heap.size G m gc gs) (hgs : Sizes gs) (hn : n ≤ 1000000) (hm : m ≤ 1000) (hpc : 1 ≤ pc) (hpm : pc ≤ maxLen)
    (hv : w.cell? ⟨0, 0, none⟩ = some (.iface 104 (.pointer (some ea)))) :
    Calls Tryd.prog 14 #[.slice A n c, .int .i64 (pc : Int), .slice G m gc] w fun e w' => Below w.heap.size w w' ∧
      ((∃ v data, run xs = some data ∧ e = .returned (.tuple #[v, .bool true]) ∧ Own w' w.heap.size v data) ∨ (run xs = none ∧ ∃ v, e = .returned (.tuple #[v, .bool false]))) := by
  have hnc := h.2.1
  have hmg := hg.2.1
  have hmc := h.2.2.1
  have hmgc := hg.2.2.1
  unfold maxLen at hpm hmc hmgc
  have HSRC := Lib.hid h
  have HINT := Lib.hid hg
  have HSZ := Lib.hid hgs
  have HX := Lib.hid h.1
  have hw0 : 0 < w.heap.size := block_lt hv
  have hq1 := fun W => eof_same W ea
  have hq2 := fun (W : World) (ii : Nat) => eof_other W (.int .i64 (ii : Int)) (.pointer (some ea))
  clear h hg hgs
  go_enter Tryd.func14, Tryd.ntmps14
  go_wp2_with (at_builtin; refine wpList_app2 rfl (.tmp 15) (.tmp 16) rfl rfl (Own.lit w w.heap.size [] ?_ ?_ ?_) rfl (HSRC.out.below ((Below.refl _ _).alloc (Nat.le_refl _) _)) ?_ ?_ n ?_ ?_)
  · intro x hx; cases hx
  · simp
  · exact Nat.le_refl _
  · have := HX.out; simp; omega
  · simp
  · have := HX.out; simp; omega
  · intro A2 c2 w2 hown2 hs2 hg2 hat2
    have hown2' : Own w2 w.heap.size (.slice A2 n c2) xs := by simpa using hown2
    have hs2' : Src w2 w2.heap.size A2 n c2 xs := by simpa using hs2
    have hb2 : Below w.heap.size w w2 := Below.grown ((Below.refl _ _).alloc (Nat.le_refl _) _) hg2 (by simp) (fun k hk => by simp [Value.ownBlock] at hk; omega)
    have hsz2 := hb2.size
    obtain ⟨q, hq1, hq2, hq3⟩ : ∃ q, w.heap.size ≤ q ∧ q < w2.heap.size ∧ (0 < n → ∃ k, A2 = some ⟨q, k, none⟩ ∧ Has w2 q k xs) := by
      by_cases hn0 : 0 < n
      · obtain ⟨b, off, rfl, hlt, hcl⟩ := hs2'.cells hn0
        refine ⟨b, (hown2'.lt b rfl).1, hlt, fun _ => ⟨off, rfl, fun i hi => hcl i (by rw [← HX.out]; exact hi)⟩⟩
      · have hbb : Below w.heap.size (w.alloc (.cells #[] 5)) w2 := Below.grown (Below.refl _ _) (by simpa using hg2) (by rw [alloc_size_]; omega) (fun k hk => by simp [Value.ownBlock] at hk; omega)
        have := hbb.size
        rw [alloc_size_] at this
        exact ⟨w.heap.size, Nat.le_refl _, by omega, fun h => absurd h hn0⟩
    have hD := DSt.start (w := w2) (A := A2) (n := n) (c := c2) (q := q) (pc := pc) (ev := .iface 104 (.pointer (some ea))) hs2'.1 hs2'.2.1 hs2'.2.2.1 hs2'.2.2.2.1 hq2 hq3
    have hb4 : Below w.heap.size w (newWorld w2 (.slice A2 n c2) pc) := hb2.trans (((Below.refl _ _).alloc (by omega) _).alloc (by rw [alloc_size_]; omega) _)
    have hz4 : (newWorld w2 (.slice A2 n c2) pc).heap.size = w2.heap.size + 2 := by unfold newWorld; rw [alloc_size_, alloc_size_]
    have HD := Lib.hid hD
    have HB4 := Lib.hid hb4
    have HZ4 := Lib.hid hz4
    have HQ := Lib.hid hq3
    clear hown2 hown2' hs2 hs2' hg2 hat2 hb2 hD hb4 hz4 hq3
    go_wp2_with (go_at_call 21; refine (newDec_any 60 (.pointer (some ⟨w2.heap.size, 0, none⟩)) _).mono ?_; rintro e w3 ⟨rfl, rfl⟩)
    obtain ⟨w4, hw4⟩ : ∃ w4, newWorld w2 (.slice A2 n c2) pc = w4 := ⟨_, rfl⟩
    have hw5 := hw4
    unfold newWorld at hw5
    rw [hw4] at HD HB4 HZ4
    rw [hw5]
    obtain ⟨Z, hZ⟩ : ∃ Z, w2.heap.size = Z := ⟨_, rfl⟩
    clear hw4 hw5 HQ
    rw [hZ] at HD HZ4 hq2 hsz2 ⊢
    clear hZ
    go_loopg [9, 10] (4 * n + 9) (fun k s9 s10 wr => ∃ i : Nat, s10 = .int .i64 (i : Int) ∧ i + k ≤ 4 * n + 9 ∧ ∃ (outl o bf rest : List Int) (eof : Bool), Own wr (Z + 2) s9 outl ∧ DSt wr (Z + 1) Z q pc (.iface 104 (.pointer (some ea))) o bf rest eof ∧
      Hid ((Tot o bf rest).map (outl ++ ·) = run xs) ∧ Hid (k = 4 * n + 9 - outl.length) ∧ outl.length ≤ 4 * n + 8 + 65536 ∧ Below w.heap.size w wr ∧ Z + 2 ≤ wr.heap.size)
    case atStart => exact ⟨0, rfl, by omega, [], [], [], xs, false, Own.nil, HD.out, by unfold Hid Tot; simp, by simp [Hid], by simp, HB4.out, by rw [HZ4.out]; exact Nat.le_refl _⟩
    case round =>
      clear HD HB4 HZ4
      obtain ⟨i, rfl, hik, outl, o, bf, rest, eof, hown, hD, hT, hk, hol, hbel, hwz⟩ := hrel
      obtain ⟨A9, c9, rfl, hs9⟩ := hown.src
      obtain ⟨ol, hole⟩ : ∃ ol, ol = outl.length := ⟨_, rfl⟩
      rw [← hole] at hown hs9 hol hk ⊢
      have HOL := Lib.hid hole
      have HOWN := Lib.hid hown
      have HD := Lib.hid hD
      have hv9 := hv
      clear hole hown hD hs9
      by_cases hex : ol ≤ 4 * n + 8
      · obtain ⟨sz, hsz1, hsz2, hcase⟩ : ∃ sz : Nat, 1 ≤ sz ∧ sz ≤ 65536 ∧ ((m = 0 ∧ sz = 500) ∨ (0 < m ∧ ∃ gb go, G = some ⟨gb, go, none⟩ ∧ wr.cell? ⟨gb, go + i % m, none⟩ = some (.int .i64 (sz : Int)))) := by
          by_cases hm0 : m = 0
          · exact ⟨500, by omega, by omega, .inl ⟨hm0, rfl⟩⟩
          · have hmp : 0 < m := by omega
            have hkm : i % m < m := Nat.mod_lt _ hmp
            obtain ⟨gb, go, hG, _, hgc⟩ := (HINT.out.below hbel).2.2.2.2 hmp
            have hgl := HINT.out.1
            have hmem : gs.getD (i % m) 0 ∈ gs := by
              simp [List.getD, List.getElem?_eq_getElem (show i % m < gs.length by omega)]
            have hsz := HSZ.out _ hmem
            refine ⟨(gs.getD (i % m) 0).toNat, by omega, by omega, .inr ⟨hmp, gb, go, hG, ?_⟩⟩
            rw [hgc (i % m) hkm]
            congr 2
            omega
        obtain ⟨w8, hw8⟩ : ∃ w8, w8 = wr := ⟨_, rfl⟩
        have hfin : Hid (sz = sz) := rfl
        rcases hcase with ⟨rfl, h500⟩ | ⟨hmp, gb, go, rfl, hgcell⟩
        · have H500 := Lib.hid h500
          clear h500 hw8
          go_wp2_with (at_make; refine wpList_mk5 _ rfl (.tmp 42) (.tmp 42) rfl _ _ _ _ sz rfl rfl ?_ ?_ ?_ ?_)
          · have := H500.out; omega
          · have := H500.out; omega
          · omega
          · intro w5 hr5 hg5 hz5
            have hbe5 : Below wr.heap.size wr w5 := (Below.refl _ _).grown hg5 (Nat.le_refl _) (fun k hk => by cases hk)
            have hwr := hbel.size
            have hD5 := HD.out.same (hbe5.block (Z + 1) (by omega)) (hbe5.block Z (by omega)) (hbe5.block q (by omega))
            have hO5 := HOWN.out.below_ hbe5 (fun k hk => (HOWN.out.lt k hk).2)
            have hOlt := HOWN.out.lt
            have hb5 : Below w.heap.size w w5 := hbel.trans (hbe5.mono hwr)
            have hv5 := cell0_below hb5 hv hw0
            have HDR := Lib.hid (decRead_any w.heap.size (Z + 1) Z q pc wr.heap.size 0 sz sz 104 (.pointer (some ea)) (Tot o bf rest) o bf rest eof w5 hD5 rfl hv5 (hr5.room.mono_ (by omega)) (by omega) (by omega) (by omega) hw0 (by omega) (by omega) hwr hpc (by unfold maxLen; omega) hsz1 (Nat.le_refl _) (by unfold maxLen; omega))
            have HO5 := Lib.hid hO5
            have HOLT := Lib.hid hOlt
            have HR5 := Lib.hid hr5
            clear hD5 hO5 hv5 hg5 hOlt hbe5 hr5
            go_wp2_with (go_at_call 62; refine HDR.out.mono ?_; intro e w6 hpost; obtain ⟨nv, er, rfl, hst, hR⟩ := read_split hpost; refine Hid.out ?_)
            refine Lib.hid ?_
            clear hpost
            have HO6 : Hid (Own w6 (Z + 2) (.slice A9 ol c9) outl) := HO5.out.same_ (fun k hk => hst.others k (by have := HOLT.out k hk; omega) (by have := HOLT.out k hk; omega) (by have := HOLT.out k hk; omega))
            have hb6 : Below w.heap.size w w6 := hb5.trans hst.below
            have hr6 := hst.row _ HR5.out
            have hz6 := hst.size
            have hgl : wr.heap.size < w6.heap.size := by omega
            clear hst hb5
            rcases hR with ⟨N, ys, o', bf', rest', eof', rfl, rfl, hN1, hN2, hN3, hby, hhx, hD6, hT6⟩ | ⟨rfl, rfl, hT6⟩ | ⟨ii, rfl, rfl, hT6⟩
            · have HSR := Lib.hid (Has.src hhx hby hN3 hN2 (by unfold maxLen; omega) hgl)
              have HN3 := Lib.hid hN3
              have HT6 : Hid ((Tot o' bf' rest').map ((outl ++ ys) ++ ·) = run xs) := tot_on hT.out hT6
              have HD6 := Lib.hid hD6
              clear hT6 hD6 hhx hN3 hby hr6
              go_wp2_with (at_builtin; refine wpList_app2 rfl (.tmp 50) (.tmp 53) rfl rfl HO6.out rfl HSR.out ?_ ?_ (ol + N) ?_ ?_)
              · have := HN3.out; have := HOL.out; omega
              · omega
              · have := HN3.out; have := HOL.out; omega
              · intro A7 c7 w7 hown7 hs7 hg7 hat7
                have hbe7 : Below (Z + 2) w6 w7 := Below.grown (Below.refl _ _) hg7 (by omega) (fun k hk => (HO6.out.lt k hk).1)
                have hD7 := HD6.out.same (hbe7.block (Z + 1) (by omega)) (hbe7.block Z (by omega)) (hbe7.block q (by omega))
                have hz7 := hbe7.size
                have hb7 := hb6.trans (hbe7.mono (by omega))
                clear hg7 hat7 hs7 hbe7 hb6
                go_wp2
                go_roundg (4 * n + 9 - (ol + N))
                case measure => have := hk.out; omega
                case rel =>
                  have hk' := hk.out
                  have hle : (outl ++ ys).length = ol + N := by rw [List.length_append, HN3.out, HOL.out]
                  exact ⟨i + 1, (by go_num), by omega, outl ++ ys, o', bf', rest', eof', hown7, hD7, HT6.out, by rw [hle]; rfl, by rw [hle]; omega, hb7, by omega⟩
            · have hrun : run xs = some outl := by rw [← hT.out, hT6]; simp
              have HRUN := Lib.hid hrun
              clear hrun hT6 hr6
              have HSR : Hid (Src w6 w6.heap.size (some ⟨wr.heap.size, 0, none⟩) 0 sz []) := Src.none_.2 (by unfold maxLen; omega)
              go_wp2_with (at_builtin; refine wpList_app2 rfl (.tmp 50) (.tmp 53) rfl rfl HO6.out rfl HSR.out ?_ ?_ ol ?_ ?_)
              · have := HOL.out; simp; omega
              · omega
              · have := HOL.out; simp; omega
              · intro A7 c7 w7 hown7 hs7 hg7 hat7
                have hbe7 : Below (Z + 2) w6 w7 := Below.grown (Below.refl _ _) hg7 (by omega) (fun k hk => (HO6.out.lt k hk).1)
                have hb7 := hb6.trans (hbe7.mono (by omega))
                have hv7 := cell0_below hb7 hv hw0
                have hown8 : Own w7 (Z + 2) (.slice A7 ol c7) outl := by simpa using hown7
                clear hg7 hat7 hs7 hbe7 hb6 hown7
                go_wp2
                go_quiet (fail)
                go_wp2
                go_ret2
                exact ⟨Bdrew hb7 _, .inl ⟨_, outl, HRUN.out, rfl, (hown8.mono_ (by omega)).drewN _⟩⟩
            · have hrun : run xs = none := by rw [← hT.out, hT6]; rfl
              have HRUN := Lib.hid hrun
              clear hrun hT6 hr6
              have HSR : Hid (Src w6 w6.heap.size (some ⟨wr.heap.size, 0, none⟩) 0 sz []) := Src.none_.2 (by unfold maxLen; omega)
              go_wp2_with (at_builtin; refine wpList_app2 rfl (.tmp 50) (.tmp 53) rfl rfl HO6.out rfl HSR.out ?_ ?_ ol ?_ ?_)
              · have := HOL.out; simp; omega
              · omega
              · have := HOL.out; simp; omega
              · intro A7 c7 w7 hown7 hs7 hg7 hat7
                have hbe7 : Below (Z + 2) w6 w7 := Below.grown (Below.refl _ _) hg7 (by omega) (fun k hk => (HO6.out.lt k hk).1)
                have hb7 := hb6.trans (hbe7.mono (by omega))
                have hv7 := cell0_below hb7 hv hw0
                clear hg7 hat7 hs7 hbe7 hb6 hown7
                go_wp2
                go_quiet (fail)
                go_wp2
                go_ret2
                exact ⟨Bdrew hb7 _, .inr ⟨HRUN.out, _, rfl⟩⟩
        · have hkm : i % m < m := Nat.mod_lt _ hmp
          have e1 : (i : Int) % (m : Int) < (m : Int) := Int.emod_lt_of_pos _ (by omega)
          have e2 : 0 ≤ (i : Int) % (m : Int) := Int.emod_nonneg _ (by omega)
          have e3 : ((i : Int) % (m : Int)).toNat = i % m := by omega
          clear hw8
          go_wp2_with (at_make; refine wpList_mk5 _ rfl (.tmp 42) (.tmp 42) rfl _ _ _ _ sz rfl rfl ?_ ?_ ?_ ?_)
          · rfl
          · rfl
          · omega
          · intro w5 hr5 hg5 hz5
            have hbe5 : Below wr.heap.size wr w5 := (Below.refl _ _).grown hg5 (Nat.le_refl _) (fun k hk => by cases hk)
            have hwr := hbel.size
            have hD5 := HD.out.same (hbe5.block (Z + 1) (by omega)) (hbe5.block Z (by omega)) (hbe5.block q (by omega))
            have hO5 := HOWN.out.below_ hbe5 (fun k hk => (HOWN.out.lt k hk).2)
            have hOlt := HOWN.out.lt
            have hb5 : Below w.heap.size w w5 := hbel.trans (hbe5.mono hwr)
            have hv5 := cell0_below hb5 hv hw0
            have HDR := Lib.hid (decRead_any w.heap.size (Z + 1) Z q pc wr.heap.size 0 sz sz 104 (.pointer (some ea)) (Tot o bf rest) o bf rest eof w5 hD5 rfl hv5 (hr5.room.mono_ (by omega)) (by omega) (by omega) (by omega) hw0 (by omega) (by omega) hwr hpc (by unfold maxLen; omega) hsz1 (Nat.le_refl _) (by unfold maxLen; omega))
            have HO5 := Lib.hid hO5
            have HOLT := Lib.hid hOlt
            have HR5 := Lib.hid hr5
            clear hD5 hO5 hv5 hg5 hOlt hbe5 hr5
            go_wp2_with (go_at_call 62; refine HDR.out.mono ?_; intro e w6 hpost; obtain ⟨nv, er, rfl, hst, hR⟩ := read_split hpost; refine Hid.out ?_)
            refine Lib.hid ?_
            clear hpost
            have HO6 : Hid (Own w6 (Z + 2) (.slice A9 ol c9) outl) := HO5.out.same_ (fun k hk => hst.others k (by have := HOLT.out k hk; omega) (by have := HOLT.out k hk; omega) (by have := HOLT.out k hk; omega))
            have hb6 : Below w.heap.size w w6 := hb5.trans hst.below
            have hr6 := hst.row _ HR5.out
            have hz6 := hst.size
            have hgl : wr.heap.size < w6.heap.size := by omega
            clear hst hb5
            rcases hR with ⟨N, ys, o', bf', rest', eof', rfl, rfl, hN1, hN2, hN3, hby, hhx, hD6, hT6⟩ | ⟨rfl, rfl, hT6⟩ | ⟨ii, rfl, rfl, hT6⟩
            · have HSR := Lib.hid (Has.src hhx hby hN3 hN2 (by unfold maxLen; omega) hgl)
              have HN3 := Lib.hid hN3
              have HT6 : Hid ((Tot o' bf' rest').map ((outl ++ ys) ++ ·) = run xs) := tot_on hT.out hT6
              have HD6 := Lib.hid hD6
              clear hT6 hD6 hhx hN3 hby hr6
              go_wp2_with (at_builtin; refine wpList_app2 rfl (.tmp 50) (.tmp 53) rfl rfl HO6.out rfl HSR.out ?_ ?_ (ol + N) ?_ ?_)
              · have := HN3.out; have := HOL.out; omega
              · omega
              · have := HN3.out; have := HOL.out; omega
              · intro A7 c7 w7 hown7 hs7 hg7 hat7
                have hbe7 : Below (Z + 2) w6 w7 := Below.grown (Below.refl _ _) hg7 (by omega) (fun k hk => (HO6.out.lt k hk).1)
                have hD7 := HD6.out.same (hbe7.block (Z + 1) (by omega)) (hbe7.block Z (by omega)) (hbe7.block q (by omega))
                have hz7 := hbe7.size
                have hb7 := hb6.trans (hbe7.mono (by omega))
                clear hg7 hat7 hs7 hbe7 hb6
                go_wp2
                go_roundg (4 * n + 9 - (ol + N))
                case measure => have := hk.out; omega
                case rel =>
                  have hk' := hk.out
                  have hle : (outl ++ ys).length = ol + N := by rw [List.length_append, HN3.out, HOL.out]
                  exact ⟨i + 1, (by go_num), by omega, outl ++ ys, o', bf', rest', eof', hown7, hD7, HT6.out, by rw [hle]; rfl, by rw [hle]; omega, hb7, by omega⟩
            · have hrun : run xs = some outl := by rw [← hT.out, hT6]; simp
              have HRUN := Lib.hid hrun
              clear hrun hT6 hr6
              have HSR : Hid (Src w6 w6.heap.size (some ⟨wr.heap.size, 0, none⟩) 0 sz []) := Src.none_.2 (by unfold maxLen; omega)
              go_wp2_with (at_builtin; refine wpList_app2 rfl (.tmp 50) (.tmp 53) rfl rfl HO6.out rfl HSR.out ?_ ?_ ol ?_ ?_)
              · have := HOL.out; simp; omega
              · omega
              · have := HOL.out; simp; omega
              · intro A7 c7 w7 hown7 hs7 hg7 hat7
                have hbe7 : Below (Z + 2) w6 w7 := Below.grown (Below.refl _ _) hg7 (by omega) (fun k hk => (HO6.out.lt k hk).1)
                have hb7 := hb6.trans (hbe7.mono (by omega))
                have hv7 := cell0_below hb7 hv hw0
                have hown8 : Own w7 (Z + 2) (.slice A7 ol c7) outl := by simpa using hown7
                clear hg7 hat7 hs7 hbe7 hb6 hown7
                go_wp2
                go_quiet (fail)
                go_wp2
                go_ret2
                exact ⟨Bdrew hb7 _, .inl ⟨_, outl, HRUN.out, rfl, (hown8.mono_ (by omega)).drewN _⟩⟩
            · have hrun : run xs = none := by rw [← hT.out, hT6]; rfl
              have HRUN := Lib.hid hrun
              clear hrun hT6 hr6
              have HSR : Hid (Src w6 w6.heap.size (some ⟨wr.heap.size, 0, none⟩) 0 sz []) := Src.none_.2 (by unfold maxLen; omega)
              go_wp2_with (at_builtin; refine wpList_app2 rfl (.tmp 50) (.tmp 53) rfl rfl HO6.out rfl HSR.out ?_ ?_ ol ?_ ?_)
              · have := HOL.out; simp; omega
              · omega
              · have := HOL.out; simp; omega
              · intro A7 c7 w7 hown7 hs7 hg7 hat7
                have hbe7 : Below (Z + 2) w6 w7 := Below.grown (Below.refl _ _) hg7 (by omega) (fun k hk => (HO6.out.lt k hk).1)
                have hb7 := hb6.trans (hbe7.mono (by omega))
                have hv7 := cell0_below hb7 hv hw0
                clear hg7 hat7 hs7 hbe7 hb6 hown7
                go_wp2
                go_quiet (fail)
                go_wp2
                go_ret2
                exact ⟨Bdrew hb7 _, .inr ⟨HRUN.out, _, rfl⟩⟩
      · go_wp2
        go_ret2
        exact ⟨hbel, .inr ⟨tot_over hT.out (by rw [HX.out, ← HOL.out]; omega), _, rfl⟩⟩
end Go.Proofs.YtfonpcfcelahdaaDoor
