/-
  What spec.Spread does: signs, and blanks ahead of each.
-/
import Derived.Test.YtfonpcfcelahdaaDoorSpecEnc
import Derived.Test.YtfonpcfcelahdaaDoorOpen
namespace Go.Proofs.YtfonpcfcelahdaaDoor
open Go.RowKit

/-- The five signs that are none, by their place. -/
def blank : Nat → Int
  | 1 => 10
  | 2 => 0
  | 3 => 9
  | 4 => 31
  | _ => 32
def blanks : Nat → List Int
  | 0 => []
  | k + 1 => blank (k + 1) :: blanks k
def gapOf (gs : List Int) (i : Nat) : Nat := if gs.length = 0 then 0 else (gs.getD (i % gs.length) 0 % 18446744073709551616 % 5).toNat
def spread (gs : List Int) : Nat → List Int → List Int
  | _, [] => []
  | i, x :: r => blanks (gapOf gs i) ++ (x :: spread gs (i + 1) r)

theorem gapOf_lt (gs : List Int) (i : Nat) : gapOf gs i ≤ 4 := by unfold gapOf; split <;> omega
theorem blank_le (k : Nat) : 0 ≤ blank k ∧ blank k ≤ 32 := by unfold blank; split <;> omega
theorem blanks_length (k : Nat) : (blanks k).length = k := by
  induction k with
  | zero => rfl
  | succ k ih => simp [blanks, ih]
theorem blanks_le (k : Nat) : ∀ x ∈ blanks k, 0 ≤ x ∧ x ≤ 32 := by
  induction k with
  | zero => intro x hx; cases hx
  | succ k ih =>
    intro x hx
    simp only [blanks, List.mem_cons] at hx
    rcases hx with rfl | hx
    · exact blank_le _
    · exact ih x hx
theorem spread_length (gs : List Int) (xs : List Int) : ∀ i, (spread gs i xs).length ≤ 5 * xs.length := by
  induction xs with
  | nil => intro i; simp [spread]
  | cons x r ih =>
    intro i
    have := ih (i + 1)
    have := gapOf_lt gs i
    simp only [spread, List.length_append, List.length_cons, blanks_length]
    omega
theorem spread_bytes (gs : List Int) (xs : List Int) (h : AllBytes xs) : ∀ i, AllBytes (spread gs i xs) := by
  induction xs with
  | nil => intro i x hx; cases hx
  | cons x r ih =>
    intro i y hy
    simp only [spread, List.mem_append, List.mem_cons] at hy
    rcases hy with hy | rfl | hy
    · have := blanks_le _ y hy; omega
    · exact h y (by simp)
    · exact ih (fun z hz => h z (by simp [hz])) (i + 1) y hy
theorem spread_filter (gs : List Int) (xs : List Int) (h : ∀ x ∈ xs, 32 < x) : ∀ i, (spread gs i xs).filter (fun b => decide (32 < b)) = xs := by
  induction xs with
  | nil => intro i; rfl
  | cons x r ih =>
    intro i
    have e : (blanks (gapOf gs i)).filter (fun b => decide (32 < b)) = [] := by
      rw [List.filter_eq_nil_iff]
      intro y hy
      have := blanks_le _ y hy
      simp; omega
    simp only [spread, List.filter_append, e, List.nil_append]
    rw [List.filter_cons, if_pos (by simpa using h x (by simp)), ih (fun z hz => h z (by simp [hz]))]

/-- The slice value '.slice G m c' holds the numbers gs, below block B. -/
def Ints (w : World) (B : Nat) (G : Option Addr) (m c : Nat) (gs : List Int) : Prop :=
  gs.length = m ∧ m ≤ c ∧ c ≤ maxLen ∧ (∀ x ∈ gs, -9223372036854775808 ≤ x ∧ x ≤ 9223372036854775807) ∧ (0 < m → ∃ b off, G = some ⟨b, off, none⟩ ∧ b < B ∧ ∀ i, i < m → w.cell? ⟨b, off + i, none⟩ = some (.int .i64 (gs.getD i 0)))

theorem Ints.below {w w' : World} {B m c : Nat} {G : Option Addr} {gs : List Int} (h : Ints w B G m c gs) (hb : Below B w w') : Ints w' B G m c gs :=
  ⟨h.1, h.2.1, h.2.2.1, h.2.2.2.1, fun hn => by
    obtain ⟨b, off, e, hlt, hc⟩ := h.2.2.2.2 hn
    exact ⟨b, off, e, hlt, fun i hi => (hb.cell (p := ⟨b, off + i, none⟩) hlt).trans (hc i hi)⟩⟩
theorem Ints.more {w : World} {B B' m c : Nat} {G : Option Addr} {gs : List Int} (h : Ints w B G m c gs) (hB : B ≤ B') : Ints w B' G m c gs :=
  ⟨h.1, h.2.1, h.2.2.1, h.2.2.2.1, fun hn => by
    obtain ⟨b, off, e, hlt, hc⟩ := h.2.2.2.2 hn
    exact ⟨b, off, e, by omega, hc⟩⟩
theorem IsRow.ints {w : World} {a : Option Addr} {len cap : Nat} {zs : List Int} (h : IsRow .i64 w a len cap zs) : Ints w w.heap.size a len cap (zs.take len) := by
  rcases h with ⟨rfl, rfl, rfl, rfl⟩ | ⟨x, rfl, hl, hm, hz, hc, hw⟩
  · exact ⟨rfl, Nat.le_refl _, by unfold maxLen; omega, fun _ hx => (by cases hx), fun hn => absurd hn (by omega)⟩
  · refine ⟨by rw [List.length_take]; omega, hl, hm, fun y hy => ?_, fun hn => ?_⟩
    · have := bounds_i64 (hw y (List.mem_of_mem_take hy))
      omega
    · obtain ⟨b, off, spot⟩ := x
      have h0 := hc 0 (by omega)
      have hspot : spot = none := by simpa [Addr.add] using World.cell?_spot h0
      subst hspot
      refine ⟨b, off, rfl, ?_, fun i hi => ?_⟩
      · have := block_lt h0
        simpa [Addr.add] using this
      · have e : (⟨b, off, none⟩ : Addr).add i = ⟨b, off + i, none⟩ := by
          unfold Addr.add
          split
          · rename_i h; subst h; rfl
          · rfl
        rw [← e, hc i (by omega)]
        simp [List.getD, hi]

theorem spread_on {gs acc xs ys : List Int} {k : Nat} {x : Int} (h : Hid (acc ++ spread gs k (xs.drop k) = ys)) (hd : xs.drop k = x :: xs.drop (k + 1)) : Hid (acc ++ (blanks (gapOf gs k) ++ (x :: spread gs (k + 1) (xs.drop (k + 1)))) = ys) := by
  have := h.out
  rw [hd, spread] at this
  exact this

theorem spread_zero {gs acc r ys : List Int} {k' : Nat} {x : Int} {q : Nat} (h : Hid (acc ++ (blanks q ++ (x :: spread gs k' r)) = ys)) (hq : q = 0) : Hid ((acc ++ [x]) ++ spread gs k' r = ys) := by
  subst hq
  have := h.out
  simpa [blanks, Hid] using this
theorem blank_on {acc r ys : List Int} {j : Nat} (h : Hid (acc ++ (blanks j ++ r) = ys)) (hj : 0 < j) : Hid ((acc ++ [blank j]) ++ (blanks (j - 1) ++ r) = ys) := by
  obtain ⟨i, rfl⟩ : ∃ i, j = i + 1 := ⟨j - 1, by omega⟩
  have := h.out
  simpa [blanks, Hid] using this
theorem cell_of_five (w : World) (j : Nat) (h : 1 ≤ j ∧ j ≤ 4) : (w.alloc (.cells #[.int .u8 32, .int .u8 10, .int .u8 0, .int .u8 9, .int .u8 31] 5)).cell? ⟨w.heap.size, j, none⟩ = some (.int .u8 (blank j)) := by
  rw [cell_of_row (w.alloc _) w.heap.size j _ 5 (0, 0) (heap_alloc_new w _)]
  rcases (by omega : j = 1 ∨ j = 2 ∨ j = 3 ∨ j = 4) with rfl | rfl | rfl | rfl <;> rfl

theorem src_of_five (w : World) (j : Nat) : Src ((w.alloc (.cells #[.int .u8 32, .int .u8 10, .int .u8 0, .int .u8 9, .int .u8 31] 5)).alloc (.cells #[.int .u8 (blank j)] 5)) (w.heap.size + 2) (some ⟨w.heap.size + 1, 0, none⟩) 1 1 [blank j] := by
  have h := Src.lit (w.alloc (.cells #[.int .u8 32, .int .u8 10, .int .u8 0, .int .u8 9, .int .u8 31] 5)) [blank j] (by intro y hy; simp at hy; have := blank_le j; omega) (by simp)
  simpa using h

theorem gap_spelt {z : Int} {q : Nat} (h : Hid ((q : Int) = z % 18446744073709551616 % 5)) : Value.int .i64 (wrap64 ((IntKind.u64.wrap z).tmod 5)) = .int .i64 (q : Int) := by
  have h := h.out
  rw [IntKind.wrap_u64, tmod_of_emod, ← h, IntWalk.wrap64_in _ ⟨by omega, by omega⟩]

set_option maxHeartbeats 2000000 in
set_option maxRecDepth 100000 in
theorem spread_any (A G : Option Addr) (n c m gc : Nat) (xs gs : List Int) (w : World) (h : Src w w.heap.size A n c xs) (hn : n ≤ 100000) (hg : Ints w w.heap.size G m gc gs) :
    Calls Tryd.prog 7 #[.slice A n c, .slice G m gc] w fun e w' => ∃ v, e = .returned v ∧ Own w' w.heap.size v (spread gs 0 xs) ∧ Below w.heap.size w w' := by
  have hmm := hg.2.1
  have hmc := hg.2.2.1
  unfold maxLen at hmc
  have HXL := Lib.hid h.1
  have HS := Lib.hid h
  have HG := Lib.hid hg
  have HGL := Lib.hid hg.1
  clear h hg
  go_enter Tryd.func7, Tryd.ntmps7
  go_wp2
  go_loopw [5, 11] (fun s5 s11 wr => ∃ (k : Nat) (acc : List Int), s11 = .int .i64 (k : Int) ∧ k ≤ n ∧ Own wr w.heap.size s5 acc ∧ Below w.heap.size w wr ∧ Hid (acc ++ spread gs k (xs.drop k) = spread gs 0 xs))
    (fun _ s11 _ => n - (intOf s11).toNat)
  case atStart => exact ⟨0, [], rfl, by omega, Own.nil, Below.refl _ _, (by simp [Hid])⟩
  case round =>
    obtain ⟨k, acc, rfl, hk, hown, hbel, hacc⟩ := hrel
    by_cases hkn : k < n
    · obtain ⟨x, hx⟩ : ∃ x, xs.getD k 0 = x := ⟨_, rfl⟩
      have hxb := HS.out.2.2.2.1.getD k
      obtain ⟨b, o, rfl, _, hcell⟩ := (HS.out.below hbel).cells (by omega)
      have hc := hcell k hkn
      rw [hx] at hc hxb
      have hd : xs.drop k = x :: xs.drop (k + 1) := by
        have := HXL.out
        rw [List.drop_eq_getElem_cons (by omega), ← hx]
        simp [List.getD, List.getElem?_eq_getElem (show k < xs.length by omega)]
      have hon := spread_on hacc hd
      clear hx hcell hd
      have hsz := hbel.size
      have hal : acc.length ≤ 500000 := by
        have h1 := spread_length gs xs 0
        have h2 := congrArg List.length hacc.out
        rw [List.length_append] at h2
        have := HXL.out
        omega
      by_cases hm0 : m = 0
      · subst hm0
        have hg0 : gapOf gs k = 0 := by unfold gapOf; rw [if_pos HGL.out]
        have hon0 := spread_zero hon hg0
        clear hg0
        go_wp2_with (at_builtin; refine wpList_app rfl _ _ rfl rfl (hown.alloc _) rfl (Src.lit wr [x] ?_ ?_) ?_ ?_ ?_)
        · intro y hy; simp at hy; omega
        · simp
        · simp; omega
        · simp; omega
        · intro v1 w1 hown1 hgrow hat
          have hb1 : Below w.heap.size wr w1 := Below.grown ((Below.refl _ _).alloc hsz _) hgrow (by simp; omega) (fun j hj => (hown.lt j hj).1)
          have hb2 := hbel.trans hb1
          have hon2 := hon0
          clear hown hgrow hat hb1 hbel
          go_wp2
          go_roundw
          case rel => exact ⟨k + 1, _, (by go_num), by omega, hown1, hb2, hon2⟩
          case measure => simp [intOf]; omega
      · have hmp : 0 < m := by omega
        obtain ⟨z, hz⟩ : ∃ z, gs.getD (k % m) 0 = z := ⟨_, rfl⟩
        have hkm : k % m < m := Nat.mod_lt _ hmp
        obtain ⟨gb, go, rfl, _, hgc⟩ := (HG.out.below hbel).2.2.2.2 hmp
        have hgcell := hgc (k % m) hkm
        rw [hz] at hgcell
        obtain ⟨q, hq⟩ : ∃ q, gapOf gs k = q := ⟨_, rfl⟩
        have hq4 : q ≤ 4 := by rw [← hq]; exact gapOf_lt gs k
        have hqz : Hid ((q : Int) = z % 18446744073709551616 % 5) := by
          rw [← hq]
          unfold gapOf Hid
          rw [HGL.out, if_neg (by omega), hz]
          omega
        rw [hq] at hon
        have e1 : (k : Int) % (m : Int) < (m : Int) := Int.emod_lt_of_pos _ (by omega)
        have e2 : 0 ≤ (k : Int) % (m : Int) := Int.emod_nonneg _ (by omega)
        have e3 : ((k : Int) % (m : Int)).toNat = k % m := by omega
        clear hz hgc hq
        have hsl : 5 * n ≤ 500000 := by omega
        obtain ⟨wo, rfl⟩ : ∃ wo : World, wo = wr := ⟨_, rfl⟩
        go_wp2
        go_loopw [5, 8] (fun s5 s8 wx => ∃ (j : Nat) (acc2 : List Int), s8 = .int .i64 (j : Int) ∧ j ≤ 4 ∧ Own wx w.heap.size s5 acc2 ∧ Below w.heap.size w wx ∧ Hid (acc2 ++ (blanks j ++ (x :: spread gs (k + 1) (xs.drop (k + 1)))) = spread gs 0 xs))
          (fun _ s8 _ => (intOf s8).toNat)
        case atStart => exact ⟨q, acc, (gap_spelt hqz), hq4, hown, hbel, hon⟩
        case round =>
          clear hown hbel hon hal hsz
          obtain ⟨j, acc2, rfl, hj, hown, hbel, hon⟩ := hrel
          have hsz := hbel.size
          have hal : acc2.length ≤ 500000 := by
            have h1 := spread_length gs xs 0
            have h2 := congrArg List.length hon.out
            rw [List.length_append] at h2
            have := HXL.out
            omega
          by_cases hj0 : 0 < j
          · have ht := cell_of_five wr j ⟨hj0, hj⟩
            have hsrc := Lib.hid (src_of_five wr j)
            go_wp2_with (at_builtin; refine wpList_app rfl _ _ rfl rfl ((hown.alloc _).alloc _) rfl hsrc.out ?_ ?_ ?_)
            · simp; omega
            · simp; omega
            · intro v1 w1 hown1 hgrow hat
              have hb1 : Below w.heap.size wr w1 := Below.grown (((Below.refl _ _).alloc hsz _).alloc (by simp; omega) _) hgrow (by simp; omega) (fun j hj => (hown.lt j hj).1)
              have hb2 := hbel.trans hb1
              have hon2 := blank_on hon hj0
              clear hown hgrow hat hb1 hbel ht hsrc
              go_wp2
              go_roundw
              case rel => exact ⟨j - 1, _, (by go_num), by omega, hown1, hb2, hon2⟩
              case measure => simp [intOf]; omega
          · have hon0 := spread_zero hon (by omega)
            go_wp2_with (at_builtin; refine wpList_app rfl _ _ rfl rfl (hown.alloc _) rfl (Src.lit wr [x] ?_ ?_) ?_ ?_ ?_)
            · intro y hy; simp at hy; omega
            · simp
            · simp; omega
            · simp; omega
            · intro v1 w1 hown1 hgrow hat
              have hb1 : Below w.heap.size wr w1 := Below.grown ((Below.refl _ _).alloc hsz _) hgrow (by simp; omega) (fun j hj => (hown.lt j hj).1)
              have hb2 := hbel.trans hb1
              clear hown hgrow hat hb1 hbel
              go_wp2
              go_roundw
              case rel => exact ⟨k + 1, _, (by go_num), by omega, hown1, hb2, hon0⟩
              case measure => simp [intOf]; omega
    · obtain rfl : k = n := by omega
      go_wp2
      go_ret
      refine ⟨_, rfl, ?_, hbel⟩
      have := hacc.out
      rw [List.drop_of_length_le (by rw [HXL.out]; exact Nat.le_refl _)] at this
      simp only [spread, List.append_nil] at this
      rw [← this]
      exact hown
end Go.Proofs.YtfonpcfcelahdaaDoor
