/-
  What the slow reader's Read does.
-/
import Derived.Test.YtfonpcfcelahdaaDoorCopy
import Derived.Test.YtfonpcfcelahdaaDoorEnc
import Derived.BigQuiet
namespace Go.Proofs.YtfonpcfcelahdaaDoor
open Go.RowKit

/-- The reader at block sb still has the bytes rest, which lie in block q; it gives at most pc at a time. -/
structure Slow (w : World) (sb q : Nat) (rest : List Int) (pc : Nat) : Prop where
  room : Room w sb 2
  s0 : ∃ S c2, w.cell? ⟨sb, 0, none⟩ = some (.slice S rest.length c2) ∧ rest.length ≤ c2 ∧ c2 ≤ maxLen ∧ (0 < rest.length → ∃ k, S = some ⟨q, k, none⟩ ∧ Has w q k rest)
  s1 : w.cell? ⟨sb, 1, none⟩ = some (.int .i64 (pc : Int))

theorem Has.drop {w : World} {b P : Nat} {xs : List Int} (h : Has w b P xs) (k : Nat) : Has w b (P + k) (xs.drop k) := fun i hi => by
  rw [List.length_drop] at hi
  have := h (k + i) (by omega)
  rw [← Nat.add_assoc] at this
  rw [this]
  simp [List.getD, List.getElem?_drop]
theorem Has.far {w w' : World} {b P g off len n : Nat} {xs : List Int} (h : Has w b P xs) (hw : Wrote w w' g off len) (hr : Room w g n) (hb : b ≠ g) : Has w' b P xs := fun i hi => by
  rw [hw.cell hr (.inl hb)]
  exact h i hi
theorem Room.wrote_ {w w' : World} {b n g off len : Nat} (h : Room w b n) (hw : Wrote w w' g off len) : Room w' b n := by
  by_cases hb : b = g
  · subst hb; exact h.wrote hw
  · obtain ⟨cs, t, hc, hn⟩ := h
    exact ⟨cs, t, (hw.block b hb).trans hc, hn⟩

theorem Slow.wrote {w w' : World} {sb q pc g off len n : Nat} {rest : List Int} (h : Slow w sb q rest pc) (hw : Wrote w w' g off len) (hr : Room w g n) (h1 : sb ≠ g) (h2 : q ≠ g) : Slow w' sb q rest pc := by
  obtain ⟨r, ⟨S, c2, e0, hl, hm, hc⟩, e1⟩ := h
  refine ⟨r.wrote_ hw, ⟨S, c2, (hw.cell hr (.inl h1)).trans e0, hl, hm, fun hp => ?_⟩, (hw.cell hr (.inl h1)).trans e1⟩
  obtain ⟨k, hk, hh⟩ := hc hp
  exact ⟨k, hk, hh.far hw hr h2⟩

set_option maxRecDepth 100000 in
set_option maxHeartbeats 1000000 in
theorem slow_end (sb q pc : Nat) (v p : Value) (w : World) (h : Slow w sb q [] pc) (hv : w.cell? ⟨0, 0, none⟩ = some v) :
    Calls Tryd.prog 57 #[.pointer (some ⟨sb, 0, none⟩), p] w fun e w' => e = .returned (.tuple #[.int .i64 0, v]) ∧ ∃ k, w' = w.drewN k := by
  obtain ⟨r, ⟨S, c2, e0, hl, hm, hc⟩, e1⟩ := h
  have fz := fun i => r.frozen i
  simp only [List.length_nil] at e0
  clear hc
  go_enter Tryd.func57, Tryd.ntmps57
  go_wp2
  go_quiet (fail)
  go_wp2
  go_ret2
  exact ⟨rfl, nq, rfl⟩

set_option maxRecDepth 100000 in
set_option maxHeartbeats 4000000 in
theorem slow_more (sb q pc g off L c : Nat) (rest : List Int) (w : World) (h : Slow w sb q rest pc) (hpc : 1 ≤ pc) (hr : Room w g (off + L)) (h1 : sb ≠ g) (h2 : q ≠ g) (h3 : q ≠ sb) (h0 : 0 < rest.length) (hL : 1 ≤ L) (hLc : L ≤ c) (hcm : c ≤ maxLen) (hpm : pc ≤ maxLen) :
    Calls Tryd.prog 57 #[.pointer (some ⟨sb, 0, none⟩), .slice (some ⟨g, off, none⟩) L c] w fun e w' => ∃ N, 1 ≤ N ∧ N ≤ L ∧ N ≤ rest.length ∧ e = .returned (.tuple #[.int .i64 (N : Int), .nilIface]) ∧
      (∃ w1, Wrote w w1 g off N ∧ Wrote w1 w' sb 0 1) ∧ Has w' g off (rest.take N) ∧ Slow w' sb q (rest.drop N) pc := by
  obtain ⟨r, ⟨S, c2, e0, hl, hm, hc⟩, e1⟩ := h
  obtain ⟨k, rfl, hh⟩ := hc h0
  have fz := fun i => r.frozen i
  obtain ⟨R, hR⟩ : ∃ R, R = rest.length := ⟨_, rfl⟩
  rw [← hR] at e0 hl h0
  unfold maxLen at hm hcm hpm
  obtain ⟨M, hM⟩ : ∃ M, (if pc < L then (pc : Int) else (L : Int)) = ((M : Nat) : Int) ∧ 1 ≤ M ∧ M ≤ L ∧ M = min L pc := by
    refine ⟨min L pc, ?_, by omega, by omega, rfl⟩
    split <;> omega
  obtain ⟨hM1, hM2, hM3, hM4⟩ := hM
  obtain ⟨N, hN⟩ : ∃ N, N = min R M := ⟨_, rfl⟩
  have hNR : N ≤ R := by omega
  have hNM : N ≤ M := by omega
  have hMc : M ≤ c := by omega
  have hN1 : 1 ≤ N := by omega
  have hlen : (rest.take N).length = N := by rw [List.length_take, ← hR]; omega
  have hht := hh.take N
  have HR := Lib.hid hR
  have HN := Lib.hid hN
  have HM4 := Lib.hid hM4
  have HLEN := Lib.hid hlen
  have P1 : Hid ((rest.take N).length = Nat.min R M) := by unfold Hid; rw [hlen, hN]
  have P2 : Hid (Has w.drew q k (rest.take N)) := hht
  have P3 : Hid (Room w.drew g (off + (rest.take N).length)) := by unfold Hid; rw [hlen]; exact hr.mono_ (by omega)
  have P4 : Hid (N = (rest.take N).length) := hlen.symm
  obtain ⟨D, cD, hD⟩ : ∃ D cD, (Value.slice (if c2 = N then (some ⟨q, k, none⟩ : Option Addr) else (some ⟨q, k, none⟩ : Option Addr).map (·.add N)) (R - N) (c2 - N)) = .slice D (R - N) cD := ⟨_, _, rfl⟩
  have hNc : N ≤ c2 := by omega
  have hrs : ∀ W, (Instr.slice 22 (.slice (some ⟨q, k, none⟩) R c2) (some (.int .i64 (N : Int))) none none).run Tryd.prog W = .ok (.slice D (R - N) cD) W := by
    intro W
    rw [← hD]
    have hs : ∀ w : World, (sizeOf (Tryd.prog.elem 22)).run Tryd.prog w = .ok 1 w := fun w => by kernel_rfl
    rw [run_slice_l (P := Tryd.prog) W 22 (some ⟨q, k, none⟩) R c2 (by kernel_rfl) .i64 (N : Int) (by omega) (by omega), hs]
    simp [sliced, Result.andThen]
  have HD : Hid (cD = c2 - N ∧ (N < R → D = some ⟨q, k + N, none⟩)) := by
    simp only [Value.slice.injEq, true_and] at hD
    refine ⟨hD.2.symm, fun h => ?_⟩
    rw [← hD.1, if_neg (by omega), Option.map_some, add_off]
  clear hR hN hM4 hc hlen hht hD
  go_enter Tryd.func57, Tryd.ntmps57
  go_wp2
  go_region_law (refine step_cp rfl (.tmp 22) (.tmp 26) rfl (xs := rest.take N) (g := g) (off := off) rfl rfl P1.out (fun _ => rfl) (fun _ => ⟨q, k, rfl, P2.out⟩) P3.out N P4.out ?_; intro w1 hw1 hh1)
  all_goals
    have hrd : Room w.drew g (off + L) := hr
    have r1 := r.wrote_ (w' := w1) (show Wrote w w1 g off N from ⟨hw1.os, hw1.tape, hw1.output, hw1.size, hw1.block, hw1.row⟩)
    have e0' : w1.cell? ⟨sb, 0, none⟩ = some (.slice (some ⟨q, k, none⟩) R c2) := (hw1.cell hrd (.inl h1)).trans e0
    have e1' : w1.cell? ⟨sb, 1, none⟩ = some (.int .i64 (pc : Int)) := (hw1.cell hrd (.inl h1)).trans e1
    have fz' := fun i => r1.frozen i
    clear e0 e1 fz
    go_wp2
    go_ret2
    have hRl := HR.out
    have hw2 : Wrote w w1 g off N := ⟨hw1.os, hw1.tape, hw1.output, hw1.size, hw1.block, hw1.row⟩
    have hst := fun v => (Wrote.refl w1 sb 0 1).setCell (i := 0) (by omega) (by omega) v
    refine ⟨N, hN1, by omega, by omega, rfl, ⟨w1, hw2, hst _⟩, hh1.far (hst _) r1 (Ne.symm h1), ?_⟩
    obtain ⟨hcD, hDs⟩ := HD.out
    refine ⟨r1.wrote_ (hst _), ⟨D, cD, ?_, ?_, by unfold maxLen; omega, fun hp => ?_⟩, ?_⟩
    · rw [World.cell?_setCell_same _ _ _ e0', List.length_drop, ← hRl]
    · rw [List.length_drop]; omega
    · rw [List.length_drop] at hp
      exact ⟨k + N, hDs (by omega), ((hh.drop N).far hw2 hr h2).far (hst _) r1 h3⟩
    · rw [(hst _).cell r1 (.inr (.inr (by omega)))]
      exact e1'
end Go.Proofs.YtfonpcfcelahdaaDoor
