/-
  Plain Lean, the second part: what a walk over signs leaves, and how it hangs together with what is decoded of all of them.
-/
import Derived.Test.YtfonpcfcelahdaaDoorPlain
namespace Go.Proofs.YtfonpcfcelahdaaDoor

/-- What Decode makes of how its walk over n signs ended. -/
def fin (n : Nat) (flush : Bool) : Res → List Int × Nat × Option Nat
  | .full out nsrc => (out, nsrc, none)
  | .bad i => ([], 0, some i)
  | .done out nsrc v nb =>
    if flush then
      if nb = 0 then (out, n, none)
      else if nb = 1 then ([], 0, some n)
      else (out ++ tail v nb, n, none)
    else (out, nsrc, none)

/-- What Decode answers: the bytes, how many signs it took, and the place of its error. -/
def decode (room : Nat) (l : List Int) (flush : Bool) : List Int × Nat × Option Nat := fin l.length flush (scan room 0 [] 0 0 0 l)

section
variable {room k nsrc nb : Nat} {out r : List Int} {v x : Int}
theorem scan_full (h : room < out.length + 4) : scan room k out nsrc v nb (x :: r) = .full out nsrc := by simp only [scan]; rw [if_pos h]
theorem scan_blank (h : ¬ room < out.length + 4) (hx : x ≤ 32) : scan room k out nsrc v nb (x :: r) = scan room (k + 1) out nsrc v nb r := by
  conv => lhs; unfold scan
  rw [if_neg h, if_pos hx]
theorem scan_z (h : ¬ room < out.length + 4) : scan room k out nsrc v 0 (122 :: r) = scan room (k + 1) (out ++ [0, 0, 0, 0]) (k + 1) 0 0 r := by
  conv => lhs; unfold scan
  rw [if_neg h, if_neg (by omega), if_pos ⟨rfl, rfl⟩]
theorem scan_sign (h : ¬ room < out.length + 4) (h0 : 33 ≤ x) (h1 : x ≤ 117) (h4 : nb ≠ 4) : scan room k out nsrc v nb (x :: r) = scan room (k + 1) out nsrc (more v x) (nb + 1) r := by
  conv => lhs; unfold scan
  rw [if_neg h, if_neg (by omega), if_neg (by omega), if_pos ⟨h0, h1⟩, if_neg h4]
theorem scan_last (h : ¬ room < out.length + 4) (h0 : 33 ≤ x) (h1 : x ≤ 117) : scan room k out nsrc v 4 (x :: r) = scan room (k + 1) (out ++ bytes4 (more v x)) (k + 1) 0 0 r := by
  conv => lhs; unfold scan
  rw [if_neg h, if_neg (by omega), if_neg (by omega), if_pos ⟨h0, h1⟩, if_pos rfl]
theorem scan_bad (h : ¬ room < out.length + 4) (hx : ¬ x ≤ 32) (hz : ¬ (x = 122 ∧ nb = 0)) (hs : ¬ (33 ≤ x ∧ x ≤ 117)) : scan room k out nsrc v nb (x :: r) = .bad k := by
  simp only [scan]
  rw [if_neg h, if_neg hx, if_neg hz, if_neg hs]
end

theorem more_range (v x : Int) : 0 ≤ more v x ∧ more v x < 4294967296 := by unfold more; omega
theorem bytes4_length (v : Int) : (bytes4 v).length = 4 := rfl

/-! ### A scan and the machine, whatever follows -/
theorem mach_of_scan {room : Nat} (l : List Int) : ∀ (i : Nat) (out : List Int) (nsrc : Nat) (v : Int) (nb : Nat) (out' : List Int) (nsrc' : Nat) (v' : Int) (nb' : Nat), scan room i out nsrc v nb l = .done out' nsrc' v' nb' →
    ∃ e, out' = out ++ e ∧ ∀ rest, mach v nb (l ++ rest) = (mach v' nb' rest).map (e ++ ·) := by
  induction l with
  | nil =>
    intro i out nsrc v nb out' nsrc' v' nb' h
    simp only [scan, Res.done.injEq] at h
    obtain ⟨rfl, rfl, rfl, rfl⟩ := h
    exact ⟨[], by simp, fun rest => by simp⟩
  | cons b r ih =>
    intro i out nsrc v nb out' nsrc' v' nb' h
    simp only [scan] at h
    split at h
    · cases h
    · split at h
      · rename_i hb
        obtain ⟨e, he, hm⟩ := ih _ _ _ _ _ _ _ _ _ h
        exact ⟨e, he, fun rest => by simp only [List.cons_append, mach, if_pos hb]; exact hm rest⟩
      · rename_i hb
        split at h
        · rename_i hz
          obtain ⟨e, he, hm⟩ := ih _ _ _ _ _ _ _ _ _ h
          refine ⟨[0, 0, 0, 0] ++ e, by rw [he, List.append_assoc], fun rest => ?_⟩
          simp only [List.cons_append, mach, if_neg hb, if_pos hz, hm rest]
          cases mach v' nb' rest <;> simp
        · rename_i hz
          split at h
          · rename_i hs
            split at h
            · rename_i h4
              obtain ⟨e, he, hm⟩ := ih _ _ _ _ _ _ _ _ _ h
              refine ⟨bytes4 (more v b) ++ e, by rw [he, List.append_assoc], fun rest => ?_⟩
              simp only [List.cons_append, mach, if_neg hb, if_neg hz, if_pos hs, if_pos h4, hm rest]
              cases mach v' nb' rest <;> simp
            · rename_i h4
              obtain ⟨e, he, hm⟩ := ih _ _ _ _ _ _ _ _ _ h
              exact ⟨e, he, fun rest => by simp only [List.cons_append, mach, if_neg hb, if_neg hz, if_pos hs, if_neg h4]; exact hm rest⟩
          · cases h

/-- As far as its groups are whole: what stands behind the last whole group is decoded from the start. -/
theorem cut_of_scan {room : Nat} (l : List Int) : ∀ (i : Nat) (out : List Int) (nsrc : Nat) (v : Int) (nb : Nat) (l0 : List Int) (out' : List Int) (nsrc' : Nat) (v' : Int) (nb' : Nat),
    (scan room i out nsrc v nb l = .done out' nsrc' v' nb' ∨ scan room i out nsrc v nb l = .full out' nsrc') → l0.length = i → nsrc ≤ i → (∀ rest, mach 0 0 (l0.drop nsrc ++ rest) = mach v nb rest) →
    ∃ e, out' = out ++ e ∧ nsrc ≤ nsrc' ∧ nsrc' ≤ i + l.length ∧ ∀ rest, mach v nb (l ++ rest) = (mach 0 0 ((l0 ++ l).drop nsrc' ++ rest)).map (e ++ ·) := by
  induction l with
  | nil =>
    intro i out nsrc v nb l0 out' nsrc' v' nb' h hl hn hm
    rcases h with h | h
    · simp only [scan, Res.done.injEq] at h
      obtain ⟨rfl, rfl, rfl, rfl⟩ := h
      exact ⟨[], by simp, Nat.le_refl _, by simpa using hn, fun rest => by simp [hm rest]⟩
    · simp [scan] at h
  | cons b r ih =>
    intro i out nsrc v nb l0 out' nsrc' v' nb' h hl hn hm
    have happ : (l0 ++ b :: r) = ((l0 ++ [b]) ++ r) := by simp
    have hdrop : nsrc ≤ l0.length := by omega
    by_cases hroom : room < out.length + 4
    · rw [scan_full hroom] at h
      rcases h with h | h
      · cases h
      · simp only [Res.full.injEq] at h
        obtain ⟨rfl, rfl⟩ := h
        refine ⟨[], by simp, Nat.le_refl _, by simp; omega, fun rest => ?_⟩
        rw [List.drop_append_of_le_length hdrop, List.append_assoc, hm]
        simp
    · by_cases hb : b ≤ 32
      · rw [scan_blank hroom hb] at h
        obtain ⟨e, he, h1, h2, h3⟩ := ih (i + 1) out nsrc v nb (l0 ++ [b]) out' nsrc' v' nb' h (by simp; omega) (by omega) (fun rest => by
          rw [List.drop_append_of_le_length hdrop, List.append_assoc, hm]
          simp [mach, hb])
        refine ⟨e, he, h1, by simp; omega, fun rest => ?_⟩
        have := h3 rest
        rw [← happ] at this
        rw [← this]
        simp [mach, hb]
      · by_cases hz : b = 122 ∧ nb = 0
        · obtain ⟨rfl, rfl⟩ := hz
          rw [scan_z hroom] at h
          obtain ⟨e, he, h1, h2, h3⟩ := ih (i + 1) _ (i + 1) 0 0 (l0 ++ [122]) out' nsrc' v' nb' h (by simp; omega) (by omega) (fun rest => by
            rw [List.drop_of_length_le (by simp; omega)]; rfl)
          refine ⟨[0, 0, 0, 0] ++ e, by rw [he, List.append_assoc], by omega, by simp; omega, fun rest => ?_⟩
          have := h3 rest
          rw [← happ] at this
          simp only [List.cons_append, mach, if_neg hb, this]
          cases mach 0 0 (List.drop nsrc' (l0 ++ 122 :: r) ++ rest) <;> simp
        · by_cases hs : 33 ≤ b ∧ b ≤ 117
          · by_cases h4 : nb = 4
            · subst h4
              rw [scan_last hroom hs.1 hs.2] at h
              obtain ⟨e, he, h1, h2, h3⟩ := ih (i + 1) _ (i + 1) 0 0 (l0 ++ [b]) out' nsrc' v' nb' h (by simp; omega) (by omega) (fun rest => by
                rw [List.drop_of_length_le (by simp; omega)]; rfl)
              refine ⟨bytes4 (more v b) ++ e, by rw [he, List.append_assoc], by omega, by simp; omega, fun rest => ?_⟩
              have := h3 rest
              rw [← happ] at this
              simp only [List.cons_append, mach, if_neg hb, if_neg hz, if_pos hs, this]
              cases mach 0 0 (List.drop nsrc' (l0 ++ b :: r) ++ rest) <;> simp
            · rw [scan_sign hroom hs.1 hs.2 h4] at h
              obtain ⟨e, he, h1, h2, h3⟩ := ih (i + 1) out nsrc (more v b) (nb + 1) (l0 ++ [b]) out' nsrc' v' nb' h (by simp; omega) (by omega) (fun rest => by
                rw [List.drop_append_of_le_length hdrop, List.append_assoc, hm]
                simp only [List.cons_append, List.nil_append, mach, if_neg hb, if_neg hz, if_pos hs, if_neg h4])
              refine ⟨e, he, h1, by simp; omega, fun rest => ?_⟩
              have := h3 rest
              rw [← happ] at this
              simp only [List.cons_append, mach, if_neg hb, if_neg hz, if_pos hs, if_neg h4, this]
          · rw [scan_bad hroom hb hz hs] at h
            rcases h with h | h <;> cases h
end Go.Proofs.YtfonpcfcelahdaaDoor
