/-
  Plain Lean, the fourth part: what a reader that decodes piece by piece needs of one call of Decode.
-/
import Derived.Test.YtfonpcfcelahdaaDoorPlain3
namespace Go.Proofs.YtfonpcfcelahdaaDoor

theorem scan_full_room {room : Nat} (l : List Int) : ∀ (i : Nat) (out : List Int) (nsrc : Nat) (v : Int) (nb : Nat) (o : List Int) (s : Nat), scan room i out nsrc v nb l = .full o s → room < o.length + 4 ∧ out.length ≤ o.length := by
  induction l with
  | nil => intro i out nsrc v nb o s h; simp [scan] at h
  | cons b r ih =>
    intro i out nsrc v nb o s h
    by_cases hroom : room < out.length + 4
    · rw [scan_full hroom] at h
      simp only [Res.full.injEq] at h
      obtain ⟨rfl, rfl⟩ := h
      exact ⟨hroom, Nat.le_refl _⟩
    · by_cases hb : b ≤ 32
      · rw [scan_blank hroom hb] at h
        exact ih _ _ _ _ _ _ _ h
      · by_cases hz : b = 122 ∧ nb = 0
        · obtain ⟨rfl, rfl⟩ := hz
          rw [scan_z hroom] at h
          have := ih _ _ _ _ _ _ _ h
          simp at this
          omega
        · by_cases hs : 33 ≤ b ∧ b ≤ 117
          · by_cases h4 : nb = 4
            · subst h4
              rw [scan_last hroom hs.1 hs.2] at h
              have := ih _ _ _ _ _ _ _ h
              simp [bytes4] at this
              omega
            · rw [scan_sign hroom hs.1 hs.2 h4] at h
              exact ih _ _ _ _ _ _ _ h
          · rw [scan_bad hroom hb hz hs] at h; cases h

/-- The signs among bytes. -/
def sift (l : List Int) : List Int := l.filter (fun b => decide (32 < b))

theorem sift_cons (b : Int) (r : List Int) : sift (b :: r) = if b ≤ 32 then sift r else b :: sift r := by
  unfold sift
  by_cases hb : b ≤ 32
  · rw [if_pos hb, List.filter_cons, if_neg (by simp; omega)]
  · rw [if_neg hb, List.filter_cons, if_pos (by simp; omega)]
theorem sift_append (l r : List Int) : sift (l ++ r) = sift l ++ sift r := List.filter_append ..
theorem sift_sift (l : List Int) : sift (sift l) = sift l := by simp [sift]
theorem sift_le (l : List Int) : (sift l).length ≤ l.length := List.length_filter_le ..
theorem run_sift (l : List Int) : run (sift l) = run l := mach_filter l 0 0
theorem run_sift_app (l r : List Int) : run (sift l ++ r) = run (l ++ r) := by
  rw [← run_sift (sift l ++ r), ← run_sift (l ++ r), sift_append, sift_append, sift_sift]

theorem sift_take {bf : List Int} {i : Nat} (hi : i < bf.length) : sift (bf.take (i + 1)) = if bf.getD i 0 ≤ 32 then sift (bf.take i) else sift (bf.take i) ++ [bf.getD i 0] := by
  have h1 : bf.take (i + 1) = bf.take i ++ [bf.getD i 0] := by
    rw [List.take_succ_eq_append_getElem hi]
    simp [List.getD, List.getElem?_eq_getElem hi]
  rw [h1, sift_append, sift_cons]
  split <;> simp [sift]
theorem sift_bytes_len (bf : List Int) (i : Nat) : (sift (bf.take i)).length ≤ i := by
  have := sift_le (bf.take i)
  have h2 : (bf.take i).length ≤ i := by rw [List.length_take]; omega
  omega

theorem scan_few {room : Nat} (l : List Int) : ∀ (i : Nat) (out : List Int) (nsrc : Nat) (v : Int) (nb : Nat) (o : List Int) (s : Nat) (v' : Int) (nb' : Nat), nb ≤ 4 → scan room i out nsrc v nb l = .done o s v' nb' →
    nb' ≤ 4 ∧ out.length ≤ o.length ∧ (o.length = out.length → nb' = nb + (sift l).length) := by
  induction l with
  | nil =>
    intro i out nsrc v nb o s v' nb' hnb h
    simp only [scan, Res.done.injEq] at h
    obtain ⟨rfl, rfl, rfl, rfl⟩ := h
    exact ⟨hnb, Nat.le_refl _, fun _ => rfl⟩
  | cons b r ih =>
    intro i out nsrc v nb o s v' nb' hnb h
    rw [sift_cons]
    by_cases hroom : room < out.length + 4
    · rw [scan_full hroom] at h; cases h
    · by_cases hb : b ≤ 32
      · rw [scan_blank hroom hb] at h
        rw [if_pos hb]
        exact ih _ _ _ _ _ _ _ _ _ hnb h
      · rw [if_neg hb]
        by_cases hz : b = 122 ∧ nb = 0
        · obtain ⟨rfl, rfl⟩ := hz
          rw [scan_z hroom] at h
          have := ih _ _ _ _ _ _ _ _ _ (by omega) h
          simp at this
          exact ⟨this.1, by omega, fun h => by omega⟩
        · by_cases hs : 33 ≤ b ∧ b ≤ 117
          · by_cases h4 : nb = 4
            · subst h4
              rw [scan_last hroom hs.1 hs.2] at h
              have := ih _ _ _ _ _ _ _ _ _ (by omega) h
              simp [bytes4] at this
              exact ⟨this.1, by omega, fun h => by omega⟩
            · rw [scan_sign hroom hs.1 hs.2 h4] at h
              have := ih _ _ _ _ _ _ _ _ _ (by omega) h
              refine ⟨this.1, this.2.1, fun h => ?_⟩
              rw [this.2.2 h, List.length_cons]
              omega
          · rw [scan_bad hroom hb hz hs] at h; cases h

theorem tail_pos (v : Int) (nb : Nat) (h : 2 ≤ nb) : tail v nb ≠ [] := by
  intro hc
  have := congrArg List.length hc
  simp [tail, bytes4] at this
  omega

/-- One call: no error. -/
theorem decode_step {room : Nat} {bf out rest : List Int} {nsrc : Nat} {eof : Bool} (h : decode room bf eof = (out, nsrc, none)) (he : eof = true → rest = []) :
    nsrc ≤ bf.length ∧ run (bf ++ rest) = (run (bf.drop nsrc ++ rest)).map (out ++ ·) := by
  unfold decode at h
  unfold run
  have cut : ∀ o s v nb, (scan room 0 [] 0 0 0 bf = .done o s v nb ∨ scan room 0 [] 0 0 0 bf = .full o s) → s ≤ bf.length ∧ mach 0 0 (bf ++ rest) = (mach 0 0 (bf.drop s ++ rest)).map (o ++ ·) := by
    intro o s v nb hs
    obtain ⟨e, h1, h2, h3, h4⟩ := cut_of_scan bf 0 [] 0 0 0 [] o s v nb hs rfl (Nat.le_refl _) (fun r => by simp)
    simp only [List.nil_append, Nat.zero_add] at h1 h3 h4
    subst h1
    exact ⟨h3, h4 rest⟩
  cases hs : scan room 0 [] 0 0 0 bf with
  | full o s =>
    rw [hs] at h
    simp only [fin, Prod.mk.injEq] at h
    obtain ⟨rfl, rfl, _⟩ := h
    exact cut o s 0 0 (.inr hs)
  | bad i => rw [hs] at h; simp [fin] at h
  | done o s v nb =>
    rw [hs] at h
    cases eof with
    | false =>
      simp only [fin] at h
      simp only [Bool.false_eq_true, if_false, Prod.mk.injEq] at h
      obtain ⟨rfl, rfl, _⟩ := h
      exact cut o s v nb (.inl hs)
    | true =>
      obtain rfl := he rfl
      obtain ⟨e, h1, h2⟩ := mach_of_scan bf 0 [] 0 0 0 o s v nb hs
      simp only [List.nil_append] at h1
      subst h1
      have h3 := h2 []
      simp only [fin, if_true] at h
      by_cases h0 : nb = 0
      · subst h0
        simp only [if_true, Prod.mk.injEq] at h
        obtain ⟨rfl, rfl, _⟩ := h
        rw [h3]
        simp [mach]
      · rw [if_neg h0] at h
        by_cases hn1 : nb = 1
        · rw [if_pos hn1] at h; simp at h
        · rw [if_neg hn1] at h
          simp only [Prod.mk.injEq] at h
          obtain ⟨rfl, rfl, _⟩ := h
          rw [h3]
          simp [mach, h0, hn1]

/-- One call: an error. -/
theorem decode_bad {room : Nat} {bf out rest : List Int} {nsrc i : Nat} {eof : Bool} (h : decode room bf eof = (out, nsrc, some i)) (he : eof = true → rest = []) : run (bf ++ rest) = none ∧ out = [] := by
  unfold decode at h
  unfold run
  cases hs : scan room 0 [] 0 0 0 bf with
  | full o s => rw [hs] at h; simp [fin] at h
  | bad j =>
    rw [hs] at h
    simp only [fin, Prod.mk.injEq] at h
    exact ⟨scan_done_none bf 0 [] 0 0 0 j rest hs, h.1.symm⟩
  | done o s v nb =>
    rw [hs] at h
    cases eof with
    | false => simp [fin] at h
    | true =>
      obtain rfl := he rfl
      obtain ⟨e, h1, h2⟩ := mach_of_scan bf 0 [] 0 0 0 o s v nb hs
      simp only [fin, if_true] at h
      by_cases h0 : nb = 0
      · rw [if_pos h0] at h; simp at h
      · rw [if_neg h0] at h
        by_cases hn1 : nb = 1
        · rw [if_pos hn1] at h
          simp only [Prod.mk.injEq] at h
          rw [h2 []]
          subst hn1
          exact ⟨by simp [mach], h.1.symm⟩
        · rw [if_neg hn1] at h; simp at h

/-- One call: nothing is decoded, and no error. -/
theorem decode_dry {room : Nat} {bf : List Int} {nsrc : Nat} {eof : Bool} (hroom : 4 ≤ room) (h : decode room bf eof = ([], nsrc, none)) : (sift bf).length ≤ 4 ∧ (eof = true → sift bf = []) := by
  unfold decode at h
  cases hs : scan room 0 [] 0 0 0 bf with
  | full o s =>
    rw [hs] at h
    simp only [fin, Prod.mk.injEq] at h
    have := (scan_full_room bf 0 [] 0 0 0 o s hs).1
    rw [h.1] at this
    simp at this
    omega
  | bad i => rw [hs] at h; simp [fin] at h
  | done o s v nb =>
    rw [hs] at h
    have hf := scan_few bf 0 [] 0 0 0 o s v nb (by omega) hs
    cases eof with
    | false =>
      simp only [fin, Bool.false_eq_true, if_false, Prod.mk.injEq] at h
      have := hf.2.2 (by rw [h.1])
      exact ⟨by omega, fun h => by cases h⟩
    | true =>
      simp only [fin, if_true] at h
      by_cases h0 : nb = 0
      · rw [if_pos h0] at h
        simp only [Prod.mk.injEq] at h
        have := hf.2.2 (by rw [h.1])
        exact ⟨by omega, fun _ => List.eq_nil_of_length_eq_zero (by omega)⟩
      · rw [if_neg h0] at h
        by_cases hn1 : nb = 1
        · rw [if_pos hn1] at h; simp at h
        · rw [if_neg hn1] at h
          simp only [Prod.mk.injEq, List.append_eq_nil_iff] at h
          exact absurd h.1.2 (tail_pos v nb (by omega))

theorem run_len {l data : List Int} (h : run l = some data) : data.length ≤ 4 * l.length + 4 := by
  have := decode_len (4 * l.length + 4) l true
  rw [decode_run (Nat.le_refl _) h] at this
  exact this
end Go.Proofs.YtfonpcfcelahdaaDoor
