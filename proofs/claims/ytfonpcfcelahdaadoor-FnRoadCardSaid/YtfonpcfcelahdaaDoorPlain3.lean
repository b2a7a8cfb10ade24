/-
  Plain Lean, the third part: signs that are decoded in two parts; a sign that is none.
-/
import Derived.Test.YtfonpcfcelahdaaDoorDecFacts
namespace Go.Proofs.YtfonpcfcelahdaaDoor

/-- How many of the first signs are whole groups. -/
def groups (i done many : Nat) : List Int → Nat
  | [] => done
  | b :: r =>
    if b ≤ 32 then groups (i + 1) done many r
    else if b = 122 then groups (i + 1) (i + 1) 0 r
    else if many = 4 then groups (i + 1) (i + 1) 0 r
    else groups (i + 1) done (many + 1) r

theorem groups_of_scan {room : Nat} (l : List Int) : ∀ (i : Nat) (out : List Int) (nsrc : Nat) (v : Int) (nb : Nat) (out' : List Int) (nsrc' : Nat) (v' : Int) (nb' : Nat),
    scan room i out nsrc v nb l = .done out' nsrc' v' nb' → groups i nsrc nb l = nsrc' := by
  induction l with
  | nil =>
    intro i out nsrc v nb out' nsrc' v' nb' h
    simp only [scan, Res.done.injEq] at h
    exact h.2.1
  | cons b r ih =>
    intro i out nsrc v nb out' nsrc' v' nb' h
    by_cases hroom : room < out.length + 4
    · rw [scan_full hroom] at h; cases h
    · by_cases hb : b ≤ 32
      · rw [scan_blank hroom hb] at h
        simp only [groups, if_pos hb]
        exact ih _ _ _ _ _ _ _ _ _ h
      · by_cases hz : b = 122 ∧ nb = 0
        · obtain ⟨rfl, rfl⟩ := hz
          rw [scan_z hroom] at h
          simp only [groups, if_neg hb, if_true]
          exact ih _ _ _ _ _ _ _ _ _ h
        · by_cases hs : 33 ≤ b ∧ b ≤ 117
          · have h122 : ¬ b = 122 := by omega
            by_cases h4 : nb = 4
            · subst h4
              rw [scan_last hroom hs.1 hs.2] at h
              simp only [groups, if_neg hb, if_neg h122, if_true]
              exact ih _ _ _ _ _ _ _ _ _ h
            · rw [scan_sign hroom hs.1 hs.2 h4] at h
              simp only [groups, if_neg hb, if_neg h122, if_neg h4]
              exact ih _ _ _ _ _ _ _ _ _ h
          · rw [scan_bad hroom hb hz hs] at h; cases h

/-- The first part without flush, the rest with it. -/
theorem parts {l data : List Int} (h : run l = some data) (k : Nat) (hk : k ≤ l.length) :
    ∃ a b took, decode (4 * k + 8) (l.take k) false = (a, took, none) ∧ took = groups 0 0 0 (l.take k) ∧ took ≤ k ∧ run (l.drop took) = some b ∧ a ++ b = data := by
  have hl : (l.take k).length = k := by rw [List.length_take]; omega
  have e : l = l.take k ++ l.drop k := (List.take_append_drop k l).symm
  unfold decode
  cases hs : scan (4 * k + 8) 0 [] 0 0 0 (l.take k) with
  | full o s => exact absurd hs (scan_never (l.take k) 0 [] 0 0 0 (by rw [hl]; simp) o s)
  | bad i =>
    have := scan_done_none (l.take k) 0 [] 0 0 0 i (l.drop k) hs
    rw [← e] at this
    unfold run at h
    rw [this] at h
    cases h
  | done o s v nb =>
    have hg := groups_of_scan (l.take k) 0 [] 0 0 0 o s v nb hs
    obtain ⟨ee, he, h1, h2, h3⟩ := cut_of_scan (l.take k) 0 [] 0 0 0 [] o s v nb (.inl hs) rfl (Nat.le_refl _) (fun rest => by simp)
    simp only [List.nil_append] at he h3
    subst he
    have h4 := h3 (l.drop k)
    rw [← e] at h4
    have hsk : s ≤ k := by omega
    have e2 : (l.take k).drop s ++ l.drop k = l.drop s := by
      rw [← List.drop_append_of_le_length (by omega), ← e]
    rw [e2] at h4
    unfold run at h ⊢
    rw [h4] at h
    cases hb : mach 0 0 (l.drop s) with
    | none => rw [hb] at h; cases h
    | some b =>
      rw [hb] at h
      refine ⟨o, b, s, by simp [fin], hg.symm, hsk, hb, ?_⟩
      simpa using h

/-- A sign that is none. -/
theorem scan_app {room : Nat} (l : List Int) : ∀ (i : Nat) (out : List Int) (nsrc : Nat) (v : Int) (nb : Nat) (rest : List Int) (out' : List Int) (nsrc' : Nat) (v' : Int) (nb' : Nat),
    scan room i out nsrc v nb l = .done out' nsrc' v' nb' → scan room i out nsrc v nb (l ++ rest) = scan room (i + l.length) out' nsrc' v' nb' rest := by
  induction l with
  | nil =>
    intro i out nsrc v nb rest out' nsrc' v' nb' h
    simp only [scan, Res.done.injEq] at h
    obtain ⟨rfl, rfl, rfl, rfl⟩ := h
    simp
  | cons b r ih =>
    intro i out nsrc v nb rest out' nsrc' v' nb' h
    have hi : i + (b :: r).length = i + 1 + r.length := by simp; omega
    rw [hi, List.cons_append]
    by_cases hroom : room < out.length + 4
    · rw [scan_full hroom] at h; cases h
    · by_cases hb : b ≤ 32
      · rw [scan_blank hroom hb] at h ⊢
        exact ih _ _ _ _ _ _ _ _ _ _ h
      · by_cases hz : b = 122 ∧ nb = 0
        · obtain ⟨rfl, rfl⟩ := hz
          rw [scan_z hroom] at h ⊢
          exact ih _ _ _ _ _ _ _ _ _ _ h
        · by_cases hs : 33 ≤ b ∧ b ≤ 117
          · by_cases h4 : nb = 4
            · subst h4
              rw [scan_last hroom hs.1 hs.2] at h ⊢
              exact ih _ _ _ _ _ _ _ _ _ _ h
            · rw [scan_sign hroom hs.1 hs.2 h4] at h ⊢
              exact ih _ _ _ _ _ _ _ _ _ _ h
          · rw [scan_bad hroom hb hz hs] at h; cases h

theorem mach_wrong {x : Int} (hx : 117 < x) (hz : x ≠ 122) (r : List Int) : ∀ v nb, mach v nb (x :: r) = none := fun v nb => by
  simp only [mach]
  rw [if_neg (by omega), if_neg (by omega), if_neg (by omega)]
theorem run_wrong {p r : List Int} {x : Int} (hx : 117 < x) (hz : x ≠ 122) : run (p ++ x :: r) = none := by
  unfold run
  cases hs : scan (4 * p.length + 8) 0 [] 0 0 0 p with
  | full o s => exact absurd hs (scan_never p 0 [] 0 0 0 (by simp) o s)
  | bad i => exact scan_done_none p 0 [] 0 0 0 i _ hs
  | done o s v nb =>
    obtain ⟨e, _, hm⟩ := mach_of_scan p 0 [] 0 0 0 o s v nb hs
    rw [hm, mach_wrong hx hz]
    rfl
theorem decode_wrong {l data : List Int} {x : Int} (h : run l = some data) (hx : 117 < x) (hz : x ≠ 122) (k : Nat) (hk : k ≤ l.length) {room : Nat} (hroom : 4 * l.length + 12 ≤ room) (flush : Bool) :
    decode room (l.take k ++ x :: l.drop k) flush = ([], 0, some k) := by
  have hl : (l.take k).length = k := by rw [List.length_take]; omega
  have e : l = l.take k ++ l.drop k := (List.take_append_drop k l).symm
  unfold decode
  cases hs : scan room 0 [] 0 0 0 (l.take k) with
  | full o s => exact absurd hs (scan_never (l.take k) 0 [] 0 0 0 (by rw [hl]; simp; omega) o s)
  | bad i =>
    have := scan_done_none (l.take k) 0 [] 0 0 0 i (l.drop k) hs
    rw [← e] at this
    unfold run at h
    rw [this] at h
    cases h
  | done o s v nb =>
    rw [scan_app (l.take k) 0 [] 0 0 0 (x :: l.drop k) o s v nb hs]
    have hnf : ¬ room < o.length + 4 := by
      have := scan_room (room := 4 * k + 4) (l.take k) 0 [] 0 0 0 (by simp) (fun h => absurd rfl h)
      intro hc
      have hf := scan_full (k := 0 + (l.take k).length) (nsrc := s) (nb := nb) (r := []) (v := v) (x := x) hc
      have ha := scan_app (l.take k) 0 [] 0 0 0 [x] o s v nb hs
      rw [hf] at ha
      exact absurd ha (scan_never (l.take k ++ [x]) 0 [] 0 0 0 (by simp [hl]; omega) o s)
    rw [scan_bad hnf (by omega) (by omega) (by omega)]
    simp [fin, hl]
end Go.Proofs.YtfonpcfcelahdaaDoor
