/-
  Plain Lean on what Decode answers: bytes, no more than there is room for, and all of what is decoded where there is room.
-/
import Derived.Test.YtfonpcfcelahdaaDoorPlain2
import Derived.Test.YtfonpcfcelahdaaDoorMem
namespace Go.Proofs.YtfonpcfcelahdaaDoor

theorem bytes4_bytes {v : Int} (_h : 0 ≤ v) : AllBytes (bytes4 v) := fun x hx => by
  simp only [bytes4, List.mem_cons, List.not_mem_nil, or_false] at hx
  rcases hx with rfl | rfl | rfl | rfl <;> omega
theorem pad_range (k : Nat) : ∀ v, 0 ≤ v → 0 ≤ pad k v := by
  induction k with
  | zero => intro v h; exact h
  | succ k ih => intro v h; exact ih _ (by omega)
theorem scan_bytes {room : Nat} (l : List Int) : ∀ (i : Nat) (out : List Int) (nsrc : Nat) (v : Int) (nb : Nat), AllBytes out → 0 ≤ v →
    match scan room i out nsrc v nb l with
    | .full o _ => AllBytes o
    | .bad _ => True
    | .done o _ v' _ => AllBytes o ∧ 0 ≤ v' := by
  induction l with
  | nil => intro i out nsrc v nb h hv; exact ⟨h, hv⟩
  | cons b r ih =>
    intro i out nsrc v nb h hv
    by_cases hroom : room < out.length + 4
    · rw [scan_full hroom]; exact h
    · by_cases hb : b ≤ 32
      · rw [scan_blank hroom hb]; exact ih _ _ _ _ _ h hv
      · by_cases hz : b = 122 ∧ nb = 0
        · obtain ⟨rfl, rfl⟩ := hz
          rw [scan_z hroom]
          exact ih _ _ _ _ _ (h.append (fun x hx => by simp at hx; omega)) (by omega)
        · by_cases hs : 33 ≤ b ∧ b ≤ 117
          · have hm := more_range v b
            by_cases h4 : nb = 4
            · subst h4
              rw [scan_last hroom hs.1 hs.2]
              exact ih _ _ _ _ _ (h.append (bytes4_bytes hm.1)) (by omega)
            · rw [scan_sign hroom hs.1 hs.2 h4]
              exact ih _ _ _ _ _ h hm.1
          · rw [scan_bad hroom hb hz hs]
            trivial
theorem decode_bytes (room : Nat) (l : List Int) (flush : Bool) : AllBytes (decode room l flush).1 := by
  have h := scan_bytes (room := room) l 0 [] 0 0 0 (fun _ hx => by cases hx) (by omega)
  unfold decode fin
  split <;> rename_i hs <;> rw [hs] at h
  · exact h
  · intro x hx; cases hx
  · split
    · split
      · exact h.1
      · split
        · intro x hx; cases hx
        · refine h.1.append (AllBytes.take (bytes4_bytes (pad_range _ _ h.2)) _)
    · exact h.1
theorem scan_room {room : Nat} (l : List Int) : ∀ (i : Nat) (out : List Int) (nsrc : Nat) (v : Int) (nb : Nat), out.length ≤ room → (nb ≠ 0 → out.length + 4 ≤ room) →
    match scan room i out nsrc v nb l with
    | .full o _ => o.length ≤ room
    | .bad _ => True
    | .done o _ _ nb' => o.length ≤ room ∧ (nb' ≠ 0 → o.length + 4 ≤ room) := by
  induction l with
  | nil => intro i out nsrc v nb h h4; exact ⟨h, h4⟩
  | cons b r ih =>
    intro i out nsrc v nb h hn
    by_cases hroom : room < out.length + 4
    · rw [scan_full hroom]; exact h
    · by_cases hb : b ≤ 32
      · rw [scan_blank hroom hb]; exact ih _ _ _ _ _ h hn
      · by_cases hz : b = 122 ∧ nb = 0
        · obtain ⟨rfl, rfl⟩ := hz
          rw [scan_z hroom]
          exact ih _ _ _ _ _ (by simp; omega) (fun h => absurd rfl h)
        · by_cases hs : 33 ≤ b ∧ b ≤ 117
          · by_cases h4 : nb = 4
            · subst h4
              rw [scan_last hroom hs.1 hs.2]
              exact ih _ _ _ _ _ (by simp [bytes4_length]; omega) (fun h => absurd rfl h)
            · rw [scan_sign hroom hs.1 hs.2 h4]
              exact ih _ _ _ _ _ h (fun _ => by omega)
          · rw [scan_bad hroom hb hz hs]
            trivial
theorem tail_length (v : Int) (nb : Nat) : (tail v nb).length ≤ 4 := by
  unfold tail
  rw [List.length_take, bytes4_length]
  omega
theorem decode_len (room : Nat) (l : List Int) (flush : Bool) : (decode room l flush).1.length ≤ room := by
  have h := scan_room (room := room) l 0 [] 0 0 0 (by simp) (fun h => absurd rfl h)
  unfold decode fin
  split <;> rename_i hs <;> rw [hs] at h
  · exact h
  · simp
  · split
    · split
      · exact h.1
      · split
        · simp
        · rename_i h0 _
          have := h.2 h0
          rename_i o _ v nb _ _
          have ht := tail_length v nb
          rw [List.length_append]
          omega
    · exact h.1

/-- Where there is room for all, no walk ends for want of it. -/
theorem scan_never {room : Nat} (l : List Int) : ∀ (i : Nat) (out : List Int) (nsrc : Nat) (v : Int) (nb : Nat), out.length + 4 * l.length + 4 ≤ room → ∀ o s, scan room i out nsrc v nb l ≠ .full o s := by
  induction l with
  | nil => intro i out nsrc v nb h o s; simp [scan]
  | cons b r ih =>
    intro i out nsrc v nb h o s
    rw [List.length_cons] at h
    have hroom : ¬ room < out.length + 4 := by omega
    by_cases hb : b ≤ 32
    · rw [scan_blank hroom hb]; exact ih _ _ _ _ _ (by omega) o s
    · by_cases hz : b = 122 ∧ nb = 0
      · obtain ⟨rfl, rfl⟩ := hz
        rw [scan_z hroom]
        exact ih _ _ _ _ _ (by simp; omega) o s
      · by_cases hs : 33 ≤ b ∧ b ≤ 117
        · by_cases h4 : nb = 4
          · subst h4
            rw [scan_last hroom hs.1 hs.2]
            exact ih _ _ _ _ _ (by simp [bytes4_length]; omega) o s
          · rw [scan_sign hroom hs.1 hs.2 h4]
            exact ih _ _ _ _ _ (by omega) o s
        · rw [scan_bad hroom hb hz hs]
          simp

/-- What is decoded of all, Decode answers with flush where there is room. -/
theorem decode_run {room : Nat} {l out : List Int} (hr : 4 * l.length + 4 ≤ room) (h : run l = some out) : decode room l true = (out, l.length, none) := by
  unfold decode
  cases hs : scan room 0 [] 0 0 0 l with
  | full o s => exact absurd hs (scan_never l 0 [] 0 0 0 (by simpa using hr) o s)
  | bad i =>
    have := scan_done_none l 0 [] 0 0 0 i [] hs
    rw [List.append_nil] at this
    unfold run at h
    rw [this] at h
    cases h
  | done o s v nb =>
    obtain ⟨e, he, hm⟩ := mach_of_scan l 0 [] 0 0 0 o s v nb hs
    have h2 := hm []
    rw [List.append_nil] at h2
    unfold run at h
    rw [h2] at h
    simp only [List.nil_append] at he
    subst he
    simp only [mach] at h
    simp only [fin, if_true]
    by_cases h0 : nb = 0
    · rw [if_pos h0] at h ⊢
      simp at h
      rw [h]
    · rw [if_neg h0] at h ⊢
      by_cases h1 : nb = 1
      · rw [if_pos h1] at h
        cases h
      · rw [if_neg h1] at h ⊢
        simp at h
        rw [h]
end Go.Proofs.YtfonpcfcelahdaaDoor
