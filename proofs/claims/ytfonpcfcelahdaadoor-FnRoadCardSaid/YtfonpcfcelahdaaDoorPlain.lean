/-
  Plain Lean about the 85 signs: what is encoded, what is decoded, and that what is decoded of what is encoded is what was encoded. No program in sight.
-/
namespace Go.Proofs.YtfonpcfcelahdaaDoor

/-- A byte. -/
def IsByte (x : Int) : Prop := 0 ≤ x ∧ x < 256
def AllBytes (l : List Int) : Prop := ∀ x ∈ l, 0 ≤ x ∧ x < 256

/-- Four bytes as one number, the first one the highest. -/
def word (a b c d : Int) : Int := a * 16777216 + b * 65536 + c * 256 + d

/-- The five figures of a number. -/
def figs (n : Int) : List Int := [33 + n / 52200625 % 85, 33 + n / 614125 % 85, 33 + n / 7225 % 85, 33 + n / 85 % 85, 33 + n % 85]

/-- The signs of four bytes. -/
def enc4 (a b c d : Int) : List Int := if a = 0 ∧ b = 0 ∧ c = 0 ∧ d = 0 then [122] else figs (word a b c d)

/-- The signs of bytes. -/
def enc : List Int → List Int
  | a :: b :: c :: d :: r => enc4 a b c d ++ enc r
  | [a, b, c] => (figs (word a b c 0)).take 4
  | [a, b] => (figs (word a b 0 0)).take 3
  | [a] => (figs (word a 0 0 0)).take 2
  | [] => []

/-- The four bytes of a number. -/
def bytes4 (v : Int) : List Int := [v / 16777216 % 256, v / 65536 % 256, v / 256 % 256, v % 256]

/-- One sign more. -/
def more (v b : Int) : Int := (v * 85 + (b - 33)) % 4294967296

/-- The highest figure k times more. -/
def pad : Nat → Int → Int
  | 0, v => v
  | k + 1, v => pad k ((v * 85 + 84) % 4294967296)

/-- The bytes of the last signs. -/
def tail (v : Int) (nb : Nat) : List Int := (bytes4 (pad (5 - nb) v)).take (nb - 1)

/-- All that is decoded of signs, or none where one is refused. -/
def mach (v : Int) (nb : Nat) : List Int → Option (List Int)
  | [] => if nb = 0 then some [] else if nb = 1 then none else some (tail v nb)
  | b :: r =>
    if b ≤ 32 then mach v nb r
    else if b = 122 ∧ nb = 0 then (mach 0 0 r).map ([0, 0, 0, 0] ++ ·)
    else if 33 ≤ b ∧ b ≤ 117 then
      if nb = 4 then (mach 0 0 r).map (bytes4 (more v b) ++ ·)
      else mach (more v b) (nb + 1) r
    else none

def run (l : List Int) : Option (List Int) := mach 0 0 l

/-- How a walk over signs ends: no room; a sign that is refused, at its place; all were taken. -/
inductive Res where
  | full (out : List Int) (nsrc : Nat)
  | bad (i : Nat)
  | done (out : List Int) (nsrc : Nat) (v : Int) (nb : Nat)

def scan (room : Nat) (i : Nat) (out : List Int) (nsrc : Nat) (v : Int) (nb : Nat) : List Int → Res
  | [] => .done out nsrc v nb
  | b :: r =>
    if room < out.length + 4 then .full out nsrc
    else if b ≤ 32 then scan room (i + 1) out nsrc v nb r
    else if b = 122 ∧ nb = 0 then scan room (i + 1) (out ++ [0, 0, 0, 0]) (i + 1) 0 0 r
    else if 33 ≤ b ∧ b ≤ 117 then
      if nb = 4 then scan room (i + 1) (out ++ bytes4 (more v b)) (i + 1) 0 0 r
      else scan room (i + 1) out nsrc (more v b) (nb + 1) r
    else .bad i

/-- What Decode answers: the bytes, how many signs it took, and the place of its error. -/
def dec (room : Nat) (l : List Int) (flush : Bool) : List Int × Nat × Option Nat :=
  match scan room 0 [] 0 0 0 l with
  | .full out nsrc => (out, nsrc, none)
  | .bad i => ([], 0, some i)
  | .done out nsrc v nb =>
    if flush then
      if nb = 0 then (out, l.length, none)
      else if nb = 1 then ([], 0, some l.length)
      else (out ++ tail v nb, l.length, none)
    else (out, nsrc, none)

theorem enc4_length (a b c d : Int) : (enc4 a b c d).length = 1 ∨ (enc4 a b c d).length = 5 := by
  unfold enc4; split <;> simp [figs]

theorem enc_le (l : List Int) : (enc l).length ≤ (l.length + 3) / 4 * 5 := by
  match l with
  | a :: b :: c :: d :: r =>
    have := enc_le r
    have h := enc4_length a b c d
    simp only [enc, List.length_append, List.length_cons]
    omega
  | [a, b, c] => simp [enc, figs]
  | [a, b] => simp [enc, figs]
  | [a] => simp [enc, figs]
  | [] => simp [enc]

/-! ### The filter of what is no sign -/
theorem mach_filter (l : List Int) : ∀ v nb, mach v nb (l.filter (fun b => decide (32 < b))) = mach v nb l := by
  induction l with
  | nil => intro v nb; rfl
  | cons b r ih =>
    intro v nb
    by_cases hb : b ≤ 32
    · have : decide (32 < b) = false := by simp; omega
      rw [List.filter_cons, this]
      simp only [mach, if_pos hb]
      simpa using ih v nb
    · have : decide (32 < b) = true := by simp; omega
      rw [List.filter_cons, this]
      simp only [mach, if_neg hb, ih, if_true]

/-! ### What is encoded is decoded -/
theorem figs_range {n : Int} : ∀ x ∈ figs n, 33 ≤ x ∧ x ≤ 117 := by
  intro x hx
  simp only [figs, List.mem_cons, List.not_mem_nil, or_false] at hx
  rcases hx with rfl | rfl | rfl | rfl | rfl <;> omega

theorem mach_sign {v b : Int} {nb : Nat} (r : List Int) (h0 : 33 ≤ b) (h1 : b ≤ 117) (h2 : nb < 4) : mach v nb (b :: r) = mach (more v b) (nb + 1) r := by
  simp only [mach]
  rw [if_neg (by omega), if_neg (by omega), if_pos ⟨h0, h1⟩, if_neg (by omega)]

theorem mach_last {v b : Int} (r : List Int) (h0 : 33 ≤ b) (h1 : b ≤ 117) : mach v 4 (b :: r) = (mach 0 0 r).map (bytes4 (more v b) ++ ·) := by
  simp only [mach]
  rw [if_neg (by omega), if_neg (by omega), if_pos ⟨h0, h1⟩]
  simp

theorem more1 {n : Int} (h0 : 0 ≤ n) (h1 : n < 4294967296) : more 0 (33 + n / 52200625 % 85) = n / 52200625 := by unfold more; omega
theorem more2 {n : Int} (h0 : 0 ≤ n) (h1 : n < 4294967296) : more (n / 52200625) (33 + n / 614125 % 85) = n / 614125 := by unfold more; omega
theorem more3 {n : Int} (h0 : 0 ≤ n) (h1 : n < 4294967296) : more (n / 614125) (33 + n / 7225 % 85) = n / 7225 := by unfold more; omega
theorem more4 {n : Int} (h0 : 0 ≤ n) (h1 : n < 4294967296) : more (n / 7225) (33 + n / 85 % 85) = n / 85 := by unfold more; omega
theorem more5 {n : Int} (h0 : 0 ≤ n) (h1 : n < 4294967296) : more (n / 85) (33 + n % 85) = n := by unfold more; omega

/-! ### The last signs -/
theorem top1 {a p : Int} (ha : 0 ≤ a ∧ a < 256) (h0 : a * 16777216 ≤ p) (h1 : p < a * 16777216 + 16777216) : p / 16777216 % 256 = a := by omega
theorem top2 {a b p : Int} (hb : 0 ≤ b ∧ b < 256) (h0 : a * 16777216 + b * 65536 ≤ p) (h1 : p < a * 16777216 + b * 65536 + 65536) : p / 65536 % 256 = b := by omega
theorem top3 {a b c p : Int} (hc : 0 ≤ c ∧ c < 256) (h0 : a * 16777216 + b * 65536 + c * 256 ≤ p) (h1 : p < a * 16777216 + b * 65536 + c * 256 + 256) : p / 256 % 256 = c := by omega
theorem tail4 {a b c n : Int} (ha : 0 ≤ a ∧ a < 256) (hb : 0 ≤ b ∧ b < 256) (hc : 0 ≤ c ∧ c < 256) (hn : a * 16777216 + b * 65536 + c * 256 = n) : tail (n / 85) 4 = [a, b, c] := by
  have e5 : (n / 85 * 85 + 84) % 4294967296 = n / 85 * 85 + 84 := by omega
  simp only [tail, pad, bytes4, e5]
  rw [top1 ha (by omega) (by omega), top2 (a := a) hb (by omega) (by omega), top3 (a := a) (b := b) hc (by omega) (by omega)]
  rfl
theorem tail3 {a b n : Int} (ha : 0 ≤ a ∧ a < 256) (hb : 0 ≤ b ∧ b < 256) (hn : a * 16777216 + b * 65536 = n) : tail (n / 7225) 3 = [a, b] := by
  have e4 : (n / 7225 * 85 + 84) % 4294967296 = n / 7225 * 85 + 84 := by omega
  have e5 : ((n / 7225 * 85 + 84) * 85 + 84) % 4294967296 = n / 7225 * 7225 + 7224 := by omega
  simp only [tail, pad, bytes4, e4, e5]
  rw [top1 ha (by omega) (by omega), top2 (a := a) hb (by omega) (by omega)]
  rfl
theorem tail2 {a n : Int} (ha : 0 ≤ a ∧ a < 256) (hn : a * 16777216 = n) : tail (n / 614125) 2 = [a] := by
  have e3 : (n / 614125 * 85 + 84) % 4294967296 = n / 614125 * 85 + 84 := by omega
  have e4 : ((n / 614125 * 85 + 84) * 85 + 84) % 4294967296 = n / 614125 * 7225 + 7224 := by omega
  have e5 : ((n / 614125 * 7225 + 7224) * 85 + 84) % 4294967296 = n / 614125 * 614125 + 614124 := by omega
  simp only [tail, pad, bytes4, e3, e4, e5]
  rw [top1 ha (by omega) (by omega)]
  rfl

theorem mach_figs (n : Int) (h0 : 0 ≤ n) (h1 : n < 4294967296) (r : List Int) : mach 0 0 (figs n ++ r) = (mach 0 0 r).map (bytes4 n ++ ·) := by
  have e : figs n ++ r = (33 + n / 52200625 % 85) :: (33 + n / 614125 % 85) :: (33 + n / 7225 % 85) :: (33 + n / 85 % 85) :: (33 + n % 85) :: r := rfl
  rw [e, mach_sign _ (by omega) (by omega) (by omega), mach_sign _ (by omega) (by omega) (by omega), mach_sign _ (by omega) (by omega) (by omega), mach_sign _ (by omega) (by omega) (by omega), mach_last _ (by omega) (by omega)]
  rw [more1 h0 h1, more2 h0 h1, more3 h0 h1, more4 h0 h1, more5 h0 h1]

theorem bytes4_word {a b c d : Int} (ha : 0 ≤ a ∧ a < 256) (hb : 0 ≤ b ∧ b < 256) (hc : 0 ≤ c ∧ c < 256) (hd : 0 ≤ d ∧ d < 256) : bytes4 (word a b c d) = [a, b, c, d] := by
  unfold bytes4 word
  congr 1
  · omega
  congr 1
  · omega
  congr 1
  · omega
  congr 1
  omega

theorem word_lt {a b c d : Int} (ha : 0 ≤ a ∧ a < 256) (hb : 0 ≤ b ∧ b < 256) (hc : 0 ≤ c ∧ c < 256) (hd : 0 ≤ d ∧ d < 256) : 0 ≤ word a b c d ∧ word a b c d < 4294967296 := by
  unfold word; omega

theorem mach_enc4 {a b c d : Int} (ha : 0 ≤ a ∧ a < 256) (hb : 0 ≤ b ∧ b < 256) (hc : 0 ≤ c ∧ c < 256) (hd : 0 ≤ d ∧ d < 256) (r : List Int) : mach 0 0 (enc4 a b c d ++ r) = (mach 0 0 r).map ([a, b, c, d] ++ ·) := by
  unfold enc4
  split
  · rename_i h
    obtain ⟨rfl, rfl, rfl, rfl⟩ := h
    simp [mach]
  · have hw := word_lt ha hb hc hd
    rw [mach_figs _ hw.1 hw.2, bytes4_word ha hb hc hd]

theorem run_enc (l : List Int) (h : AllBytes l) : run (enc l) = some l := by
  unfold run
  match l with
  | a :: b :: c :: d :: r =>
    have hr : AllBytes r := fun x hx => h x (by simp [hx])
    have ih := run_enc r hr
    unfold run at ih
    simp only [enc]
    rw [mach_enc4 (h a (by simp)) (h b (by simp)) (h c (by simp)) (h d (by simp)), ih]
    rfl
  | [a, b, c] =>
    have ha := h a (by simp)
    have hb := h b (by simp)
    have hc := h c (by simp)
    obtain ⟨h0, h1⟩ := word_lt ha hb hc (d := 0) (by omega)
    have ht := tail4 (n := word a b c 0) ha hb hc (by unfold word; omega)
    simp only [enc, figs, List.take]
    generalize word a b c 0 = n at h0 h1 ht ⊢
    rw [mach_sign _ (by omega) (by omega) (by omega), mach_sign _ (by omega) (by omega) (by omega), mach_sign _ (by omega) (by omega) (by omega), mach_sign _ (by omega) (by omega) (by omega), more1 h0 h1, more2 h0 h1, more3 h0 h1, more4 h0 h1]
    simp only [mach]
    exact congrArg some ht
  | [a, b] =>
    have ha := h a (by simp)
    have hb := h b (by simp)
    obtain ⟨h0, h1⟩ := word_lt ha hb (c := 0) (d := 0) (by omega) (by omega)
    have ht := tail3 (n := word a b 0 0) ha hb (by unfold word; omega)
    simp only [enc, figs, List.take]
    generalize word a b 0 0 = n at h0 h1 ht ⊢
    rw [mach_sign _ (by omega) (by omega) (by omega), mach_sign _ (by omega) (by omega) (by omega), mach_sign _ (by omega) (by omega) (by omega), more1 h0 h1, more2 h0 h1, more3 h0 h1]
    simp only [mach]
    exact congrArg some ht
  | [a] =>
    have ha := h a (by simp)
    obtain ⟨h0, h1⟩ := word_lt ha (b := 0) (c := 0) (d := 0) (by omega) (by omega) (by omega)
    have ht := tail2 (n := word a 0 0 0) ha (by unfold word; omega)
    simp only [enc, figs, List.take]
    generalize word a 0 0 0 = n at h0 h1 ht ⊢
    rw [mach_sign _ (by omega) (by omega) (by omega), mach_sign _ (by omega) (by omega) (by omega), more1 h0 h1, more2 h0 h1]
    simp only [mach]
    exact congrArg some ht
  | [] => rfl

/-- Every sign is one. -/
theorem enc_signs (l : List Int) (h : AllBytes l) : ∀ x ∈ enc l, (33 ≤ x ∧ x ≤ 117) ∨ x = 122 := by
  match l with
  | a :: b :: c :: d :: r =>
    have hr : AllBytes r := fun x hx => h x (by simp [hx])
    have ih := enc_signs r hr
    intro x hx
    simp only [enc, List.mem_append] at hx
    rcases hx with hx | hx
    · have hw := word_lt (h a (by simp)) (h b (by simp)) (h c (by simp)) (h d (by simp))
      unfold enc4 at hx
      split at hx
      · exact .inr (by simpa using hx)
      · exact .inl (figs_range x hx)
    · exact ih x hx
  | [a, b, c] => exact fun x hx => .inl (by
      have hw := word_lt (h a (by simp)) (h b (by simp)) (h c (by simp)) (d := 0) (by omega)
      exact figs_range x (List.mem_of_mem_take hx))
  | [a, b] => exact fun x hx => .inl (by
      have hw := word_lt (h a (by simp)) (h b (by simp)) (c := 0) (d := 0) (by omega) (by omega)
      exact figs_range x (List.mem_of_mem_take hx))
  | [a] => exact fun x hx => .inl (by
      have hw := word_lt (h a (by simp)) (b := 0) (c := 0) (d := 0) (by omega) (by omega) (by omega)
      exact figs_range x (List.mem_of_mem_take hx))
  | [] => intro x hx; simp [enc] at hx

/-- Blanks ahead of signs. -/
theorem run_blanks (s l : List Int) (h : l.filter (fun b => decide (32 < b)) = s) : run l = run s := by
  unfold run
  rw [← mach_filter l, h]

/-! ### The scan and the machine -/
theorem scan_done_none {room : Nat} (l : List Int) : ∀ (i : Nat) (out : List Int) (nsrc : Nat) (v : Int) (nb : Nat) (j : Nat) (rest : List Int), scan room i out nsrc v nb l = .bad j → mach v nb (l ++ rest) = none := by
  induction l with
  | nil => intro i out nsrc v nb j rest h; simp [scan] at h
  | cons b r ih =>
    intro i out nsrc v nb j rest h
    simp only [scan] at h
    split at h
    · cases h
    simp only [List.cons_append, mach]
    split at h
    · rename_i hb; rw [if_pos hb]; exact ih _ _ _ _ _ _ _ h
    · rename_i hb; rw [if_neg hb]
      split at h
      · rename_i hz; rw [if_pos hz, ih _ _ _ _ _ _ rest h]; rfl
      · rename_i hz; rw [if_neg hz]
        split at h
        · rw [if_pos (by assumption)]
          split at h
          · rename_i h4; rw [if_pos h4, ih _ _ _ _ _ _ rest h]; rfl
          · rename_i h4; rw [if_neg h4]; exact ih _ _ _ _ _ _ _ h
        · rw [if_neg (by assumption)]

end Go.Proofs.YtfonpcfcelahdaaDoor
