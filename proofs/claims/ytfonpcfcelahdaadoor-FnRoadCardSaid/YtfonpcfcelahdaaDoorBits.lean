/-
  Small facts on 'or' of bytes that stand side by side in a word.
-/
import Derived.WalkKit
import Derived.Laws.BitsAllLaws
namespace Go.Proofs.YtfonpcfcelahdaaDoor
open Go.RowKit

theorem nat_or_add (x z k : Nat) (hz : z < 2 ^ k) : (x * 2 ^ k) ||| z = x * 2 ^ k + z := by
  have h := Nat.two_pow_add_eq_or_of_lt hz x
  rw [Nat.mul_comm (2 ^ k) x] at h
  exact h.symm

theorem or_u64_add (x z : Int) (k : Nat) (y : Int) (hx : x = y * (2 ^ k : Nat)) (hy : 0 ≤ y) (hz0 : 0 ≤ z) (hz : z < (2 ^ k : Nat)) (hb : x < 18446744073709551616) (hb2 : z < 18446744073709551616) : bits .or .u64 x z = x + z := by
  obtain ⟨Y, rfl⟩ := Int.eq_ofNat_of_zero_le hy
  obtain ⟨Z, rfl⟩ := Int.eq_ofNat_of_zero_le hz0
  have hx' : x = ((Y * 2 ^ k : Nat) : Int) := by rw [hx]; simp
  subst hx'
  rw [u64_or_nat _ _ (by omega) (by omega), nat_or_add Y Z k (by omega)]
  simp

theorem or_u32_add (x z : Int) (k : Nat) (y : Int) (hx : x = y * (2 ^ k : Nat)) (hy : 0 ≤ y) (hz0 : 0 ≤ z) (hz : z < (2 ^ k : Nat)) (hb : x < 4294967296) (hb2 : z < 4294967296) : bits .or .u32 x z = x + z := by
  obtain ⟨Y, rfl⟩ := Int.eq_ofNat_of_zero_le hy
  obtain ⟨Z, rfl⟩ := Int.eq_ofNat_of_zero_le hz0
  have hx' : x = ((Y * 2 ^ k : Nat) : Int) := by rw [hx]; simp
  subst hx'
  rw [u32_or_nat _ _ (by omega) (by omega), nat_or_add Y Z k (by omega)]
  simp

theorem or_u32_add' (z x : Int) (k : Nat) (y : Int) (hx : x = y * (2 ^ k : Nat)) (hy : 0 ≤ y) (hz0 : 0 ≤ z) (hz : z < (2 ^ k : Nat)) (hb : x < 4294967296) (hb2 : z < 4294967296) : bits .or .u32 z x = x + z := by
  obtain ⟨Y, rfl⟩ := Int.eq_ofNat_of_zero_le hy
  obtain ⟨Z, rfl⟩ := Int.eq_ofNat_of_zero_le hz0
  have hx' : x = ((Y * 2 ^ k : Nat) : Int) := by rw [hx]; simp
  subst hx'
  rw [u32_or_nat _ _ (by omega) (by omega), Nat.or_comm, nat_or_add Y Z k (by omega)]
  simp

theorem or_u8_zero {a b : Int} (ha : 0 ≤ a ∧ a < 256) (hb : 0 ≤ b ∧ b < 256) : 0 ≤ bits .or .u8 a b ∧ bits .or .u8 a b < 256 ∧ (bits .or .u8 a b = 0 ↔ a = 0 ∧ b = 0) := by
  obtain ⟨A, rfl⟩ := Int.eq_ofNat_of_zero_le ha.1
  obtain ⟨B, rfl⟩ := Int.eq_ofNat_of_zero_le hb.1
  rw [u8_or_nat A B (by omega) (by omega)]
  have h1 : A ||| B < 2 ^ 8 := Nat.or_lt_two_pow (by omega) (by omega)
  have h2 : A ||| B = 0 ↔ A = 0 ∧ B = 0 := Nat.or_eq_zero_iff
  refine ⟨by omega, by omega, ?_⟩
  constructor
  · intro h
    have := h2.1 (by omega)
    omega
  · intro h
    have := h2.2 ⟨by omega, by omega⟩
    omega

/-- The four or of a u64 word, one after the other. -/
theorem or64_1 {a b : Int} (ha : 0 ≤ a ∧ a < 256) (hb : 0 ≤ b ∧ b < 256) : bits .or .u64 (a * 16777216) (b * 65536) = a * 16777216 + b * 65536 :=
  or_u64_add _ _ 24 a (by omega) ha.1 (by omega) (by omega) (by omega) (by omega)
theorem or64_2 {a b c : Int} (ha : 0 ≤ a ∧ a < 256) (hb : 0 ≤ b ∧ b < 256) (hc : 0 ≤ c ∧ c < 256) : bits .or .u64 (a * 16777216 + b * 65536) (c * 256) = a * 16777216 + b * 65536 + c * 256 :=
  or_u64_add _ _ 16 (a * 256 + b) (by omega) (by omega) (by omega) (by omega) (by omega) (by omega)
theorem or64_3 {a b c d : Int} (ha : 0 ≤ a ∧ a < 256) (hb : 0 ≤ b ∧ b < 256) (hc : 0 ≤ c ∧ c < 256) (hd : 0 ≤ d ∧ d < 256) : bits .or .u64 (a * 16777216 + b * 65536 + c * 256) d = a * 16777216 + b * 65536 + c * 256 + d :=
  or_u64_add _ _ 8 (a * 65536 + b * 256 + c) (by omega) (by omega) (by omega) (by omega) (by omega) (by omega)
theorem or64 {a b c d : Int} (ha : 0 ≤ a ∧ a < 256) (hb : 0 ≤ b ∧ b < 256) (hc : 0 ≤ c ∧ c < 256) (hd : 0 ≤ d ∧ d < 256) :
    bits .or .u64 (bits .or .u64 (bits .or .u64 (a * 16777216) (b * 65536)) (c * 256)) d = a * 16777216 + b * 65536 + c * 256 + d := by
  rw [or64_1 ha hb, or64_2 ha hb hc, or64_3 ha hb hc hd]
theorem or32_z {d : Int} (h0 : 0 ≤ d) (h1 : d < 4294967296) : bits .or .u32 0 d = d := by
  obtain ⟨D, rfl⟩ := Int.eq_ofNat_of_zero_le h0
  have := u32_or_nat 0 D (by omega) (by omega)
  simpa using this
/-- The same of a u32 word, from the lowest byte on. -/
theorem or32_2 {c d : Int} (hc : 0 ≤ c ∧ c < 256) (hd : 0 ≤ d ∧ d < 256) : bits .or .u32 d (c * 256) = c * 256 + d :=
  or_u32_add' _ _ 8 c (by omega) (by omega) (by omega) (by omega) (by omega) (by omega)
theorem or32_1 {b c d : Int} (hb : 0 ≤ b ∧ b < 256) (hc : 0 ≤ c ∧ c < 256) (hd : 0 ≤ d ∧ d < 256) : bits .or .u32 (c * 256 + d) (b * 65536) = b * 65536 + (c * 256 + d) :=
  or_u32_add' _ _ 16 b (by omega) (by omega) (by omega) (by omega) (by omega) (by omega)
theorem or32_0 {a b c d : Int} (ha : 0 ≤ a ∧ a < 256) (hb : 0 ≤ b ∧ b < 256) (hc : 0 ≤ c ∧ c < 256) (hd : 0 ≤ d ∧ d < 256) : bits .or .u32 (b * 65536 + (c * 256 + d)) (a * 16777216) = a * 16777216 + (b * 65536 + (c * 256 + d)) :=
  or_u32_add' _ _ 24 a (by omega) (by omega) (by omega) (by omega) (by omega) (by omega)
end Go.Proofs.YtfonpcfcelahdaaDoor
