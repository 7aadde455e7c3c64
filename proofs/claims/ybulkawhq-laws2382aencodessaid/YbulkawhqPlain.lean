/-
  THE PLAIN LAWS: two's complement in the fewest octets. No Go in sight, but for the model's own word on bits.
-/
import Derived.WalkKit
namespace Go.Proofs.Ybulkawhq.Pl
open Go.RowKit

/-- v cut at 8e bits. -/
def cut (v : Int) (e : Nat) : Int := v / 2 ^ (8 * e)
/-- v fits s octets. -/
def Fits (v : Int) (s : Nat) : Prop := v / 2 ^ (8 * s - 1) = 0 ∨ v / 2 ^ (8 * s - 1) = -1

theorem pow_pos2 (n : Nat) : (0 : Int) < 2 ^ n := Int.pow_pos (by decide)

theorem div_pow (v : Int) (a b : Nat) : v / 2 ^ (a + b) = v / 2 ^ a / 2 ^ b := by
  rw [Int.pow_add, Int.ediv_ediv, if_neg (by have := pow_pos2 a; omega), Int.sub_zero]

theorem cut_zero (v : Int) : cut v 0 = v := by simp [cut]
theorem cut_step (v : Int) (e : Nat) : cut v e = cut v (e + 1) * 256 + cut v e % 256 := by
  have h : cut v (e + 1) = cut v e / 256 := by
    unfold cut
    rw [show 8 * (e + 1) = 8 * e + 8 by omega, div_pow]
    rfl
  rw [h]; omega

theorem div_bound (v d : Int) (hd : 0 < d) (h1 : -9223372036854775808 ≤ v) (h2 : v ≤ 9223372036854775807) : -9223372036854775808 ≤ v / d ∧ v / d ≤ 9223372036854775807 := by
  constructor
  · rw [Int.le_ediv_iff_mul_le hd]
    have : (-9223372036854775808 : Int) * d ≤ -9223372036854775808 * 1 := by omega
    omega
  · have : v / d < 9223372036854775807 + 1 := by
      rw [Int.ediv_lt_iff_lt_mul hd]
      have : (9223372036854775808 : Int) * 1 ≤ 9223372036854775808 * d := by omega
      omega
    omega
theorem cut_bound (v : Int) (e : Nat) (h1 : -9223372036854775808 ≤ v) (h2 : v ≤ 9223372036854775807) : -9223372036854775808 ≤ cut v e ∧ cut v e ≤ 9223372036854775807 :=
  div_bound v _ (pow_pos2 _) h1 h2

/-- The first octet of s, its top bit, and what lies above. -/
theorem cut_top (v : Int) (s : Nat) (hs : 1 ≤ s) : v / 2 ^ (8 * s - 1) = cut v (s - 1) / 128 ∧ cut v s = v / 2 ^ (8 * s - 1) / 2 := by
  constructor
  · unfold cut
    rw [show 8 * s - 1 = 8 * (s - 1) + 7 by omega, div_pow]
    rfl
  · unfold cut
    rw [show 8 * s = (8 * s - 1) + 1 by omega, div_pow, show 8 * s - 1 + 1 - 1 = 8 * s - 1 by omega]
    rfl

theorem fits_sign (v : Int) (s : Nat) (hs : 1 ≤ s) (h : Fits v s) : cut v s = if 128 ≤ cut v (s - 1) % 256 then -1 else 0 := by
  obtain ⟨h1, h2⟩ := cut_top v s hs
  unfold Fits at h
  rw [h2]
  rw [h1] at h ⊢
  split <;> omega

/-- In the fewest octets: the first octet and the second's top bit. -/
theorem fewest (v : Int) (s : Nat) (hs : 2 ≤ s) (h : Fits v s) (h' : ¬ Fits v (s - 1)) :
    ¬ (cut v (s - 1) % 256 = 0 ∧ cut v (s - 2) % 256 < 128) ∧ ¬ (cut v (s - 1) % 256 = 255 ∧ 128 ≤ cut v (s - 2) % 256) := by
  obtain ⟨h1, _⟩ := cut_top v s (by omega)
  obtain ⟨h3, _⟩ := cut_top v (s - 1) (by omega)
  have h5 := cut_step v (s - 2)
  rw [show s - 2 + 1 = s - 1 by omega] at h5
  rw [show s - 1 - 1 = s - 2 by omega] at h3
  unfold Fits at h h'
  rw [h1] at h
  rw [h3] at h'
  constructor <;> intro hh <;> omega

theorem fits8 (v : Int) (h1 : -9223372036854775808 ≤ v) (h2 : v ≤ 9223372036854775807) : Fits v 8 := by
  have e : v / 2 ^ (8 * 8 - 1) = v / 9223372036854775808 := by rfl
  unfold Fits
  rw [e]
  omega

/-- 'x<<8 | b' on an int64. -/
theorem or_i64 (y b : Int) (hy1 : -36028797018963968 ≤ y) (hy2 : y < 36028797018963968) (hb0 : 0 ≤ b) (hb : b < 256) : bits .or .i64 (wrap64 (y * 256)) (wrap64 b) = y * 256 + b := by
  have e1 : wrap64 (y * 256) = y * 256 := by unfold wrap64; omega
  have e2 : wrap64 b = b := by unfold wrap64; omega
  rw [e1, e2]
  have hA : (BitVec.ofInt 64 (y * 256)).toNat = (y * 256 % 18446744073709551616).toNat := by rw [BitVec.toNat_ofInt]; rfl
  have hB : (BitVec.ofInt 64 b).toNat = b.toNat := by rw [BitVec.toNat_ofInt]; show (b % 18446744073709551616).toNat = _; congr 1; omega
  show IntKind.i64.wrap ((BitVec.ofInt 64 (y * 256) ||| BitVec.ofInt 64 b).toNat : Nat) = _
  rw [BitVec.toNat_or, hA, hB]
  obtain ⟨m, hm⟩ : ∃ m : Nat, (y * 256 % 18446744073709551616).toNat = 2 ^ 8 * m := ⟨(y % 72057594037927936).toNat, by omega⟩
  rw [hm, ← Nat.two_pow_add_eq_or_of_lt (show b.toNat < 2 ^ 8 by omega) m, IntKind.wrap_i64]
  omega

theorem and128 : ∀ a : Fin 256, (bits .and .u8 ((a : Nat) : Int) 128 != 0) = decide (128 ≤ (a : Nat)) := by decide +kernel
theorem and128_top (x : Int) (h0 : 0 ≤ x) (h1 : x < 256) : (bits .and .u8 x 128 != 0) = decide (128 ≤ x) := by
  obtain ⟨a, rfl⟩ := Int.eq_ofNat_of_zero_le h0
  have := and128 ⟨a, by omega⟩
  simp only at this
  rw [this]
  exact decide_eq_decide.2 (by omega)
theorem and128_eq (x : Int) (h0 : 0 ≤ x) (h1 : x < 256) : (bits .and .u8 x 128 == 0) = decide (x < 128) := by
  have := and128_top x h0 h1
  rw [bne] at this
  have e : (bits .and .u8 x 128 == 0) = !decide (128 ≤ x) := by rw [← this]; simp
  rw [e]
  by_cases h : x < 128
  · simp [h]
  · simp [h]; omega

/-- The first n of v's s octets. -/
def oct (v : Int) (s n : Nat) : List Int := (List.range n).map fun t => cut v (s - 1 - t) % 256
theorem oct_len (v : Int) (s n : Nat) : (oct v s n).length = n := by simp [oct]
theorem oct_succ (v : Int) (s n : Nat) : oct v s (n + 1) = oct v s n ++ [cut v (s - 1 - n) % 256] := by simp [oct, List.range_succ]
theorem oct_get (v : Int) (s n t : Nat) (ht : t < n) : (oct v s n).getD t 0 = cut v (s - 1 - t) % 256 := by simp [oct, List.getD, ht]
end Go.Proofs.Ybulkawhq.Pl
