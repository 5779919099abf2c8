/-
  Words and masks: the digits found so far, as bits.
-/
import Derived.Test.Qxb6614430aFmtSel
namespace Go.Proofs.Qxb6614430aFmt
open Go.RowKit

theorem nat_mask (c T e : Nat) (hc : c < 2 ^ T) (he : e ≤ T) : c &&& (2 ^ T - 2 ^ e) = c / 2 ^ e * 2 ^ e := by
  have hf : 2 ^ T - 2 ^ e = (2 ^ (T - e) - 1) <<< e := by
    rw [Nat.shiftLeft_eq, Nat.sub_mul, ← Nat.pow_add, Nat.one_mul, Nat.sub_add_cancel he]
  have hg : c / 2 ^ e * 2 ^ e = (c >>> e) <<< e := by rw [Nat.shiftLeft_eq, Nat.shiftRight_eq_div_pow]
  rw [hf, hg]
  apply Nat.eq_of_testBit_eq
  intro i
  rw [Nat.testBit_and, Nat.testBit_shiftLeft, Nat.testBit_shiftLeft, Nat.testBit_two_pow_sub_one, Nat.testBit_shiftRight]
  by_cases h1 : e ≤ i
  · have e1 : e + (i - e) = i := by omega
    rw [e1]
    by_cases h2 : i - e < T - e
    · simp [h1, h2]
    · have h3 : c.testBit i = false := Nat.testBit_lt_two_pow (Nat.lt_of_lt_of_le hc (Nat.pow_le_pow_right (by decide) (by omega)))
      simp [h3]
  · have : decide (i ≥ e) = false := by simp; omega
    simp [this]

theorem and_mask (c : Int) (T e : Nat) (hc0 : 0 ≤ c) (hc : c < 2 ^ T) (he : e ≤ T) (hT : T ≤ 64) : bits BinOp.and IntKind.u64 c (2 ^ T - 2 ^ e) = c / 2 ^ e * 2 ^ e := by
  obtain ⟨n, rfl⟩ := Int.eq_ofNat_of_zero_le hc0
  have hn : n < 2 ^ T := by
    have : (n : Int) < ((2 ^ T : Nat) : Int) := by rw [Int.natCast_pow]; exact hc
    exact Int.ofNat_lt.1 this
  have h64 : 2 ^ T ≤ 18446744073709551616 := Nat.le_trans (Nat.pow_le_pow_right (by decide) hT) (by decide)
  have hle : 2 ^ e ≤ 2 ^ T := Nat.pow_le_pow_right (by decide) he
  have hpos : 0 < 2 ^ e := Nat.pow_pos (by decide)
  have h := bits_and_u64_nat n (2 ^ T - 2 ^ e) (by omega) (by omega)
  rw [nat_mask n T e hn he, Int.natCast_sub hle, Int.natCast_mul, Int.natCast_ediv, Int.natCast_pow, Int.natCast_pow] at h
  exact h

theorem and_16 (c : Int) (h0 : 0 ≤ c) (h1 : c ≤ 18446744073709551615) : bits BinOp.and IntKind.u64 c 65535 = c % 65536 := by
  have h := bits_and_u64_nat c.toNat 65535 (by omega) (by omega)
  have e : c.toNat &&& 65535 = c.toNat % 65536 := Nat.and_two_pow_sub_one_eq_mod c.toNat 16
  rw [e, Int.toNat_of_nonneg h0] at h
  have h2 : ((c.toNat % 65536 : Nat) : Int) = c % 65536 := by omega
  exact h.trans h2

/-- 'cut & found == prefix'. -/
theorem hit_eq (c P : Int) (T e : Nat) (hc0 : 0 ≤ c) (hc : c < 2 ^ T) (he : e ≤ T) (hT : T ≤ 64) : (bits BinOp.and IntKind.u64 c (2 ^ T - 2 ^ e) == P * 2 ^ e) = (c / 2 ^ e == P) := by
  rw [and_mask c T e hc0 hc he hT, Bool.eq_iff_iff]
  simp only [beq_iff_eq]
  have hp : (0 : Int) < 2 ^ e := Int.pow_pos (by decide)
  constructor
  · intro h; exact Int.eq_of_mul_eq_mul_right (by omega) h
  · intro h; rw [h]

theorem pow16 (e : Nat) : (2 : Int) ^ (e + 16) = 2 ^ e * 65536 := by rw [Int.pow_add]; rfl

/-- 'prefix |= digit << shift'. -/
theorem or_prefix (P : Int) (e d : Nat) (hP : 0 ≤ P) (hd : d < 65536) (hb : (P * 65536 + d) * 2 ^ e ≤ 18446744073709551615) :
    bits BinOp.or IntKind.u64 (P * 2 ^ (e + 16)) (IntKind.u64.wrap ((d : Int) * 2 ^ e)) = (P * 65536 + d) * 2 ^ e := by
  have hp : (0 : Int) < 2 ^ e := Int.pow_pos (by decide)
  have hd0 : 0 ≤ (d : Int) * 2 ^ e := Int.mul_nonneg (by omega) (by omega)
  have hd1 : (d : Int) * 2 ^ e < 2 ^ e * 65536 := by
    have := Int.mul_lt_mul_of_pos_right (show (d : Int) < 65536 by omega) hp
    omega
  have hP2 : 0 ≤ P * 65536 * 2 ^ e := Int.mul_nonneg (by omega) (by omega)
  rw [Int.add_mul] at hb ⊢
  have hw : IntKind.u64.wrap ((d : Int) * 2 ^ e) = (d : Int) * 2 ^ e := by rw [IntKind.wrap_u64]; omega
  have e1 : P * 2 ^ (e + 16) = P * 65536 * 2 ^ e := by rw [pow16, Int.mul_comm (2 ^ e), Int.mul_assoc]
  rw [hw, or_low P _ (e + 16) hP hd0 (by rw [pow16]; exact hd1) (by rw [e1]; exact hb), e1]

/-- 'found |= 65535 << shift'. -/
theorem or_found (K m : Nat) (hm : m + 1 ≤ K) (hK : K ≤ 4) :
    bits BinOp.or IntKind.u64 (2 ^ (16 * K) - 2 ^ (16 * m + 16)) (IntKind.u64.wrap (65535 * 2 ^ (16 * m))) = 2 ^ (16 * K) - 2 ^ (16 * m) := by
  have hcase : (K = 1 ∧ m = 0) ∨ (K = 2 ∧ m = 0) ∨ (K = 2 ∧ m = 1) ∨ (K = 3 ∧ m = 0) ∨ (K = 3 ∧ m = 1) ∨ (K = 3 ∧ m = 2) ∨ (K = 4 ∧ m = 0) ∨ (K = 4 ∧ m = 1) ∨ (K = 4 ∧ m = 2) ∨ (K = 4 ∧ m = 3) := by omega
  rcases hcase with ⟨rfl, rfl⟩ | ⟨rfl, rfl⟩ | ⟨rfl, rfl⟩ | ⟨rfl, rfl⟩ | ⟨rfl, rfl⟩ | ⟨rfl, rfl⟩ | ⟨rfl, rfl⟩ | ⟨rfl, rfl⟩ | ⟨rfl, rfl⟩ | ⟨rfl, rfl⟩ <;> decide

theorem found_zero (K m : Nat) (hm : m ≤ K) (hK : K ≤ 4) : ((2 : Int) ^ (16 * K) - 2 ^ (16 * m) == 0) = decide (m = K) := by
  have hcase : m = K ∨ m < K := by omega
  rcases hcase with rfl | h
  · simp
  · have h1 : (2 : Nat) ^ (16 * m) < 2 ^ (16 * K) := Nat.pow_lt_pow_right (by decide) (by omega)
    have h2 : ((2 ^ (16 * m) : Nat) : Int) < ((2 ^ (16 * K) : Nat) : Int) := Int.ofNat_lt.2 h1
    rw [Int.natCast_pow, Int.natCast_pow] at h2
    have h3 : ((2 : Nat) : Int) ^ (16 * m) = (2 : Int) ^ (16 * m) := rfl
    have h4 : ((2 : Nat) : Int) ^ (16 * K) = (2 : Int) ^ (16 * K) := rfl
    rw [h3, h4] at h2
    have : ¬ (m = K) := by omega
    simp only [this, decide_false]
    simp
    omega

end Go.Proofs.Qxb6614430aFmt
