/-
  Plain arithmetic for Div64: one digit of Knuth's long division by a normalized divisor. No program here.
-/
import Derived.KernelRfl
namespace Go.Proofs.Qxb6614430aFmt

/-- Q is the digit: the quotient of u·2^32 + d by Y. -/
def IsDigit (Y u d Q : Int) : Prop := Q * Y ≤ u * 4294967296 + d ∧ u * 4294967296 + d < (Q + 1) * Y

theorem digit_le {Y u d Q q : Int} (hQ : IsDigit Y u d Q) (hY : 0 < Y) (h : q * Y ≤ u * 4294967296 + d) : q ≤ Q := by
  obtain ⟨-, h2⟩ := hQ
  have h3 : q * Y < (Q + 1) * Y := by omega
  have := Int.lt_of_mul_lt_mul_right h3 (by omega)
  omega

theorem digit_gt {Y u d Q q : Int} (hQ : IsDigit Y u d Q) (hY : 0 < Y) (h : u * 4294967296 + d < q * Y) : Q < q := by
  obtain ⟨h1, -⟩ := hQ
  have h3 : Q * Y < q * Y := by omega
  exact Int.lt_of_mul_lt_mul_right h3 (by omega)

theorem split_mul {Y a b : Int} (q : Int) (h : Y = a * 4294967296 + b) : q * Y = q * a * 4294967296 + q * b := by
  subst h; rw [Int.mul_add, Int.mul_assoc]

/-- The test says 'too large'. -/
theorem test_gt {Y a b u d Q q r : Int} (hQ : IsDigit Y u d Q) (hY : 0 < Y) (hs : Y = a * 4294967296 + b) (hr : r = u - q * a) (h : 4294967296 * r + d < q * b) : Q < q := by
  refine digit_gt hQ hY ?_
  rw [split_mul q hs]; omega

/-- The test says 'not too large'. -/
theorem test_le {Y a b u d Q q r : Int} (hQ : IsDigit Y u d Q) (hY : 0 < Y) (hs : Y = a * 4294967296 + b) (hr : r = u - q * a) (h : q * b ≤ 4294967296 * r + d) : q ≤ Q := by
  refine digit_le hQ hY ?_
  rw [split_mul q hs]; omega

theorem mul_bound {q b : Int} (hq0 : 0 ≤ q) (hq : q ≤ 4294967296) (hb0 : 0 ≤ b) (hb : b ≤ 4294967295) : 0 ≤ q * b ∧ q * b ≤ 18446744069414584320 := by
  refine ⟨Int.mul_nonneg hq0 hb0, ?_⟩
  have h1 : q * b ≤ 4294967296 * b := Int.mul_le_mul_of_nonneg_right hq hb0
  omega

/-- The remainder estimate has left the word: the digit stands. -/
theorem break_le {Y a b u d Q q r : Int} (hQ : IsDigit Y u d Q) (hY : 0 < Y) (hs : Y = a * 4294967296 + b) (hr : r = u - q * a) (hq0 : 0 ≤ q) (hq : q ≤ 4294967296) (hb0 : 0 ≤ b) (hb : b ≤ 4294967295) (hd : 0 ≤ d) (h : 4294967296 ≤ r) : q ≤ Q := by
  refine test_le hQ hY hs hr ?_
  have := (mul_bound hq0 hq hb0 hb).2
  omega

theorem est_bound {Y a b u : Int} (hs : Y = a * 4294967296 + b) (hu0 : 0 ≤ u) (hu : u < Y) (ha : 2147483648 ≤ a) (hb : b ≤ 4294967295) : 0 ≤ u / a ∧ u / a ≤ 4294967297 ∧ 0 ≤ u / a * a ∧ u / a * a ≤ u ∧ u < u / a * a + a := by
  have h0 : 0 ≤ u / a := Int.ediv_nonneg hu0 (by omega)
  have h1 : u / a * a ≤ u := Int.ediv_mul_le u (by omega)
  have h2 : u < u / a * a + a := by
    have := Int.lt_ediv_add_one_mul_self u (show 0 < a by omega)
    rw [Int.add_mul] at this; omega
  refine ⟨h0, ?_, Int.mul_nonneg h0 (by omega), h1, h2⟩
  have h3 : u < 4294967298 * a := by omega
  have h4 := Int.ediv_lt_of_lt_mul (show 0 < a by omega) h3
  omega

theorem est_ge {Y a b u d Q : Int} (hQ : IsDigit Y u d Q) (hs : Y = a * 4294967296 + b) (hQ0 : 0 ≤ Q) (ha : 2147483648 ≤ a) (hb0 : 0 ≤ b) (hd : d ≤ 4294967295) : Q ≤ u / a := by
  have h1 := hQ.1
  rw [split_mul Q hs] at h1
  have h2 : 0 ≤ Q * b := Int.mul_nonneg hQ0 hb0
  have h3 : Q * a ≤ u := by omega
  exact (Int.le_ediv_iff_mul_le (by omega)).2 h3

/-- The digit and the new remainder. -/
theorem digit_of (Y u d : Int) (hY : 0 < Y) (hd0 : 0 ≤ d) (hd : d ≤ 4294967295) (hu0 : 0 ≤ u) (hu : u < Y) :
    IsDigit Y u d ((u * 4294967296 + d) / Y) ∧ 0 ≤ (u * 4294967296 + d) / Y ∧ (u * 4294967296 + d) / Y ≤ 4294967295 := by
  have h1 : (u * 4294967296 + d) / Y * Y ≤ u * 4294967296 + d := Int.ediv_mul_le _ (by omega)
  have h2 := Int.lt_ediv_add_one_mul_self (u * 4294967296 + d) hY
  refine ⟨⟨h1, h2⟩, Int.ediv_nonneg (by omega) (by omega), ?_⟩
  have h3 : u * 4294967296 + d < 4294967296 * Y := by omega
  have := Int.ediv_lt_of_lt_mul hY h3
  omega

/-- Two digits make the quotient. -/
theorem two_digits {Y u d1 d0 Q1 R1 Q0 R0 : Int} (hY : 0 < Y) (h1 : u * 4294967296 + d1 = Q1 * Y + R1) (h0 : R1 * 4294967296 + d0 = Q0 * Y + R0) (hr0 : 0 ≤ R0) (hr1 : R0 < Y) :
    (u * 18446744073709551616 + (d1 * 4294967296 + d0)) / Y = Q1 * 4294967296 + Q0 ∧ (u * 18446744073709551616 + (d1 * 4294967296 + d0)) % Y = R0 := by
  have e : u * 18446744073709551616 + (d1 * 4294967296 + d0) = R0 + Y * (Q1 * 4294967296 + Q0) := by
    have e1 : Y * (Q1 * 4294967296 + Q0) = Q1 * Y * 4294967296 + Q0 * Y := by
      rw [Int.mul_add, Int.mul_comm Y Q0, ← Int.mul_assoc, Int.mul_comm Y Q1]
    rw [e1]; omega
  rw [e]
  constructor
  · rw [Int.add_mul_ediv_left _ _ (by omega), Int.ediv_eq_zero_of_lt hr0 hr1]; omega
  · rw [Int.add_mul_emod_self_left, Int.emod_eq_of_lt hr0 hr1]

end Go.Proofs.Qxb6614430aFmt
