/-
  math/bits.Div64 (25), whole: the quotient and the remainder of the two words.
-/
import Derived.Test.Qxb6614430aFmtDiv
import Derived.Lib.ItoaNum
import Derived.RegionTactic
import Derived.ChangeAlike
namespace Go.Proofs.Qxb6614430aFmt
open Go.RowKit

theorem mask32 (x : Int) (h0 : 0 ≤ x) (h1 : x ≤ 18446744073709551615) : bits BinOp.and IntKind.u64 x 4294967295 = x % 4294967296 := by
  have h := bits_and_u64_nat x.toNat 4294967295 (by omega) (by omega)
  have e : x.toNat &&& 4294967295 = x.toNat % 4294967296 := Nat.and_two_pow_sub_one_eq_mod x.toNat 32
  rw [e, Int.toNat_of_nonneg h0] at h
  have h2 : ((x.toNat % 4294967296 : Nat) : Int) = x % 4294967296 := by omega
  exact h.trans h2

theorem or_low (x y : Int) (s : Nat) (hx0 : 0 ≤ x) (hy0 : 0 ≤ y) (hy1 : y < 2 ^ s) (h : x * 2 ^ s + y ≤ 18446744073709551615) : bits BinOp.or IntKind.u64 (x * 2 ^ s) y = x * 2 ^ s + y := by
  have hp : (0 : Int) < 2 ^ s := Int.pow_pos (by decide)
  have hx : 0 ≤ x * 2 ^ s := Int.mul_nonneg hx0 (by omega)
  have hb := bits_or_u64_nat (x * 2 ^ s).toNat y.toNat (by omega) (by omega)
  rw [Int.toNat_of_nonneg hx, Int.toNat_of_nonneg hy0] at hb
  rw [hb]
  have e1 : (x * 2 ^ s).toNat = 2 ^ s * x.toNat := by
    have : ((x * 2 ^ s).toNat : Int) = ((2 ^ s * x.toNat : Nat) : Int) := by
      rw [Int.toNat_of_nonneg hx, Int.natCast_mul, Int.toNat_of_nonneg hx0, Int.natCast_pow]
      rw [Int.mul_comm]; rfl
    exact Int.ofNat.inj this
  have hy : y.toNat < 2 ^ s := by
    have : (y.toNat : Int) < ((2 ^ s : Nat) : Int) := by
      rw [Int.toNat_of_nonneg hy0, Int.natCast_pow]; exact hy1
    exact Int.ofNat_lt.1 this
  have e2 := Nat.two_pow_add_eq_or_of_lt hy x.toNat
  rw [e1, ← e2, ← e1]
  omega

/-- The shift that normalizes y. -/
theorem norm_shift (y : Int) (h0 : 1 ≤ y) (h1 : y ≤ 18446744073709551615) : ∃ s : Nat, s ≤ 63 ∧ (Lib.bitLen y.toNat : Int) = 64 - s ∧ 9223372036854775808 ≤ y * 2 ^ s ∧ y * 2 ^ s ≤ 18446744073709551615 := by
  have hb := Lib.bitLenAux_bounds 64 y.toNat (by have : (2 : Nat) ^ 64 = 18446744073709551616 := by decide
                                                 omega) (by omega)
  obtain ⟨b1, b2, b3⟩ := hb
  have hle : Lib.bitLenAux 64 y.toNat ≤ 64 := Lib.bitLenAux_le 64 y.toNat 64 (by have : (2 : Nat) ^ 64 = 18446744073709551616 := by decide
                                                                                 omega)
  obtain ⟨n, hn⟩ : ∃ n, n = Lib.bitLenAux 64 y.toNat := ⟨_, rfl⟩
  rw [← hn] at b1 b2 b3 hle
  refine ⟨64 - n, by omega, ?_, ?_, ?_⟩
  · show ((Lib.bitLenAux 64 y.toNat : Nat) : Int) = _
    rw [← hn]; omega
  · have e : 2 ^ (n - 1) * 2 ^ (64 - n) = (2 : Nat) ^ 63 := by rw [← Nat.pow_add]; congr 1; omega
    have h2 : 2 ^ (n - 1) * 2 ^ (64 - n) ≤ y.toNat * 2 ^ (64 - n) := Nat.mul_le_mul_right _ b2
    rw [e] at h2
    have h3 : ((2 ^ 63 : Nat) : Int) ≤ ((y.toNat * 2 ^ (64 - n) : Nat) : Int) := Int.ofNat_le.2 h2
    rw [Int.natCast_mul, Int.toNat_of_nonneg (by omega), Int.natCast_pow] at h3
    exact h3
  · have e : 2 ^ n * 2 ^ (64 - n) = (2 : Nat) ^ 64 := by rw [← Nat.pow_add]; congr 1; omega
    have h2 : (y.toNat + 1) * 2 ^ (64 - n) ≤ 2 ^ n * 2 ^ (64 - n) := Nat.mul_le_mul_right _ b3
    rw [e, Nat.add_mul] at h2
    have hp : 0 < 2 ^ (64 - n) := Nat.pow_pos (by decide)
    have h4 : y.toNat * 2 ^ (64 - n) < 2 ^ 64 := by omega
    have h3 : ((y.toNat * 2 ^ (64 - n) : Nat) : Int) < ((2 ^ 64 : Nat) : Int) := Int.ofNat_lt.2 h4
    rw [Int.natCast_mul, Int.toNat_of_nonneg (by omega), Int.natCast_pow] at h3
    have e64 : ((2 ^ 64 : Nat) : Int) = 18446744073709551616 := by decide
    rw [e64] at h3
    have h5 : y * ((2 : Nat) : Int) ^ (64 - n) = y * 2 ^ (64 - n) := rfl
    rw [h5] at h3
    omega

theorem div64_split (hi lo y : Int) (s : Nat) (hs : s ≤ 63) (hh0 : 0 ≤ hi) (hh : hi < y) (hl0 : 0 ≤ lo) (hl1 : lo ≤ 18446744073709551615) :
    0 ≤ hi * 2 ^ s ∧ 0 ≤ lo / 2 ^ (64 - s) ∧ lo / 2 ^ (64 - s) < 2 ^ s ∧ hi * 2 ^ s + lo / 2 ^ (64 - s) < y * 2 ^ s ∧
      (hi * 2 ^ s + lo / 2 ^ (64 - s)) * 18446744073709551616 + lo * 2 ^ s % 18446744073709551616 = (hi * 18446744073709551616 + lo) * 2 ^ s := by
  have hp : (0 : Int) < 2 ^ s := Int.pow_pos (by decide)
  have hpp : (0 : Int) < 2 ^ (64 - s) := Int.pow_pos (by decide)
  have hprod : (2 : Int) ^ (64 - s) * 2 ^ s = 18446744073709551616 := by
    rw [← Int.pow_add]
    have : 64 - s + s = 64 := by omega
    rw [this]; decide
  have hlt : lo / 2 ^ (64 - s) < 2 ^ s := by
    refine Int.ediv_lt_of_lt_mul hpp ?_
    rw [Int.mul_comm, hprod]; omega
  have h3 : (hi + 1) * 2 ^ s ≤ y * 2 ^ s := Int.mul_le_mul_of_nonneg_right (by omega) (by omega)
  rw [Int.add_mul] at h3
  refine ⟨Int.mul_nonneg hh0 (by omega), Int.ediv_nonneg hl0 (by omega), hlt, by omega, ?_⟩
  have e1 : lo * 2 ^ s / 18446744073709551616 = lo / 2 ^ (64 - s) := by
    rw [← hprod, Int.mul_ediv_mul_of_pos_left _ _ hp]
  have e2 := Int.emod_add_mul_ediv (lo * 2 ^ s) 18446744073709551616
  rw [e1] at e2
  rw [Int.add_mul (hi * 18446744073709551616), Int.mul_assoc hi 18446744073709551616, Int.mul_comm 18446744073709551616 (2 ^ s), ← Int.mul_assoc]
  omega

set_option maxHeartbeats 400000 in
theorem div64_zero (lo y : Int) (w : World) (h1 : 1 ≤ y) (h2 : y ≤ 18446744073709551615) (hl0 : 0 ≤ lo) (hl1 : lo ≤ 18446744073709551615) :
    Calls Tryf.prog 25 #[.int .u64 0, .int .u64 lo, .int .u64 y] w fun e w' => e = .returned (.tuple #[.int .u64 (lo / y), .int .u64 (lo % y)]) ∧ ∃ n, w' = w.drewN n := by
  go_enter Tryf.func25, Tryf.ntmps25
  go_wp2
  go_region
  all_goals go_wp2
  all_goals (go_ret2; exact ⟨rfl, 1, rfl⟩)

theorem div64_any (hi lo y : Int) (w : World) (hh0 : 0 ≤ hi) (hh : hi < y) (h2 : y ≤ 18446744073709551615) (hl0 : 0 ≤ lo) (hl1 : lo ≤ 18446744073709551615) :
    Calls Tryf.prog 25 #[.int .u64 hi, .int .u64 lo, .int .u64 y] w fun e w' => e = .returned (.tuple #[.int .u64 ((hi * 18446744073709551616 + lo) / y), .int .u64 ((hi * 18446744073709551616 + lo) % y)]) ∧ ∃ n, w' = w.drewN n := by
  by_cases hz : hi = 0
  · subst hz
    have e : (0 : Int) * 18446744073709551616 + lo = lo := by omega
    rw [e]
    exact div64_zero lo y w (by omega) h2 hl0 hl1
  · obtain ⟨s, hs, hlen, hY0, hY1⟩ := norm_shift y (by omega) h2
    obtain ⟨p1, p2, p3, p4, p5⟩ := div64_split hi lo y s hs hh0 hh hl0 hl1
    have hp : (0 : Int) < 2 ^ s := Int.pow_pos (by decide)
    obtain ⟨Y, hY⟩ : ∃ Y, Y = y * 2 ^ s := ⟨_, rfl⟩
    obtain ⟨u, hu⟩ : ∃ u, u = hi * 2 ^ s + lo / 2 ^ (64 - s) := ⟨_, rfl⟩
    obtain ⟨v, hv⟩ : ∃ v, v = lo * 2 ^ s % 18446744073709551616 := ⟨_, rfl⟩
    rw [← hu, ← hY] at p4
    rw [← hu, ← hv] at p5
    rw [← hY] at hY0 hY1
    have u0 : 0 ≤ u := by omega
    have dg1 := digit_of Y u (v / 4294967296) (by omega) (by omega) (by omega) u0 p4
    obtain ⟨Q1, hQ1⟩ : ∃ Q, Q = (u * 4294967296 + v / 4294967296) / Y := ⟨_, rfl⟩
    rw [← hQ1] at dg1
    obtain ⟨dig1, Q10, Q11⟩ := dg1
    have hR1 : u * 4294967296 + v / 4294967296 = Q1 * Y + (u * 4294967296 + v / 4294967296 - Q1 * Y) := by omega
    obtain ⟨R1, hR1d⟩ : ∃ R, R = u * 4294967296 + v / 4294967296 - Q1 * Y := ⟨_, rfl⟩
    rw [← hR1d] at hR1
    have R10 : 0 ≤ R1 := by have := dig1.1; omega
    have R11 : R1 < Y := by have := dig1.2; rw [Int.add_mul] at this; omega
    have dg0 := digit_of Y R1 (v % 4294967296) (by omega) (by omega) (by omega) R10 R11
    obtain ⟨Q0, hQ0⟩ : ∃ Q, Q = (R1 * 4294967296 + v % 4294967296) / Y := ⟨_, rfl⟩
    rw [← hQ0] at dg0
    obtain ⟨dig0, Q00, Q01⟩ := dg0
    obtain ⟨R0, hR0d⟩ : ∃ R, R = R1 * 4294967296 + v % 4294967296 - Q0 * Y := ⟨_, rfl⟩
    have hR0 : R1 * 4294967296 + v % 4294967296 = Q0 * Y + R0 := by omega
    have R00 : 0 ≤ R0 := by have := dig0.1; omega
    have R01 : R0 < Y := by have := dig0.2; rw [Int.add_mul] at this; omega
    have D : DivFacts hi lo y Y (Y / 4294967296) (Y % 4294967296) u v (v / 4294967296) (v % 4294967296) (u / (Y / 4294967296)) Q1 R1 (R1 / (Y / 4294967296)) Q0 R0 s :=
      { s63 := hs
        hY := by rw [← hY, IntKind.wrap_u64]; omega
        hU := by
          rw [show IntKind.u64.wrap (hi * 2 ^ s) = hi * 2 ^ s by rw [IntKind.wrap_u64]; omega, or_low hi _ s hh0 p2 p3 (by omega)]; exact hu.symm
        hV := by rw [IntKind.wrap_u64]; exact hv.symm
        ha := rfl, hb := mask32 Y (by omega) (by omega), hd1 := rfl, hd0 := mask32 v (by omega) (by omega)
        Y0 := hY0, Y1 := hY1, u0 := u0, u1 := p4, v0 := by omega, v1 := by omega, a0 := by omega, a1 := by omega, b0 := by omega, b1 := by omega
        d10 := by omega, d11 := by omega, d00 := by omega, d01 := by omega, hs := by omega, hqa := rfl, dig1 := dig1, Q10 := Q10, Q11 := Q11, hR1 := hR1, hqb := rfl
        dig0 := dig0, Q00 := Q00, Q01 := Q01, hR0 := hR0 }
    obtain ⟨t1, t2⟩ := two_digits (by omega) hR1 hR0 R00 R01
    have e1 : v / 4294967296 * 4294967296 + v % 4294967296 = v := by omega
    rw [e1, p5, hY, Int.mul_ediv_mul_of_pos_left _ _ hp] at t1
    rw [e1, p5, hY, Int.mul_comm _ (2 ^ s), Int.mul_comm y (2 ^ s), Int.mul_emod_mul_of_pos _ _ hp] at t2
    refine (div64_walk hi lo y Y _ _ u v _ _ _ Q1 R1 _ Q0 R0 s w (by omega) hh h2 hlen D).mono ?_
    rintro e w' ⟨rfl, rfl⟩
    refine ⟨?_, 0, rfl⟩
    rw [t1, ← t2, Int.mul_ediv_cancel_left _ (by omega)]

end Go.Proofs.Qxb6614430aFmt
