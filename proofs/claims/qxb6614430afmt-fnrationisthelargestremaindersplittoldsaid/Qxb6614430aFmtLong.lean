/-
  The law's own long division, mulDivLong (11).
-/
import Derived.Test.Qxb6614430aFmtNum
namespace Go.Proofs.Qxb6614430aFmt
open Go.RowKit

theorem and_one (x : Int) (h0 : 0 ≤ x) (h1 : x ≤ 18446744073709551615) : bits BinOp.and IntKind.u64 x 1 = x % 2 := by
  have h := bits_and_u64_nat x.toNat 1 (by omega) (by omega)
  rw [Nat.and_one_is_mod, Int.toNat_of_nonneg h0] at h
  have h2 : ((x.toNat % 2 : Nat) : Int) = x % 2 := by omega
  exact h.trans h2

theorem or_bit (x bit : Int) (hb0 : 0 ≤ bit) (hb1 : bit ≤ 1) : bits BinOp.or IntKind.u64 (IntKind.u64.wrap (x * 2)) bit = (2 * x + bit) % 18446744073709551616 := by
  obtain ⟨y, hy⟩ : ∃ y, y = x % 9223372036854775808 := ⟨_, rfl⟩
  have e : IntKind.u64.wrap (x * 2) = y * 2 ^ 1 := by rw [IntKind.wrap_u64]; omega
  rw [e, or_low y bit 1 (by omega) hb0 (by omega) (by omega)]
  omega

theorem or_one (x : Int) (hx0 : 0 ≤ x) (hx : x * 2 + 1 ≤ 18446744073709551615) : bits BinOp.or IntKind.u64 (x * 2) 1 = x * 2 + 1 := by
  have := or_low x 1 1 hx0 (by omega) (by omega) (by omega)
  simpa using this

set_option maxHeartbeats 2000000 in
theorem long_any (x y d : Int) (w : World) (hx0 : 0 ≤ x) (hx : x ≤ 18446744073709551615) (hy0 : 0 ≤ y) (hy : y ≤ 18446744073709551615) (hd0 : 1 ≤ d) (hd : d ≤ 18446744073709551615) (hq : x * y < d * 18446744073709551616) :
    Calls Tryf.prog 11 #[.int .u64 x, .int .u64 y, .int .u64 d] w fun e w' => e = .returned (.tuple #[.int .u64 (x * y / d), .int .u64 (x * y % d)]) ∧ w' = w := by
  have hxy : 0 ≤ x * y := Int.mul_nonneg hx0 hy0
  obtain ⟨N, hN⟩ : ∃ N, N = x * y := ⟨_, rfl⟩
  obtain ⟨hi, hhi⟩ : ∃ a, a = N / 18446744073709551616 := ⟨_, rfl⟩
  obtain ⟨lo, hlo⟩ : ∃ a, a = N % 18446744073709551616 := ⟨_, rfl⟩
  have HN : Hid (hi * 18446744073709551616 + lo = N) := by show _ = _; omega
  have hl0 : 0 ≤ lo := by omega
  have hl1 : lo ≤ 18446744073709551615 := by omega
  have hh0 : 0 ≤ hi := by omega
  have hh1 : hi ≤ 18446744073709551615 := by
    have h1 : x * y ≤ 18446744073709551615 * y := Int.mul_le_mul_of_nonneg_right hx hy0
    omega
  have hN0 : 0 ≤ N := by omega
  have HQ : Hid (N / d ≤ 18446744073709551615) := by
    show _ ≤ _
    have := Int.ediv_lt_of_lt_mul (show 0 < d by omega) (show N < 18446744073709551616 * d by omega)
    omega
  have HM := own_mul64 x y w hx0 hx hy0 hy
  rw [← hN, ← hhi, ← hlo] at HM
  rw [← hN]
  clear hN hhi hlo hxy hq
  go_enter Tryf.func11, Tryf.ntmps11
  go_wp2_with fail
  refine HM.mono ?_
  clear HM
  rintro e w' ⟨rfl, hw⟩
  obtain rfl := hw.symm
  go_wp2
  go_loop [10, 6, 7] (fun i a b => ∃ k : Nat, i = .int .i64 ((k : Int) - 1) ∧ k ≤ 128 ∧ a = .int .u64 (N / 2 ^ k / d) ∧ b = .int .u64 (N / 2 ^ k % d)) (fun i _ _ => (intOf i + 1).toNat)
  case atStart =>
    have h0 : N / 2 ^ 128 = 0 := by
      refine Int.ediv_eq_zero_of_lt hN0 ?_
      have := HN.out
      have e : (2 : Int) ^ 128 = 18446744073709551616 * 18446744073709551616 := by decide
      rw [e]; omega
    exact ⟨128, rfl, by omega, by rw [h0]; simp, by rw [h0]; simp⟩
  case round =>
    obtain ⟨k, rfl, hk, rfl, rfl⟩ := hrel
    cases k with
    | zero =>
      have e0 : N / 2 ^ 0 = N := by simp
      rw [e0]
      go_wp2
      go_ret2
      exact ⟨rfl, rfl⟩
    | succ j =>
      have ei : (((j + 1 : Nat) : Int) - 1) = (j : Int) := by omega
      rw [ei]
      obtain ⟨M, hM⟩ : ∃ M, M = N / 2 ^ (j + 1) := ⟨_, rfl⟩
      have hM0 : 0 ≤ M := by rw [hM]; exact Int.ediv_nonneg hN0 (Int.le_of_lt (Int.pow_pos (by decide)))
      obtain ⟨bit, hbit⟩ : ∃ b, b = N / 2 ^ j % 2 := ⟨_, rfl⟩
      have HS : Hid (N / 2 ^ j = 2 * M + bit) := by show _ = _; rw [hM, hbit]; exact pow_half N j
      have HB : Hid ((2 * M + bit) / d ≤ 18446744073709551615) := by
        show _ ≤ _
        rw [← HS.out]
        have h1 : N / 2 ^ j ≤ N := Int.ediv_le_self _ hN0
        have := Int.ediv_le_ediv (show 0 < d by omega) h1
        have := HQ.out
        omega
      have hb0 : 0 ≤ bit := by omega
      have hb1 : bit ≤ 1 := by omega
      rw [← hM]
      obtain ⟨q, hq⟩ : ∃ q, q = M / d := ⟨_, rfl⟩
      obtain ⟨r, hr⟩ : ∃ r, r = M % d := ⟨_, rfl⟩
      have hq0 : 0 ≤ q := by rw [hq]; exact Int.ediv_nonneg hM0 (by omega)
      have hr0 : 0 ≤ r := by rw [hr]; exact Int.emod_nonneg M (by omega)
      have hr1 : r < d := by rw [hr]; exact Int.emod_lt_of_pos M (by omega)
      obtain ⟨st1, st2⟩ := long_step (M := M) (d := d) (bit := bit) (by omega) hb0 hb1
      rw [← hq, ← hr] at st1 st2 ⊢
      have ST1 : Hid (d ≤ 2 * r + bit → (2 * M + bit) / d = 2 * q + 1 ∧ (2 * M + bit) % d = 2 * r + bit - d) := st1
      have ST2 : Hid (2 * r + bit < d → (2 * M + bit) / d = 2 * q ∧ (2 * M + bit) % d = 2 * r + bit) := st2
      clear st1 st2
      have HT := or_bit r bit hb0 hb1
      obtain ⟨T, hT⟩ : ∃ T, T = (2 * r + bit) % 18446744073709551616 := ⟨_, rfl⟩
      rw [← hT] at HT
      have HTT : Hid (T = (2 * r + bit) % 18446744073709551616) := hT
      have hT0 : 0 ≤ T := by omega
      have hT1 : T ≤ 18446744073709551615 := by omega
      clear hT hq hr
      by_cases hj : j < 64
      · have hbl : bits BinOp.and IntKind.u64 (lo / 2 ^ j) 1 = bit := by
          have hp : (0 : Int) < 2 ^ j := Int.pow_pos (by decide)
          have h1 : lo / 2 ^ j ≤ lo := Int.ediv_le_self _ hl0
          rw [and_one _ (Int.ediv_nonneg hl0 (by omega)) (by omega), hbit, ← HN.out, bit_lo hi lo j hj]
        clear hM hbit
        by_cases hge : d ≤ 2 * r + bit
        · obtain ⟨s1, s2⟩ := ST1.out hge
          have HS1 : Hid ((2 * M + bit) / d = 2 * q + 1) := s1
          have HS2 : Hid ((2 * M + bit) % d = 2 * r + bit - d) := s2
          have hq2 : q * 2 + 1 ≤ 18446744073709551615 := by have := HB.out; omega
          have ho := or_one q hq0 hq2
          clear s1 s2
          by_cases htop : 9223372036854775808 ≤ r
          · go_wp2
            go_round
            case rel => exact ⟨j, rfl, by omega, by rw [HS.out, HS1.out]; congr 1; omega, by rw [HS.out, HS2.out, IntKind.wrap_u64]; congr 1; have := HTT.out; omega⟩
            case measure => simp [intOf] <;> omega
          · have hTd : d ≤ T := by have := HTT.out; omega
            have HT2 : bits BinOp.or IntKind.u64 (r * 2) bit = T := by rw [← HT]; congr 1; rw [IntKind.wrap_u64]; omega
            go_wp2
            go_round
            case rel => exact ⟨j, rfl, by omega, by rw [HS.out, HS1.out]; congr 1; omega, by rw [HS.out, HS2.out]; congr 1; have := HTT.out; omega⟩
            case measure => simp [intOf] <;> omega
        · obtain ⟨s1, s2⟩ := ST2.out (by omega)
          have HS1 : Hid ((2 * M + bit) / d = 2 * q) := s1
          have HS2 : Hid ((2 * M + bit) % d = 2 * r + bit) := s2
          have hq2 : q * 2 ≤ 18446744073709551615 := by have := HB.out; omega
          have hr2 : r < 9223372036854775808 := by omega
          have hTd : T < d := by have := HTT.out; omega
          have htb : (r / 9223372036854775808 == 1) = false := by simp; omega
          have HT2 : bits BinOp.or IntKind.u64 (r * 2) bit = T := by rw [← HT]; congr 1; rw [IntKind.wrap_u64]; omega
          clear s1 s2
          go_wp2
          go_round
          case rel => exact ⟨j, rfl, by omega, by rw [HS.out, HS1.out]; congr 1; omega, by rw [HS.out, HS2.out]; congr 1; have := HTT.out; omega⟩
          case measure => simp [intOf] <;> omega
      · obtain ⟨m, rfl⟩ : ∃ m, j = 64 + m := ⟨j - 64, by omega⟩
        have hbl : bits BinOp.and IntKind.u64 (hi / 2 ^ m) 1 = bit := by
          have hp : (0 : Int) < 2 ^ m := Int.pow_pos (by decide)
          have h1 : hi / 2 ^ m ≤ hi := Int.ediv_le_self _ hh0
          rw [and_one _ (Int.ediv_nonneg hh0 (by omega)) (by omega), hbit, ← HN.out, bit_hi hi lo m hl0 hl1]
        clear hM hbit
        by_cases hge : d ≤ 2 * r + bit
        · obtain ⟨s1, s2⟩ := ST1.out hge
          have HS1 : Hid ((2 * M + bit) / d = 2 * q + 1) := s1
          have HS2 : Hid ((2 * M + bit) % d = 2 * r + bit - d) := s2
          have hq2 : q * 2 + 1 ≤ 18446744073709551615 := by have := HB.out; omega
          have ho := or_one q hq0 hq2
          clear s1 s2
          by_cases htop : 9223372036854775808 ≤ r
          · go_wp2
            go_round
            case rel => exact ⟨64 + m, by go_num, by omega, by rw [HS.out, HS1.out]; congr 1; omega, by rw [HS.out, HS2.out, IntKind.wrap_u64]; congr 1; have := HTT.out; omega⟩
            case measure => simp [intOf] <;> omega
          · have hTd : d ≤ T := by have := HTT.out; omega
            have HT2 : bits BinOp.or IntKind.u64 (r * 2) bit = T := by rw [← HT]; congr 1; rw [IntKind.wrap_u64]; omega
            go_wp2
            go_round
            case rel => exact ⟨64 + m, by go_num, by omega, by rw [HS.out, HS1.out]; congr 1; omega, by rw [HS.out, HS2.out]; congr 1; have := HTT.out; omega⟩
            case measure => simp [intOf] <;> omega
        · obtain ⟨s1, s2⟩ := ST2.out (by omega)
          have HS1 : Hid ((2 * M + bit) / d = 2 * q) := s1
          have HS2 : Hid ((2 * M + bit) % d = 2 * r + bit) := s2
          have hq2 : q * 2 ≤ 18446744073709551615 := by have := HB.out; omega
          have hr2 : r < 9223372036854775808 := by omega
          have hTd : T < d := by have := HTT.out; omega
          have htb : (r / 9223372036854775808 == 1) = false := by simp; omega
          have HT2 : bits BinOp.or IntKind.u64 (r * 2) bit = T := by rw [← HT]; congr 1; rw [IntKind.wrap_u64]; omega
          clear s1 s2
          go_wp2
          go_round
          case rel => exact ⟨64 + m, by go_num, by omega, by rw [HS.out, HS1.out]; congr 1; omega, by rw [HS.out, HS2.out]; congr 1; have := HTT.out; omega⟩
          case measure => simp [intOf] <;> omega
end Go.Proofs.Qxb6614430aFmt
