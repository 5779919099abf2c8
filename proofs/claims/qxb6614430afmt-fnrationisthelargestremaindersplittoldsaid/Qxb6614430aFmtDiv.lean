/-
  math/bits.Div64 (25).
-/
import Derived.Test.Qxb6614430aFmtRows
import Derived.Test.Qxb6614430aFmtShelf
import Derived.Test.Qxb6614430aFmtKnuth
import Derived.WalkKit
import Derived.WalkSpells
import Derived.WalkLawsBesides
namespace Go.Proofs.Qxb6614430aFmt
open Go.RowKit

theorem lz_at (y : Int) (s : Nat) (w : World) (h0 : 0 ≤ y) (h2 : y ≤ 18446744073709551615) (hlen : (Lib.bitLen y.toNat : Int) = 64 - s) :
    Calls Tryf.prog 26 #[.int .u64 y] w fun e w' => e = .returned (.int .i64 s) ∧ w' = w := by
  refine (Tryf.bits_LeadingZeros64 y w h0 h2).mono ?_
  rintro e w' ⟨rfl, rfl⟩
  rw [hlen]
  exact ⟨by congr 2; omega, rfl⟩

/-- All that the walk of Div64 is told of its numbers. -/
structure DivFacts (hi lo y Y a b u v d1 d0 qa Q1 R1 qb Q0 R0 : Int) (s : Nat) : Prop where
  s63 : s ≤ 63
  hY : IntKind.u64.wrap (y * 2 ^ s) = Y
  hU : bits BinOp.or IntKind.u64 (IntKind.u64.wrap (hi * 2 ^ s)) (lo / 2 ^ (64 - s)) = u
  hV : IntKind.u64.wrap (lo * 2 ^ s) = v
  ha : Y / 4294967296 = a
  hb : bits BinOp.and IntKind.u64 Y 4294967295 = b
  hd1 : v / 4294967296 = d1
  hd0 : bits BinOp.and IntKind.u64 v 4294967295 = d0
  Y0 : 9223372036854775808 ≤ Y
  Y1 : Y ≤ 18446744073709551615
  u0 : 0 ≤ u
  u1 : u < Y
  v0 : 0 ≤ v
  v1 : v ≤ 18446744073709551615
  a0 : 2147483648 ≤ a
  a1 : a ≤ 4294967295
  b0 : 0 ≤ b
  b1 : b ≤ 4294967295
  d10 : 0 ≤ d1
  d11 : d1 ≤ 4294967295
  d00 : 0 ≤ d0
  d01 : d0 ≤ 4294967295
  hs : Y = a * 4294967296 + b
  hqa : u / a = qa
  dig1 : IsDigit Y u d1 Q1
  Q10 : 0 ≤ Q1
  Q11 : Q1 ≤ 4294967295
  hR1 : u * 4294967296 + d1 = Q1 * Y + R1
  hqb : R1 / a = qb
  dig0 : IsDigit Y R1 d0 Q0
  Q00 : 0 ≤ Q0
  Q01 : Q0 ≤ 4294967295
  hR0 : R1 * 4294967296 + d0 = Q0 * Y + R0

theorem wrap_rem {u d Q Y R : Int} (h : u * 4294967296 + d = Q * Y + R) (h0 : 0 ≤ R) (h1 : R ≤ 18446744073709551615) :
    IntKind.u64.wrap (IntKind.u64.wrap (IntKind.u64.wrap (u * 4294967296) + d) - IntKind.u64.wrap (Q * Y)) = R := by
  simp only [IntKind.wrap_u64]; omega

set_option maxHeartbeats 4000000 in
theorem div64_walk (hi lo y Y a b u v d1 d0 qa Q1 R1 qb Q0 R0 : Int) (s : Nat) (w : World) (h0 : 1 ≤ hi) (h1 : hi < y) (h2 : y ≤ 18446744073709551615)
    (hlen : (Lib.bitLen y.toNat : Int) = 64 - s) (D : DivFacts hi lo y Y a b u v d1 d0 qa Q1 R1 qb Q0 R0 s) :
    Calls Tryf.prog 25 #[.int .u64 hi, .int .u64 lo, .int .u64 y] w fun e w' => e = .returned (.tuple #[.int .u64 (Q1 * 4294967296 + Q0), .int .u64 (R0 / 2 ^ s)]) ∧ w' = w := by
  have LZ := lz_at y s w (by omega) h2 hlen
  clear hlen
  have s63 := D.s63; have hY := D.hY; have hU := D.hU; have hV := D.hV; have ha := D.ha; have hb := D.hb; have hd1 := D.hd1; have hd0 := D.hd0
  have Y0 := D.Y0; have Y1 := D.Y1; have u0 := D.u0; have u1 := D.u1; have v0 := D.v0; have v1 := D.v1; have a0 := D.a0; have a1 := D.a1; have b0 := D.b0; have b1 := D.b1
  have d10 := D.d10; have d11 := D.d11; have hqa := D.hqa
  obtain ⟨e1, e2, e3, e4, e5⟩ := est_bound D.hs u0 u1 a0 b1
  have ege := est_ge D.dig1 D.hs D.Q10 a0 b0 d11
  rw [hqa] at e1 e2 e3 e4 e5 ege
  go_enter Tryf.func25, Tryf.ntmps25
  go_wp2_with (first | (go_at_call 26; refine LZ.mono ?_; clear LZ; rintro e w' ⟨rfl, hw⟩; obtain rfl := hw.symm))
  clear hY hU hV ha hb hd1 hd0 v0 v1 hqa
  go_loop [15, 16] (fun t15 t16 => ∃ q r : Int, t15 = .int .u64 q ∧ t16 = .int .u64 r ∧ Q1 ≤ q ∧ q ≤ 4294967297 ∧ r = u - q * a ∧ 0 ≤ r ∧ r ≤ 4294967295) (fun t15 _ => (intOf t15).toNat)
  case atStart => exact ⟨qa, u - qa * a, by rw [D.hqa], rfl, ege, e2, rfl, by omega, by omega⟩
  case round =>
    obtain ⟨q, r, rfl, rfl, hq1, hq2, hr, hr0, hr1⟩ := hrel
    have HR : Hid (r = u - q * a) := hr
    have Q10 := D.Q10
    clear hr e1 e2 e3 e4 e5 ege
    by_cases c1 : 4294967296 ≤ q
    · have hgt : Q1 < q := by have := D.Q11; omega
      by_cases br : 4294967296 ≤ r + a
      · have hle := break_le (q := q - 1) (r := r + a) D.dig1 (by omega) D.hs (by rw [Int.sub_mul, HR.out]; omega) (by omega) (by omega) b0 b1 d10 br
        obtain rfl : q = Q1 + 1 := by omega
        have R10 : 0 ≤ R1 := by have := D.dig1.1; have := D.hR1; omega
        have R11 : R1 < Y := by have := D.dig1.2; rw [Int.add_mul] at this; have := D.hR1; omega
        have hW1 := wrap_rem D.hR1 R10 (by omega)
        obtain ⟨g1, g2, g3, g4, g5⟩ := est_bound D.hs R10 R11 a0 b1
        have gge := est_ge D.dig0 D.hs D.Q00 a0 b0 D.d01
        have hqb := D.hqb
        rw [hqb] at g1 g2 g3 g4 g5 gge
        have Q11 := D.Q11; have Q00 := D.Q00; have Q01 := D.Q01; have d00 := D.d00; have d01 := D.d01
        go_wp2_with fail
        clear hW1 hqb
        go_loop [18, 16] (fun t18 t16 => ∃ q r : Int, t18 = .int .u64 q ∧ t16 = .int .u64 r ∧ Q0 ≤ q ∧ q ≤ 4294967297 ∧ r = R1 - q * a ∧ 0 ≤ r ∧ r ≤ 4294967295) (fun t18 _ => (intOf t18).toNat)
        case atStart => exact ⟨qb, R1 - qb * a, rfl, rfl, gge, g2, rfl, by omega, by omega⟩
        case round =>
          obtain ⟨q, r, rfl, rfl, hq1, hq2, hr, hr0, hr1⟩ := hrel
          have HR : Hid (r = R1 - q * a) := hr
          have R00 : 0 ≤ R0 := by have := D.dig0.1; have := D.hR0; omega
          have R01 : R0 < Y := by have := D.dig0.2; rw [Int.add_mul] at this; have := D.hR0; omega
          have hW0 := wrap_rem D.hR0 R00 (by omega)
          clear hr g1 g2 g3 g4 g5 gge
          by_cases c1 : 4294967296 ≤ q
          · have hgt : Q0 < q := by omega
            by_cases br : 4294967296 ≤ r + a
            · have hle := break_le (q := q - 1) (r := r + a) D.dig0 (by omega) D.hs (by rw [Int.sub_mul, HR.out]; omega) (by omega) (by omega) b0 b1 d00 br
              obtain rfl : q = Q0 + 1 := by omega
              go_wp2
              go_ret2
              exact ⟨rfl, rfl⟩
            · go_wp2
              go_round
              case rel => exact ⟨q - 1, r + a, rfl, rfl, by omega, by omega, by rw [Int.sub_mul, HR.out]; omega, by omega, by omega⟩
              case measure => simp [intOf]; omega
          · have mb := mul_bound (q := q) (b := b) (by omega) (by omega) b0 b1
            obtain ⟨m0, m1⟩ := mb
            by_cases c2 : 4294967296 * r + d0 < q * b
            · have hgt : Q0 < q := test_gt D.dig0 (by omega) D.hs HR.out c2
              by_cases br : 4294967296 ≤ r + a
              · have hle := break_le (q := q - 1) (r := r + a) D.dig0 (by omega) D.hs (by rw [Int.sub_mul, HR.out]; omega) (by omega) (by omega) b0 b1 d00 br
                obtain rfl : q = Q0 + 1 := by omega
                go_wp2
                go_ret2
                exact ⟨rfl, rfl⟩
              · go_wp2
                go_round
                case rel => exact ⟨q - 1, r + a, rfl, rfl, by omega, by omega, by rw [Int.sub_mul, HR.out]; omega, by omega, by omega⟩
                case measure => simp [intOf]; omega
            · have hle := test_le D.dig0 (by omega) D.hs HR.out (by omega)
              obtain rfl : q = Q0 := by omega
              go_wp2
              go_ret2
              exact ⟨rfl, rfl⟩
      · go_wp2
        go_round
        case rel => exact ⟨q - 1, r + a, rfl, rfl, by omega, by omega, by rw [Int.sub_mul, HR.out]; omega, by omega, by omega⟩
        case measure => simp [intOf]; omega
    · have mb := mul_bound (q := q) (b := b) (by omega) (by omega) b0 b1
      obtain ⟨m0, m1⟩ := mb
      by_cases c2 : 4294967296 * r + d1 < q * b
      · have hgt : Q1 < q := test_gt D.dig1 (by omega) D.hs HR.out c2
        by_cases br : 4294967296 ≤ r + a
        · have hle := break_le (q := q - 1) (r := r + a) D.dig1 (by omega) D.hs (by rw [Int.sub_mul, HR.out]; omega) (by omega) (by omega) b0 b1 d10 br
          obtain rfl : q = Q1 + 1 := by omega
          have R10 : 0 ≤ R1 := by have := D.dig1.1; have := D.hR1; omega
          have R11 : R1 < Y := by have := D.dig1.2; rw [Int.add_mul] at this; have := D.hR1; omega
          have hW1 := wrap_rem D.hR1 R10 (by omega)
          obtain ⟨g1, g2, g3, g4, g5⟩ := est_bound D.hs R10 R11 a0 b1
          have gge := est_ge D.dig0 D.hs D.Q00 a0 b0 D.d01
          have hqb := D.hqb
          rw [hqb] at g1 g2 g3 g4 g5 gge
          have Q11 := D.Q11; have Q00 := D.Q00; have Q01 := D.Q01; have d00 := D.d00; have d01 := D.d01
          go_wp2_with fail
          clear hW1 hqb
          go_loop [18, 16] (fun t18 t16 => ∃ q r : Int, t18 = .int .u64 q ∧ t16 = .int .u64 r ∧ Q0 ≤ q ∧ q ≤ 4294967297 ∧ r = R1 - q * a ∧ 0 ≤ r ∧ r ≤ 4294967295) (fun t18 _ => (intOf t18).toNat)
          case atStart => exact ⟨qb, R1 - qb * a, rfl, rfl, gge, g2, rfl, by omega, by omega⟩
          case round =>
            obtain ⟨q, r, rfl, rfl, hq1, hq2, hr, hr0, hr1⟩ := hrel
            have HR : Hid (r = R1 - q * a) := hr
            have R00 : 0 ≤ R0 := by have := D.dig0.1; have := D.hR0; omega
            have R01 : R0 < Y := by have := D.dig0.2; rw [Int.add_mul] at this; have := D.hR0; omega
            have hW0 := wrap_rem D.hR0 R00 (by omega)
            clear hr g1 g2 g3 g4 g5 gge
            by_cases c1 : 4294967296 ≤ q
            · have hgt : Q0 < q := by omega
              by_cases br : 4294967296 ≤ r + a
              · have hle := break_le (q := q - 1) (r := r + a) D.dig0 (by omega) D.hs (by rw [Int.sub_mul, HR.out]; omega) (by omega) (by omega) b0 b1 d00 br
                obtain rfl : q = Q0 + 1 := by omega
                go_wp2
                go_ret2
                exact ⟨rfl, rfl⟩
              · go_wp2
                go_round
                case rel => exact ⟨q - 1, r + a, rfl, rfl, by omega, by omega, by rw [Int.sub_mul, HR.out]; omega, by omega, by omega⟩
                case measure => simp [intOf]; omega
            · have mb := mul_bound (q := q) (b := b) (by omega) (by omega) b0 b1
              obtain ⟨m0, m1⟩ := mb
              by_cases c2 : 4294967296 * r + d0 < q * b
              · have hgt : Q0 < q := test_gt D.dig0 (by omega) D.hs HR.out c2
                by_cases br : 4294967296 ≤ r + a
                · have hle := break_le (q := q - 1) (r := r + a) D.dig0 (by omega) D.hs (by rw [Int.sub_mul, HR.out]; omega) (by omega) (by omega) b0 b1 d00 br
                  obtain rfl : q = Q0 + 1 := by omega
                  go_wp2
                  go_ret2
                  exact ⟨rfl, rfl⟩
                · go_wp2
                  go_round
                  case rel => exact ⟨q - 1, r + a, rfl, rfl, by omega, by omega, by rw [Int.sub_mul, HR.out]; omega, by omega, by omega⟩
                  case measure => simp [intOf]; omega
              · have hle := test_le D.dig0 (by omega) D.hs HR.out (by omega)
                obtain rfl : q = Q0 := by omega
                go_wp2
                go_ret2
                exact ⟨rfl, rfl⟩
        · go_wp2
          go_round
          case rel => exact ⟨q - 1, r + a, rfl, rfl, by omega, by omega, by rw [Int.sub_mul, HR.out]; omega, by omega, by omega⟩
          case measure => simp [intOf]; omega
      · have hle := test_le D.dig1 (by omega) D.hs HR.out (by omega)
        obtain rfl : q = Q1 := by omega
        have R10 : 0 ≤ R1 := by have := D.dig1.1; have := D.hR1; omega
        have R11 : R1 < Y := by have := D.dig1.2; rw [Int.add_mul] at this; have := D.hR1; omega
        have hW1 := wrap_rem D.hR1 R10 (by omega)
        obtain ⟨g1, g2, g3, g4, g5⟩ := est_bound D.hs R10 R11 a0 b1
        have gge := est_ge D.dig0 D.hs D.Q00 a0 b0 D.d01
        have hqb := D.hqb
        rw [hqb] at g1 g2 g3 g4 g5 gge
        have Q11 := D.Q11; have Q00 := D.Q00; have Q01 := D.Q01; have d00 := D.d00; have d01 := D.d01
        go_wp2_with fail
        clear hW1 hqb
        go_loop [18, 16] (fun t18 t16 => ∃ q r : Int, t18 = .int .u64 q ∧ t16 = .int .u64 r ∧ Q0 ≤ q ∧ q ≤ 4294967297 ∧ r = R1 - q * a ∧ 0 ≤ r ∧ r ≤ 4294967295) (fun t18 _ => (intOf t18).toNat)
        case atStart => exact ⟨qb, R1 - qb * a, rfl, rfl, gge, g2, rfl, by omega, by omega⟩
        case round =>
          obtain ⟨q, r, rfl, rfl, hq1, hq2, hr, hr0, hr1⟩ := hrel
          have HR : Hid (r = R1 - q * a) := hr
          have R00 : 0 ≤ R0 := by have := D.dig0.1; have := D.hR0; omega
          have R01 : R0 < Y := by have := D.dig0.2; rw [Int.add_mul] at this; have := D.hR0; omega
          have hW0 := wrap_rem D.hR0 R00 (by omega)
          clear hr g1 g2 g3 g4 g5 gge
          by_cases c1 : 4294967296 ≤ q
          · have hgt : Q0 < q := by omega
            by_cases br : 4294967296 ≤ r + a
            · have hle := break_le (q := q - 1) (r := r + a) D.dig0 (by omega) D.hs (by rw [Int.sub_mul, HR.out]; omega) (by omega) (by omega) b0 b1 d00 br
              obtain rfl : q = Q0 + 1 := by omega
              go_wp2
              go_ret2
              exact ⟨rfl, rfl⟩
            · go_wp2
              go_round
              case rel => exact ⟨q - 1, r + a, rfl, rfl, by omega, by omega, by rw [Int.sub_mul, HR.out]; omega, by omega, by omega⟩
              case measure => simp [intOf]; omega
          · have mb := mul_bound (q := q) (b := b) (by omega) (by omega) b0 b1
            obtain ⟨m0, m1⟩ := mb
            by_cases c2 : 4294967296 * r + d0 < q * b
            · have hgt : Q0 < q := test_gt D.dig0 (by omega) D.hs HR.out c2
              by_cases br : 4294967296 ≤ r + a
              · have hle := break_le (q := q - 1) (r := r + a) D.dig0 (by omega) D.hs (by rw [Int.sub_mul, HR.out]; omega) (by omega) (by omega) b0 b1 d00 br
                obtain rfl : q = Q0 + 1 := by omega
                go_wp2
                go_ret2
                exact ⟨rfl, rfl⟩
              · go_wp2
                go_round
                case rel => exact ⟨q - 1, r + a, rfl, rfl, by omega, by omega, by rw [Int.sub_mul, HR.out]; omega, by omega, by omega⟩
                case measure => simp [intOf]; omega
            · have hle := test_le D.dig0 (by omega) D.hs HR.out (by omega)
              obtain rfl : q = Q0 := by omega
              go_wp2
              go_ret2
              exact ⟨rfl, rfl⟩
end Go.Proofs.Qxb6614430aFmt
