/-
  (time.Duration).String in this dump, by contracts: it returns SOME string and turns nothing that was there. Callees first: fmtInt (12), fmtFrac (11), format (10), String (8).
-/
import Derived.Test.Qxb6609029aFmtFacts
import Derived.WalkKit
import Derived.WalkSpells
import Derived.WalkLawsBesides
namespace Go.Proofs.Qxb6609029aFmt
open Go.RowKit

/-- The 32 bytes of the array at block b: each holds a byte, none is frozen. -/
def BufOk (b : Nat) (w : World) : Prop := ∀ j, j < 32 → (∃ x : Int, w.cell? ⟨b, j, none⟩ = some (.int .u8 x)) ∧ w.frozen? ⟨b, j, none⟩ = false

theorem BufOk.store {b : Nat} {w : World} (h : BufOk b w) (j : Nat) (x : Int) : BufOk b (w.setCell ⟨b, j, none⟩ (.int .u8 x)) := by
  intro k hk
  obtain ⟨⟨y, hy⟩, hf⟩ := h k hk
  refine ⟨?_, by rw [World.frozen?_setCell]; exact hf⟩
  by_cases e : (⟨b, j, none⟩ : Addr) = ⟨b, k, none⟩
  · rw [← e] at hy ⊢; exact ⟨x, World.cell?_setCell_same w _ _ hy⟩
  · exact ⟨y, (World.cell?_setCell_other w _ _ _ e).trans hy⟩

theorem below_store {b j : Nat} {a w : World} {v : Value} (h : Below b a w) : Below b a (w.setCell ⟨b, j, none⟩ v) := Below.setCell (p := ⟨b, j, none⟩) h (Nat.le_refl _) v

theorem pow_div {v : Int} {d : Nat} (h0 : 0 < v) (hv : v < 10 ^ d) : ∃ d' : Nat, d = d' + 1 ∧ v / 10 < 10 ^ d' := by
  cases d with
  | zero => simp at hv; omega
  | succ d => refine ⟨d, rfl, ?_⟩; rw [Int.pow_succ] at hv; omega

set_option maxHeartbeats 400000 in
theorem fmtInt_any (b n cap d : Nat) (v : Int) (w : World) (hbuf : BufOk b w) (hn : n ≤ 32) (h0 : 0 ≤ v) (h18 : v ≤ 18446744073709551615) (hd1 : 1 ≤ d) (hdn : d ≤ n) (hv : v < 10 ^ d) :
    Calls Tryf.prog 12 #[.slice (some ⟨b, 0, none⟩) n cap, .int .u64 v] w fun e w' => ∃ m : Nat, e = .returned (.int .i64 m) ∧ m ≤ n ∧ n ≤ m + d ∧ BufOk b w' ∧ Below b w w' ∧ w'.heap.size = w.heap.size := by
  by_cases hz : v = 0
  · subst hz
    clear hv
    obtain ⟨⟨x, hx⟩, hf⟩ := hbuf (n - 1) (by omega)
    go_enter Tryf.func12, Tryf.ntmps12
    go_wp2
    go_ret
    exact ⟨n - 1, by go_num, by omega, by omega, hbuf.store _ _, Below.setCell (B := b) (p := ⟨b, n - 1, none⟩) (Below.refl b w) (Nat.le_refl _) _, by simp⟩
  · have hpos : 0 < v := by omega
    clear hz
    go_enter Tryf.func12, Tryf.ntmps12
    go_wp2
    go_loopw [5, 1] (fun i u wr => ∃ (m d' : Nat) (x : Int), i = .int .i64 m ∧ u = .int .u64 x ∧ 0 ≤ x ∧ x ≤ 18446744073709551615 ∧ x < 10 ^ d' ∧ m ≤ n ∧ n + d' ≤ m + d ∧ BufOk b wr ∧ Below b w wr ∧ wr.heap.size = w.heap.size) (fun _ u _ => (intOf u).toNat)
    case atStart => exact ⟨n, d, v, rfl, rfl, h0, h18, hv, by omega, by omega, hbuf, Below.refl _ _, rfl⟩
    case round =>
      obtain ⟨m, d', x, rfl, rfl, hx0, hx1, hxd, hmn, hmd, hb, hbel, hsz⟩ := hrel
      have HX : Hid (x < 10 ^ d') := hxd
      have HS : Hid (wr.heap.size = w.heap.size) := hsz
      clear hxd hv hsz
      by_cases hp : 0 < x
      · obtain ⟨d2, rfl, hx2⟩ := pow_div hp HX.out
        have HX2 : Hid (x / 10 < 10 ^ d2) := hx2
        clear hx2 HX
        obtain ⟨⟨y, hy⟩, hf⟩ := hb (m - 1) (by omega)
        go_wp2
        go_roundw
        case rel => exact ⟨m - 1, d2, x / 10, by go_num, rfl, by omega, by omega, HX2.out, by omega, by omega, hb.store _ _, hbel.setCell (Nat.le_refl _) _, by simp [HS.out]⟩
        case measure => simp [intOf]; omega
      · go_wp2
        go_ret
        exact ⟨m, rfl, hmn, by omega, hb, hbel, HS.out⟩

theorem div_step {x v : Int} {k : Nat} (h : x * 10 ^ k ≤ v) : x / 10 * 10 ^ (k + 1) ≤ v := by
  have e : x / 10 * 10 ^ (k + 1) = (x / 10 * 10) * 10 ^ k := by rw [Int.pow_succ, Int.mul_comm (10 ^ k) 10, ← Int.mul_assoc]
  have h1 : x / 10 * 10 ≤ x := by omega
  have h2 : (0 : Int) ≤ 10 ^ k := Int.pow_nonneg (by decide)
  rw [e]
  exact Int.le_trans (Int.mul_le_mul_of_nonneg_right h1 h2) h

set_option maxHeartbeats 400000 in
theorem fmtFrac_any (b n cap prec : Nat) (v : Int) (w : World) (hbuf : BufOk b w) (hn : n ≤ 32) (h0 : 0 ≤ v) (h18 : v ≤ 18446744073709551615) (hp : prec + 1 ≤ n) :
    Calls Tryf.prog 11 #[.slice (some ⟨b, 0, none⟩) n cap, .int .u64 v, .int .i64 prec] w fun e w' => ∃ (m : Nat) (u : Int), e = .returned (.tuple #[.int .i64 m, .int .u64 u]) ∧ 0 ≤ u ∧ u ≤ 18446744073709551615 ∧ u * 10 ^ prec ≤ v ∧ m ≤ n ∧ n ≤ m + prec + 1 ∧ BufOk b w' ∧ Below b w w' ∧ w'.heap.size = w.heap.size := by
  go_enter Tryf.func11, Tryf.ntmps11
  go_wp2
  go_loopw [8, 9, 10, 1] (fun i q c u wr => ∃ (m k : Nat) (p : Bool) (x : Int), i = .int .i64 m ∧ q = .bool p ∧ c = .int .i64 k ∧ u = .int .u64 x ∧ 0 ≤ x ∧ x ≤ 18446744073709551615 ∧ x * 10 ^ k ≤ v ∧ k ≤ prec ∧ m ≤ n ∧ n ≤ m + k ∧ BufOk b wr ∧ Below b w wr ∧ wr.heap.size = w.heap.size) (fun _ _ c _ _ => prec - (intOf c).toNat)
  case atStart => exact ⟨n, 0, false, v, rfl, rfl, rfl, rfl, h0, h18, by simp, by omega, by omega, by omega, hbuf, Below.refl _ _, rfl⟩
  case round =>
    obtain ⟨m, k, p, x, rfl, rfl, rfl, rfl, hx0, hx1, hxk, hkp, hmn, hmk, hb, hbel, hsz⟩ := hrel
    have HX : Hid (x * 10 ^ k ≤ v) := hxk
    have HS : Hid (wr.heap.size = w.heap.size) := hsz
    clear hxk hsz
    by_cases hlt : k < prec
    · have HX2 : Hid (x / 10 * 10 ^ (k + 1) ≤ v) := div_step HX.out
      clear HX
      obtain ⟨⟨y, hy⟩, hf⟩ := hb (m - 1) (by omega)
      cases p
      · by_cases hz : x % 10 = 0
        · go_wp2
          go_roundw
          case rel => exact ⟨m, k + 1, false, x / 10, rfl, rfl, by go_num, rfl, by omega, by omega, HX2.out, by omega, by omega, by omega, hb, hbel, HS.out⟩
          case measure => simp [intOf]; omega
        · go_wp2
          go_roundw
          case rel => exact ⟨m - 1, k + 1, true, x / 10, by go_num, by simp; omega, by go_num, rfl, by omega, by omega, HX2.out, by omega, by omega, by omega, hb.store _ _, hbel.setCell (Nat.le_refl _) _, by simp [HS.out]⟩
          case measure => simp [intOf]; omega
      · go_wp2
        go_roundw
        case rel => exact ⟨m - 1, k + 1, true, x / 10, by go_num, rfl, by go_num, rfl, by omega, by omega, HX2.out, by omega, by omega, by omega, hb.store _ _, hbel.setCell (Nat.le_refl _) _, by simp [HS.out]⟩
        case measure => simp [intOf]; omega
    · have hk : k = prec := by omega
      subst hk
      cases p
      · go_wp2
        go_ret2
        exact ⟨m, x, rfl, hx0, hx1, HX.out, hmn, by omega, hb, hbel, HS.out⟩
      · obtain ⟨⟨y, hy⟩, hf⟩ := hb (m - 1) (by omega)
        go_wp2
        go_ret2
        exact ⟨m - 1, x, by go_num, hx0, hx1, HX.out, by omega, by omega, hb.store _ _, hbel.setCell (Nat.le_refl _) _, by simp [HS.out]⟩

set_option maxHeartbeats 400000 in
theorem format_zero (b : Nat) (w : World) (hbuf : BufOk b w) :
    Calls Tryf.prog 10 #[.int .i64 0, .pointer (some ⟨b, 0, none⟩)] w fun e w' => ∃ m : Nat, e = .returned (.int .i64 m) ∧ m ≤ 32 ∧ BufOk b w' ∧ Below b w w' ∧ w'.heap.size = w.heap.size := by
  obtain ⟨⟨y, hy⟩, hf⟩ := hbuf 31 (by omega)
  obtain ⟨⟨y2, hy2⟩, hf2⟩ := hbuf 30 (by omega)
  go_enter Tryf.func10, Tryf.ntmps10
  go_wp2
  go_ret
  exact ⟨30, rfl, by omega, (hbuf.store _ _).store _ _, below_store (below_store (Below.refl b w)), by simp⟩

theorem neg_wrap (x : Int) (h1 : 1 ≤ x) (h2 : x - 1 ≤ 9223372036854775807) : IntKind.u64.wrap (-IntKind.u64.wrap (-x)) = x := by
  simp only [IntKind.wrap_u64]; omega

theorem Tryf.elem39 : Tryf.prog.underlying 39 = some (.array (Tryf.prog.arrayLen 39) (Tryf.prog.elem 39)) := by kernel_rfl
theorem Tryf.len39 : Tryf.prog.arrayLen 39 = 32 := by kernel_rfl
theorem slice_to (b m : Nat) (h : Int) (e : h = m) (hm : m ≤ 32) (W : World) : (Instr.sliceAt 39 (.pointer (some ⟨b, 0, none⟩)) none (some (.int .i64 h)) none).run Tryf.prog W = .ok (.slice (some ⟨b, 0, none⟩) m 32) W := by
  subst e
  rw [run_sliceAt_array_h W 39 ⟨b, 0, none⟩ Tryf.elem39 .i64 (m : Int) (by omega) (by rw [Tryf.len39]; omega)]
  go_simp

set_option maxHeartbeats 400000 in
theorem format_big (b : Nat) (x : Int) (w : World) (hbuf : BufOk b w) (h1 : 1000000000 ≤ x) (h2 : x - 1 ≤ 9223372036854775807) :
    Calls Tryf.prog 10 #[.int .i64 (-x), .pointer (some ⟨b, 0, none⟩)] w fun e w' => ∃ m : Nat, e = .returned (.int .i64 m) ∧ m ≤ 32 ∧ BufOk b w' ∧ Below b w w' ∧ w'.heap.size = w.heap.size := by
  obtain ⟨⟨y, hy⟩, hf⟩ := hbuf 31 (by omega)
  have hw := neg_wrap x (by omega) h2
  go_enter Tryf.func10, Tryf.ntmps10
  go_wp2_with fail
  refine (fmtFrac_any b 31 32 9 x _ (hbuf.store _ _) (by omega) (by omega) (by omega) (by omega)).mono ?_
  rintro e w1 ⟨m1, u1, rfl, hu0, hu1, hu2, hm1, hm1', hb1, hbel1, hs1⟩
  have hu3 : u1 ≤ 9223372036 := by omega
  have HB1 : Hid (Below b w w1 ∧ w1.heap.size = w.heap.size) := ⟨(below_store (Below.refl b w)).trans hbel1, by rw [hs1]; simp⟩
  clear hu2 hbel1 hs1 hy hf hw
  have hsl := slice_to b m1 m1 rfl (by omega)
  go_wp2_with fail
  refine (fmtInt_any b m1 32 2 (u1 % 60) _ hb1 (by omega) (by omega) (by omega) (by omega) (by omega) (by omega)).mono ?_
  rintro e w2 ⟨m2, rfl, hm2, hm2', hb2, hbel2, hs2⟩
  have HB2 : Hid (Below b w w2 ∧ w2.heap.size = w.heap.size) := ⟨HB1.out.1.trans hbel2, by rw [hs2, HB1.out.2]⟩
  clear hbel2 hs2 HB1 hsl
  obtain ⟨⟨y, hy⟩, hf⟩ := hb2 (m2 - 1) (by omega)
  by_cases hmin : 0 < u1 / 60
  · have hsl := slice_to b (m2 - 1) ((m2 : Int) - 1) (by omega) (by omega)
    go_wp2_with fail
    refine (fmtInt_any b (m2 - 1) 32 2 (u1 / 60 % 60) _ (hb2.store _ _) (by omega) (by omega) (by omega) (by omega) (by omega) (by omega)).mono ?_
    rintro e w3 ⟨m3, rfl, hm3, hm3', hb3, hbel3, hs3⟩
    have HB3 : Hid (Below b w w3 ∧ w3.heap.size = w.heap.size) := ⟨(below_store HB2.out.1).trans hbel3, by rw [hs3]; simp [HB2.out.2]⟩
    clear hbel3 hs3 HB2 hsl hy hf
    obtain ⟨⟨y, hy⟩, hf⟩ := hb3 (m3 - 1) (by omega)
    by_cases hhr : 0 < u1 / 60 / 60
    · have hsl := slice_to b (m3 - 1) ((m3 : Int) - 1) (by omega) (by omega)
      go_wp2_with fail
      refine (fmtInt_any b (m3 - 1) 32 7 (u1 / 60 / 60) _ (hb3.store _ _) (by omega) (by omega) (by omega) (by omega) (by omega) (by omega)).mono ?_
      rintro e w4 ⟨m4, rfl, hm4, hm4', hb4, hbel4, hs4⟩
      have HB4 : Hid (Below b w w4 ∧ w4.heap.size = w.heap.size) := ⟨(below_store HB3.out.1).trans hbel4, by rw [hs4]; simp [HB3.out.2]⟩
      clear hbel4 hs4 HB3 hsl hy hf
      obtain ⟨⟨y, hy⟩, hf⟩ := hb4 (m4 - 1) (by omega)
      go_wp2
      go_ret
      exact ⟨m4 - 1, by go_num, by omega, hb4.store _ _, below_store HB4.out.1, by simp [HB4.out.2]⟩
    · go_wp2
      go_ret
      exact ⟨m3 - 1, by go_num, by omega, hb3.store _ _, below_store HB3.out.1, by simp [HB3.out.2]⟩
  · go_wp2
    go_ret
    exact ⟨m2 - 1, by go_num, by omega, hb2.store _ _, below_store HB2.out.1, by simp [HB2.out.2]⟩
end Go.Proofs.Qxb6609029aFmt
