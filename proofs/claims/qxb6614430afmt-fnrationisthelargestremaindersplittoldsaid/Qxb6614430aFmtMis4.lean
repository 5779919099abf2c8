/-
  missingCents (18), the walk.
-/
import Derived.Test.Qxb6614430aFmtMis3
namespace Go.Proofs.Qxb6614430aFmt
open Go.RowKit

theorem finish {w : World} {rb bsl : Nat} {ao : Option Addr} {cap : Nat} {zs : List Int} {S A : Int} {bs : Nat} {wr : World} {F Pp P μ : Int} {e K : Nat} (G : Given w rb bsl ao cap zs S A)
    (h : Head w w.heap.size bs rb wr F Pp e) (c2 : w.cell? ⟨rb, 2, none⟩ = some (.int .u64 18446744073709551615)) (c3 : w.cell? ⟨rb, 3, none⟩ = some (.int .u64 0)) (hP0 : 0 ≤ P)
    (HK : S ≤ 2 ^ (16 * K) ∧ (K = 0 ↔ S = 1)) (hor : (0 = K ∧ P = 0 ∧ μ = 0) ∨ (0 < K ∧ Inv A S zs (A - partSum A S zs) (16 * 0) P μ)) :
    Below rb w ((wr.setCell ⟨rb, 2, none⟩ (.int .u64 P)).setCell ⟨rb, 3, none⟩ (.int .u64 μ)).drew ∧ ∃ least ties, Rat A S zs least ties ∧
      ((wr.setCell ⟨rb, 2, none⟩ (.int .u64 P)).setCell ⟨rb, 3, none⟩ (.int .u64 μ)).drew.cell? ⟨rb, 0, none⟩ = some (.int .u64 S) ∧
      ((wr.setCell ⟨rb, 2, none⟩ (.int .u64 P)).setCell ⟨rb, 3, none⟩ (.int .u64 μ)).drew.cell? ⟨rb, 1, none⟩ = some (.int .u64 A) ∧
      ((wr.setCell ⟨rb, 2, none⟩ (.int .u64 P)).setCell ⟨rb, 3, none⟩ (.int .u64 μ)).drew.cell? ⟨rb, 2, none⟩ = some (.int .u64 least) ∧
      ((wr.setCell ⟨rb, 2, none⟩ (.int .u64 P)).setCell ⟨rb, 3, none⟩ (.int .u64 μ)).drew.cell? ⟨rb, 3, none⟩ = some (.int .u64 ties) := by
  have hrb := G.rbl
  have S0 : 0 < S := by have := G.A0; have := G.AS; omega
  have k0 : wr.cell? ⟨rb, 0, none⟩ = some (.int .u64 S) := by rw [h.bel.cell (p := ⟨rb, 0, none⟩) hrb]; exact G.cS
  have k1 : wr.cell? ⟨rb, 1, none⟩ = some (.int .u64 A) := by rw [h.bel.cell (p := ⟨rb, 1, none⟩) hrb]; exact G.cA
  have k2 : wr.cell? ⟨rb, 2, none⟩ = some (.int .u64 18446744073709551615) := by rw [h.bel.cell (p := ⟨rb, 2, none⟩) hrb]; exact c2
  have k3 : wr.cell? ⟨rb, 3, none⟩ = some (.int .u64 0) := by rw [h.bel.cell (p := ⟨rb, 3, none⟩) hrb]; exact c3
  have off : ∀ (W : World) (i j : Nat) (v : Value), i ≠ j → (W.setCell ⟨rb, i, none⟩ v).cell? ⟨rb, j, none⟩ = W.cell? ⟨rb, j, none⟩ := fun W i j v hne =>
    World.cell?_setCell_other _ _ _ _ (fun e2 => by have := congrArg Addr.off e2; simp at this; omega)
  have b1 : Below rb w wr := h.bel.mono (by omega)
  refine ⟨(Below.setCell (p := ⟨rb, 3, none⟩) (Below.setCell (p := ⟨rb, 2, none⟩) b1 (Nat.le_refl _) _) (Nat.le_refl _) _).drew, P, μ, ?_, ?_, ?_, ?_, ?_⟩
  · rcases hor with ⟨h1, h2, h3⟩ | ⟨h1, h2⟩
    · exact Or.inl ⟨HK.2.1 h1.symm, h2, h3⟩
    · have h4 := inv_word h2 S0 G.S1
      obtain ⟨i1, i2, i3⟩ := h2
      have hb := ge_bd A S zs (16 * 0) (P + 1)
      refine Or.inr (Or.inr ⟨by omega, hP0, by simpa using h4, i1, i2, i3⟩)
  · show ((wr.setCell ⟨rb, 2, none⟩ (.int .u64 P)).setCell ⟨rb, 3, none⟩ (.int .u64 μ)).cell? _ = _
    rw [off _ _ _ _ (by decide), off _ _ _ _ (by decide)]; exact k0
  · show ((wr.setCell ⟨rb, 2, none⟩ (.int .u64 P)).setCell ⟨rb, 3, none⟩ (.int .u64 μ)).cell? _ = _
    rw [off _ _ _ _ (by decide), off _ _ _ _ (by decide)]; exact k1
  · show ((wr.setCell ⟨rb, 2, none⟩ (.int .u64 P)).setCell ⟨rb, 3, none⟩ (.int .u64 μ)).cell? _ = _
    rw [off _ _ _ _ (by decide)]
    exact World.cell?_setCell_same _ _ _ k2
  · show ((wr.setCell ⟨rb, 2, none⟩ (.int .u64 P)).setCell ⟨rb, 3, none⟩ (.int .u64 μ)).cell? _ = _
    exact World.cell?_setCell_same _ _ _ (u := .int .u64 0) (by rw [off _ _ _ _ (by decide)]; exact k3)

theorem CutVars.drew {B br bg bf bp bc bs rb : Nat} {S A : Int} {W : World} {g f p : Int} {sh : Nat} {cnt : Nat → Int} (h : CutVars B br bg bf bp bc bs rb S A W g f p sh cnt) : CutVars B br bg bf bp bc bs rb S A W.drew g f p sh cnt :=
  ⟨h.r, h.g, h.f, h.p, h.s, h.S, h.A, h.gf, h.ff, h.pf, h.sf, h.c, h.gr, h.gF, h.gp, h.gs, h.gR, h.gc, h.cr, h.cF, h.cp, h.cs, h.cR, h.Bg, h.Bc⟩

/-- The first digit that is looked at. -/
theorem digit_start {A S : Int} {zs : List Int} {M : Int} {e : Nat} {P μ : Int} (h : Inv A S zs M (e + 16) P μ) : M = μ + ge A S zs e (P * 65536 + (65535 : Nat) + 1) := by
  obtain ⟨-, h2, -⟩ := h
  have : P * 65536 + ((65535 : Nat) : Int) + 1 = (P + 1) * 65536 := by omega
  rw [this, ge_scale]
  exact h2

theorem digit_pos {A S : Int} {zs : List Int} {M : Int} {e : Nat} {P μ v : Int} {n : Nat} (h : Inv A S zs M (e + 16) P μ) (hn : n < 65536) (hv : M = v + ge A S zs e (P * 65536 + n + 1))
    (hc : cntOf (fun x => x * A % S / 2 ^ (e + 16) == P) (fun x => (x * A % S / 2 ^ e % 65536).toNat) zs n < v) : ∃ k, n = k + 1 ∧ M = (v - cntOf (fun x => x * A % S / 2 ^ (e + 16) == P) (fun x => (x * A % S / 2 ^ e % 65536).toNat) zs n) + ge A S zs e (P * 65536 + k + 1) := by
  obtain ⟨-, -, h3⟩ := h
  rw [cnt_ge A S e P n hn] at hc ⊢
  cases n with
  | zero =>
    have h4 := ge_scale A S zs e P
    have h5 : P * 65536 + ((0 : Nat) : Int) = P * 65536 := by omega
    rw [h5] at hv hc
    omega
  | succ k =>
    refine ⟨k, rfl, ?_⟩
    have h5 : P * 65536 + ((k + 1 : Nat) : Int) = P * 65536 + (k : Int) + 1 := by omega
    rw [h5] at hv ⊢
    omega

theorem inv_start {A S : Int} {zs : List Int} {K : Nat} (hS : 0 < S) (hsum : zs.sum = S) (hSK : S ≤ 2 ^ (16 * K)) (hM : A - partSum A S zs ≠ 0) : Inv A S zs (A - partSum A S zs) (16 * K) 0 (A - partSum A S zs) := by
  have hmb := missing_bd A S zs hS hsum
  have hcut : ∀ x : Int, 0 ≤ x * A % S ∧ x * A % S < S := fun x => ⟨Int.emod_nonneg _ (by omega), Int.emod_lt_of_pos _ hS⟩
  have g1 : ge A S zs (16 * K) (0 + 1) = 0 := ge_one A S zs _ (fun x _ => ⟨(hcut x).1, by have := (hcut x).2; omega⟩)
  have g0 : ge A S zs (16 * K) 0 = zs.length := ge_zero A S zs _ (fun x _ => (hcut x).1)
  exact ⟨by omega, by omega, by omega⟩

set_option maxHeartbeats 4000000 in
theorem missing_any (rb bsl cap : Nat) (ao : Option Addr) (zs : List Int) (S A : Int) (w : World) (G : Given w rb bsl ao cap zs S A)
    (c2 : w.cell? ⟨rb, 2, none⟩ = some (.int .u64 18446744073709551615)) (c3 : w.cell? ⟨rb, 3, none⟩ = some (.int .u64 0)) (fz2 : w.frozen? ⟨rb, 2, none⟩ = false) (fz3 : w.frozen? ⟨rb, 3, none⟩ = false) :
    Calls Tryf.prog 18 #[.pointer (some ⟨rb, 0, none⟩), .func (.func 13) #[] #[.pointer (some ⟨bsl, 0, none⟩)]] w fun e w' => e = .returned .nilIface ∧ Below rb w w' ∧
      ∃ least ties, Rat A S zs least ties ∧ w'.cell? ⟨rb, 0, none⟩ = some (.int .u64 S) ∧ w'.cell? ⟨rb, 1, none⟩ = some (.int .u64 A) ∧ w'.cell? ⟨rb, 2, none⟩ = some (.int .u64 least) ∧ w'.cell? ⟨rb, 3, none⟩ = some (.int .u64 ties) := by
  obtain ⟨Z, hZ, hZ0⟩ := zeros_ex
  have hal := zero50 hZ
  have HZ : Hid (∀ j, j < 65536 → Z[j]? = some (.int .u64 0)) := hZ0
  have S0 : 0 < S := by have := G.A0; have := G.AS; omega
  have S1 := G.S1
  obtain ⟨K, hK4, hKL, hSK, hK1⟩ := digits_of S (by omega) S1
  have cS := G.cS
  have hrb := G.rbl
  have HL := Tryf.bits_Len64 (S - 1) ((((w.alloc (.cells #[.pointer (some ⟨rb, 0, none⟩)] 24)).alloc (.cells Z 50)).alloc (.cells #[.int .u64 0] 29)).alloc (.cells #[.int .u64 0] 29)) (by omega) (by omega)
  obtain ⟨L, hL⟩ : ∃ L : Int, L = (Lib.bitLen (S - 1).toNat : Int) := ⟨_, rfl⟩
  rw [← hL] at HL hKL
  have hL0 : 0 ≤ L := by omega
  have hL1 : L ≤ 64 := by
    have := Lib.bitLenAux_le 64 (S - 1).toNat 64 (word_lt S (by omega) S1)
    have h2 : (Lib.bitLen (S - 1).toNat : Nat) ≤ 64 := this
    omega
  rw [Int.tdiv_eq_ediv_of_nonneg (by omega)] at hKL
  have HG : Hid (Given w rb bsl ao cap zs S A) := G
  have HC : Hid (w.cell? ⟨rb, 2, none⟩ = some (.int .u64 18446744073709551615) ∧ w.cell? ⟨rb, 3, none⟩ = some (.int .u64 0) ∧ w.frozen? ⟨rb, 2, none⟩ = false ∧ w.frozen? ⟨rb, 3, none⟩ = false) := ⟨c2, c3, fz2, fz3⟩
  have HK : Hid (S ≤ 2 ^ (16 * K) ∧ (K = 0 ↔ S = 1)) := ⟨hSK, hK1⟩
  clear G hZ hZ0 c2 c3 fz2 fz3 hSK hK1 hL
  have hrb1 : rb < w.heap.size + 1 := by omega
  have hrb2 : rb < w.heap.size + 1 + 1 := by omega
  have hrb3 : rb < w.heap.size + 1 + 1 + 1 := by omega
  go_enter Tryf.func18, Tryf.ntmps18
  go_wp2_with (first | (go_at_call 21; refine HL.mono ?_; clear HL; rintro e w' ⟨rfl, rfl⟩))
  go_loopw [9, 6] (fun t9 t6 wr => ∃ (bs m : Nat) (P μ : Int), t9 = .pointer (some ⟨bs, 0, none⟩) ∧ t6 = .int .u64 μ ∧ m ≤ K ∧ Head w w.heap.size bs rb wr (2 ^ (16 * K) - 2 ^ (16 * m)) (P * 2 ^ (16 * m)) (16 * m) ∧ 0 ≤ P ∧ ((m = K ∧ P = 0 ∧ μ = 0) ∨ (m < K ∧ Inv A S zs (A - partSum A S zs) (16 * m) P μ))) (fun t9 _ wr => valAt wr t9)
  case atStart =>
    refine ⟨w.heap.size + 4, K, 0, 0, rfl, rfl, Nat.le_refl _, ?_, by omega, Or.inl ⟨rfl, rfl, rfl⟩⟩
    have := start_head (w := w) (rb := rb) HZ (16 * K)
    simpa using this
  case round =>
    obtain ⟨bs, m, P, ν, rfl, rfl, hmK, HH, hP0, hor⟩ := hrel
    cases m with
    | zero =>
      have cR := HH.r
      have cS2 : wr.cell? ⟨w.heap.size + 1 + 1, 0, none⟩ = some (.int .u64 P) := by have := HH.p; simpa using this
      have cSh : wr.cell? ⟨bs, 0, none⟩ = some (.int .i64 0) := by have := HH.s; simpa using this
      have cr2 : wr.cell? ⟨rb, 2, none⟩ = some (.int .u64 18446744073709551615) := by rw [HH.bel.cell (p := ⟨rb, 2, none⟩) hrb]; exact HC.1
      have cr3 : wr.cell? ⟨rb, 3, none⟩ = some (.int .u64 0) := by rw [HH.bel.cell (p := ⟨rb, 3, none⟩) hrb]; exact HC.2.1
      have cf2 : wr.frozen? ⟨rb, 2, none⟩ = false := by rw [HH.bel.frozen (p := ⟨rb, 2, none⟩) hrb]; exact HC.2.2.1
      have cf3 : wr.frozen? ⟨rb, 3, none⟩ = false := by rw [HH.bel.frozen (p := ⟨rb, 3, none⟩) hrb]; exact HC.2.2.2
      have HHH : Hid (Head w w.heap.size bs rb wr (2 ^ (16 * K) - 2 ^ (16 * 0)) (P * 2 ^ (16 * 0)) (16 * 0)) := HH
      have HO : Hid ((0 = K ∧ P = 0 ∧ ν = 0) ∨ (0 < K ∧ Inv A S zs (A - partSum A S zs) (16 * 0) P ν)) := hor
      clear HH hor hal
      go_wp2
      go_region
      all_goals go_wp2
      go_ret
      exact ⟨rfl, finish HG HHH HC.1 HC.2.1 hP0 HK HO⟩
    | succ m =>
      obtain ⟨e, he⟩ : ∃ e, e = 16 * m := ⟨_, rfl⟩
      have he2 : 16 * (m + 1) = e + 16 := by omega
      rw [he2] at HH hor
      obtain ⟨F, hF⟩ : ∃ F : Int, F = 2 ^ (16 * K) - 2 ^ (e + 16) := ⟨_, rfl⟩
      obtain ⟨Pp, hPp⟩ : ∃ Pp : Int, Pp = P * 2 ^ (e + 16) := ⟨_, rfl⟩
      rw [← hF, ← hPp] at HH
      have hF0 : (F == 0) = decide (m + 1 = K) := by rw [hF, ← he2]; exact found_zero K (m + 1) hmK hK4
      obtain ⟨W2, hclear, HA⟩ := pass HG HH hF hPp (by omega) hK4 HK.1
      have he63 : e ≤ 48 := by omega
      have cSh : wr.cell? ⟨bs, 0, none⟩ = some (.int .i64 (e + 16 : Nat)) := HH.s
      have cShf := HH.sf
      obtain ⟨g, hg⟩ : ∃ g, g = partSum A S zs := ⟨_, rfl⟩
      have hmb := missing_bd A S zs S0 (Given.sum HG)
      rw [← hg] at HA hmb
      have hA0 := Given.A0 HG
      have hA1 := Given.A1 HG
      have hlen := Given.len HG
      have hlo := HH.lo
      have HHm : Hid (m + 1 ≤ K ∧ F = 2 ^ (16 * K) - 2 ^ (e + 16) ∧ Pp = P * 2 ^ (e + 16) ∧ g = partSum A S zs ∧ e = 16 * m) := ⟨hmK, hF, hPp, hg, he⟩
      clear HH hF hPp hg he he2 hmK hal
      rcases Classical.em (m + 1 = K) with hfirst | hfirst
      case' inl =>
        have hF1 : (F == 0) = true := by rw [hF0]; simp [hfirst]
        clear hF0
        have hP1 : P = 0 := by
          rcases hor with h1 | h1
          · exact h1.2.1
          · omega
        clear hor
        obtain ⟨M, hM⟩ : ∃ M, A - g = M := ⟨_, rfl⟩
        have hM0 : 0 ≤ M := by omega
        have hM1 : M ≤ 4096 := by omega
        rcases Classical.em (M = 0) with hMz | hMz
        case' inl =>
          have hMb : (M == 0) = true := by simp [hMz]
          go_wp2_with (first | (go_at_call 13; refine HA.mono ?_; clear HA hclear; rintro x w2 ⟨rfl, CV, BL⟩; have cR := CutVars.r CV; have cF : w2.cell? ⟨w.heap.size + 1 + 1 + 1, 0, none⟩ = some (.int .u64 F) := CutVars.f CV; have cA := CutVars.A CV; have cG := CutVars.g CV))
          go_region
          all_goals go_wp2
          go_ret
          refine ⟨rfl, (Below.mono BL (by omega)).drew, 18446744073709551615, 0, Or.inr (Or.inl ⟨?_, ?_, rfl, rfl⟩), ?_, ?_, ?_, ?_⟩
          · intro hS1
            have := HK.2.2 hS1
            omega
          · rw [← HHm.2.2.2.1, hM, hMz]
          · exact CutVars.S (CutVars.drew CV)
          · exact CutVars.A (CutVars.drew CV)
          · exact (BL.cell (p := ⟨rb, 2, none⟩) hrb).trans HC.1
          · exact (BL.cell (p := ⟨rb, 3, none⟩) hrb).trans HC.2.1
        have hMb : (M == 0) = false := by simp [hMz]
        have HI : Hid (Inv A S zs (A - partSum A S zs) (e + 16) P M) := by
          have := inv_start S0 (Given.sum HG) HK.1 (by rw [← HHm.2.2.2.1, hM]; exact hMz)
          rw [hP1, HHm.2.2.2.2, ← hM, HHm.2.2.2.1, show 16 * m + 16 = 16 * K from by omega]
          exact this
        go_wp2_with (first | (go_at_call 13; refine HA.mono ?_; clear HA hclear; rintro x w2 ⟨rfl, CV0, BL0⟩; have cR := CutVars.r CV0; have cF : w2.cell? ⟨w.heap.size + 1 + 1 + 1, 0, none⟩ = some (.int .u64 F) := CutVars.f CV0; have cA := CutVars.A CV0; have cG := CutVars.g CV0))
        go_region
        all_goals go_wp2
        have CV := CutVars.drew CV0
        have BL := Below.drew BL0
        clear CV0 BL0 cR cF cA cG hM
        generalize w2.drew = W3 at CV BL ⊢
        have cR := CutVars.r CV
        have cF : W3.cell? ⟨w.heap.size + 1 + 1 + 1, 0, none⟩ = some (.int .u64 F) := CutVars.f CV
        obtain ⟨μ, rfl⟩ : ∃ μ, μ = M := ⟨_, rfl⟩
      case' inr =>
        have hF1 : (F == 0) = false := by rw [hF0]; simp [hfirst]
        clear hF0
        have HI0 : Hid (Inv A S zs (A - partSum A S zs) (e + 16) P ν) := by
          rcases hor with h1 | h1
          · exact absurd h1.1 hfirst
          · exact h1.2
        clear hor
        obtain ⟨μ, rfl⟩ : ∃ μ, μ = ν := ⟨_, rfl⟩
        have HI : Hid (Inv A S zs (A - partSum A S zs) (e + 16) P μ) := HI0
        clear HI0
        go_wp2_with (first | (go_at_call 13; refine HA.mono ?_; clear HA hclear; rintro x W3 ⟨rfl, CV, BL⟩; have cR := CutVars.r CV; have cF : W3.cell? ⟨w.heap.size + 1 + 1 + 1, 0, none⟩ = some (.int .u64 F) := CutVars.f CV))
      all_goals (
        go_loopw [12, 6] (fun d u W => ∃ (n : Nat) (v : Int), d = .int .i64 n ∧ u = .int .u64 v ∧ W = W3 ∧ n < 65536 ∧ 1 ≤ v ∧ A - partSum A S zs = v + ge A S zs e (P * 65536 + n + 1)) (fun d _ _ => (intOf d).toNat)
        case atStart => exact ⟨65535, μ, rfl, rfl, rfl, by omega, HI.1, digit_start HI⟩
        case round =>
          obtain ⟨n, v, rfl, rfl, hWW, hn, hv1, hv⟩ := hrel
          obtain rfl := hWW
          obtain ⟨c, hc⟩ : ∃ c, c = cntOf (fun x => x * A % S / 2 ^ (e + 16) == P) (fun x => (x * A % S / 2 ^ e % 65536).toNat) zs n := ⟨_, rfl⟩
          have cC := (CutVars.c CV n hn).1
          rw [← hc] at cC
          have hcb := cntOf_bd (fun x => x * A % S / 2 ^ (e + 16) == P) (fun x => (x * A % S / 2 ^ e % 65536).toNat) zs n
          rw [← hc] at hcb
          have hgb := ge_bd A S zs e (P * 65536 + n + 1)
          have hv2 : v ≤ 4096 := by have := HHm.2.2.2.1; omega
          have HV : Hid (A - partSum A S zs = v + ge A S zs e (P * 65536 + n + 1) ∧ c = cntOf (fun x => x * A % S / 2 ^ (e + 16) == P) (fun x => (x * A % S / 2 ^ e % 65536).toNat) zs n) := ⟨hv, hc⟩
          clear hv hgb hc
          by_cases hlt : c < v
          · have HD := digit_pos HI hn HV.1 (by rw [← HV.2]; exact hlt)
            obtain ⟨k, rfl, HD⟩ := HD
            rw [← HV.2] at HD
            have HD2 : Hid (A - partSum A S zs = v - c + ge A S zs e (P * 65536 + k + 1)) := HD
            clear HD
            go_wp2
            go_roundw
            case rel => exact ⟨k, v - c, by go_num, by go_num, by trivial, by omega, by omega, HD2⟩
            case measure => simp [intOf] <;> omega
          · have HI2 : Hid (Inv A S zs (A - partSum A S zs) e (P * 65536 + n) v) := inv_step hn hv1 HV.1 (by rw [← HV.2]; omega)
            have cP : wr.cell? ⟨w.heap.size + 1 + 1, 0, none⟩ = some (.int .u64 Pp) := CutVars.p CV
            have cPf : wr.frozen? ⟨w.heap.size + 1 + 1, 0, none⟩ = false := CutVars.pf CV
            have cFf : wr.frozen? ⟨w.heap.size + 1 + 1 + 1, 0, none⟩ = false := CutVars.ff CV
            have cS3 := CutVars.s CV
            obtain ⟨Pn, hPn⟩ : ∃ Pn : Int, Pn = (P * 65536 + n) * 2 ^ e := ⟨_, rfl⟩
            obtain ⟨Fn, hFn⟩ : ∃ Fn : Int, Fn = 2 ^ (16 * K) - 2 ^ e := ⟨_, rfl⟩
            have hR1 : bits BinOp.or IntKind.u64 Pp (IntKind.u64.wrap ((n : Int) * 2 ^ e)) = Pn := by
              rw [hPn, HHm.2.2.1]
              exact or_prefix P e n hP0 hn (inv_word HI2 S0 S1)
            have hR2 : bits BinOp.or IntKind.u64 F (IntKind.u64.wrap (65535 * 2 ^ e)) = Fn := by
              rw [hFn, HHm.2.1, HHm.2.2.2.2]
              exact or_found K m HHm.1 hK4
            have HPn : Hid (Pn = (P * 65536 + n) * 2 ^ e ∧ Fn = 2 ^ (16 * K) - 2 ^ e) := ⟨hPn, hFn⟩
            have hbsz := World.block_lt_of_cell? wr _ cS3
            simp only at hbsz
            clear hPn hFn
            go_wp2
            go_region
            all_goals go_wp2
            go_region
            all_goals go_wp2
            go_roundw
            case rel =>
              refine ⟨wr.heap.size, m, P * 65536 + n, v, rfl, rfl, by have := HHm.1; omega, ?_, by omega, Or.inr ⟨HHm.1, ?_⟩⟩
              · rw [← HHm.2.2.2.2, ← HPn.1, ← HPn.2]; exact (next Fn Pn hlo CV BL).drew.drew
              · rw [← HHm.2.2.2.2]; exact HI2
            case measure =>
              show valAt _ (.pointer (some ⟨wr.heap.size, 0, none⟩)) < valAt _ (.pointer (some ⟨bs, 0, none⟩))
              have hs := Head.s (next Fn Pn hlo CV BL).drew.drew
              have e1 : valAt (((wr.setCell ⟨w.heap.size + 2, 0, none⟩ (.int .u64 Pn)).setCell ⟨w.heap.size + 3, 0, none⟩ (.int .u64 Fn)).alloc (.cells #[.int .i64 e] 3)).drew.drew (.pointer (some ⟨wr.heap.size, 0, none⟩)) = e := by
                simp only [valAt]; rw [hs]; simp
              refine Nat.lt_of_le_of_lt (Nat.le_of_eq e1) ?_
              simp only [valAt]; rw [cSh]; simp; omega)

end Go.Proofs.Qxb6614430aFmt
