/-
  The sum of the shares: sumShares (7); Ration's first closure (15); the walk over the shares that calls it (13).
-/
import Derived.Test.Qxb6614430aFmtLong
namespace Go.Proofs.Qxb6614430aFmt
open Go.RowKit

/-- The sum as a word, 'one is negative', 'the sum carried': one share more. -/
def sumStep (s : Int × Bool × Bool) (x : Int) : Int × Bool × Bool :=
  ((s.1 + x % 18446744073709551616) % 18446744073709551616, s.2.1 || decide (x < 0), s.2.2 || decide (18446744073709551616 ≤ s.1 + x % 18446744073709551616))
def sums (l : List Int) : Int × Bool × Bool := l.foldl sumStep (0, false, false)

theorem sums_snoc (l : List Int) (x : Int) : sums (l ++ [x]) = sumStep (sums l) x := by simp [sums]
theorem take_snoc (zs : List Int) (k : Nat) (h : k < zs.length) : zs.take (k + 1) = zs.take k ++ [zs[k]] := List.take_succ_eq_append_getElem h
theorem sums_take (zs : List Int) (k : Nat) (h : k < zs.length) : sums (zs.take (k + 1)) = sumStep (sums (zs.take k)) zs[k] := by rw [take_snoc zs k h, sums_snoc]

theorem fold_range : ∀ (l : List Int) (s : Int × Bool × Bool), 0 ≤ s.1 ∧ s.1 ≤ 18446744073709551615 → 0 ≤ (l.foldl sumStep s).1 ∧ (l.foldl sumStep s).1 ≤ 18446744073709551615
  | [], _, h => h
  | x :: l, s, _ => fold_range l (sumStep s x) (by simp only [sumStep]; omega)
theorem sums_range (l : List Int) : 0 ≤ (sums l).1 ∧ (sums l).1 ≤ 18446744073709551615 := fold_range l _ (by decide)

/-- The shares zs, as int64 cells in old memory (below block B). -/
def SharesIn (w : World) (B : Nat) (ao : Option Addr) (zs : List Int) : Prop :=
  ∀ k x, zs[k]? = some x → ∃ sb so, ao = some ⟨sb, so, none⟩ ∧ sb < B ∧ w.cell? ⟨sb, so + k, none⟩ = some (.int .i64 x) ∧ -9223372036854775808 ≤ x ∧ x ≤ 9223372036854775807

theorem SharesIn.later {w W : World} {B : Nat} {ao : Option Addr} {zs : List Int} (h : SharesIn w B ao zs) (hb : Below B w W) : SharesIn W B ao zs := by
  intro k x hx
  obtain ⟨sb, so, e, hlt, hc, r⟩ := h k x hx
  exact ⟨sb, so, e, hlt, by rw [hb.cell (p := ⟨sb, so + k, none⟩) hlt]; exact hc, r⟩

set_option maxHeartbeats 400000 in
theorem sumShares_any (ao : Option Addr) (cap B : Nat) (zs : List Int) (w : World) (hl : zs.length ≤ 4096) (hsh : SharesIn w B ao zs) :
    Calls Tryf.prog 7 #[.slice ao zs.length cap] w fun e w' => e = .returned (.tuple #[.int .u64 (sums zs).1, .bool (sums zs).2.1, .bool (sums zs).2.2]) ∧ w' = w := by
  go_enter Tryf.func7, Tryf.ntmps7
  go_wp2
  go_loop [5, 2, 3, 4] (fun i a b c => ∃ k : Nat, i = .int .i64 k ∧ k ≤ zs.length ∧ a = .int .u64 (sums (zs.take k)).1 ∧ b = .bool (sums (zs.take k)).2.1 ∧ c = .bool (sums (zs.take k)).2.2) (fun i _ _ _ => zs.length - (intOf i).toNat)
  case atStart => exact ⟨0, rfl, by omega, rfl, rfl, rfl⟩
  case round =>
    obtain ⟨k, rfl, hk, rfl, rfl, rfl⟩ := hrel
    by_cases hlt : k < zs.length
    · obtain ⟨sb, so, rfl, -, hc, hx0, hx1⟩ := hsh k _ (List.getElem?_eq_getElem hlt)
      have hr := sums_range (zs.take k)
      have HST : Hid (sums (zs.take (k + 1)) = sumStep (sums (zs.take k)) zs[k]) := sums_take zs k hlt
      obtain ⟨x, hx⟩ : ∃ x, x = zs[k] := ⟨_, rfl⟩
      rw [← hx] at hc hx0 hx1 HST
      obtain ⟨st, hst⟩ : ∃ st, st = sums (zs.take k) := ⟨_, rfl⟩
      rw [← hst] at hr HST ⊢
      obtain ⟨a, b, c⟩ := st
      obtain ⟨ha0, ha1⟩ := hr
      simp only at ha0 ha1 ⊢
      clear hx hst hsh
      obtain ⟨ux, hux⟩ : ∃ ux, ux = x % 18446744073709551616 := ⟨_, rfl⟩
      have hw1 : IntKind.u64.wrap x = ux := by rw [IntKind.wrap_u64]; exact hux.symm
      obtain ⟨t, ht⟩ : ∃ t, t = (a + ux) % 18446744073709551616 := ⟨_, rfl⟩
      have hw2 : IntKind.u64.wrap (a + ux) = t := by rw [IntKind.wrap_u64]; exact ht.symm
      have hu0 : 0 ≤ ux := by omega
      have hu1 : ux ≤ 18446744073709551615 := by omega
      have ht0 : 0 ≤ t := by omega
      have ht1 : t ≤ 18446744073709551615 := by omega
      have HS : Hid (sums (zs.take (k + 1)) = (t, b || decide (x < 0), c || decide (18446744073709551616 ≤ a + ux))) := by
        show _ = _
        rw [HST.out, ht, hux]; rfl
      clear HST
      by_cases hov : 18446744073709551616 ≤ a + ux
      · have hlt2 : t < a := by omega
        have HO : Hid (18446744073709551616 ≤ a + ux) := hov
        clear hux ht hov
        by_cases hneg : x < 0
        all_goals
          go_wp2
          go_round
          case rel => exact ⟨k + 1, by go_num, by omega, by rw [HS.out], by rw [HS.out]; simp [hneg], by rw [HS.out]; simp [HO.out]⟩
          case measure => simp [intOf]; omega
      · have hge2 : a ≤ t := by omega
        have HO : Hid (¬ 18446744073709551616 ≤ a + ux) := hov
        clear hux ht hov
        by_cases hneg : x < 0
        all_goals
          go_wp2
          go_round
          case rel => exact ⟨k + 1, by go_num, by omega, by rw [HS.out], by rw [HS.out]; simp [hneg], by rw [HS.out]; simp [HO.out]⟩
          case measure => simp [intOf]; omega
    · have hk' : k = zs.length := by omega
      subst hk'
      clear hsh
      rw [List.take_length]
      go_wp2
      go_ret3
      exact ⟨rfl, rfl⟩

/-- The three variables that Ration's closure fills, each in a block of its own from B on. -/
structure SumVars (B bn ba bo : Nat) (W : World) (st : Int × Bool × Bool) : Prop where
  n : W.cell? ⟨bn, 0, none⟩ = some (.bool st.2.1)
  a : W.cell? ⟨ba, 0, none⟩ = some (.int .u64 st.1)
  o : W.cell? ⟨bo, 0, none⟩ = some (.bool st.2.2)
  nf : W.frozen? ⟨bn, 0, none⟩ = false
  af : W.frozen? ⟨ba, 0, none⟩ = false
  of : W.frozen? ⟨bo, 0, none⟩ = false
  na : bn ≠ ba
  no : bn ≠ bo
  ao : ba ≠ bo
  Bn : B ≤ bn
  Ba : B ≤ ba
  Bo : B ≤ bo

theorem SumVars.set {B bn ba bo : Nat} {W : World} {st : Int × Bool × Bool} (h : SumVars B bn ba bo W st) (n : Bool) (a : Int) (o : Bool) :
    SumVars B bn ba bo (((W.setCell ⟨bn, 0, none⟩ (.bool n)).setCell ⟨ba, 0, none⟩ (.int .u64 a)).setCell ⟨bo, 0, none⟩ (.bool o)) (a, n, o) := by
  have h1 := h.na; have h2 := h.no; have h3 := h.ao
  refine ⟨?_, ?_, ?_, by simpa using h.nf, by simpa using h.af, by simpa using h.of, h1, h2, h3, h.Bn, h.Ba, h.Bo⟩
  · rw [World.cell?_setCell_other _ _ _ _ (fun e => by have := congrArg Addr.block e; simp at this; omega), World.cell?_setCell_other _ _ _ _ (fun e => by have := congrArg Addr.block e; simp at this; omega), World.cell?_setCell_same _ _ _ h.n]
  · rw [World.cell?_setCell_other _ _ _ _ (fun e => by have := congrArg Addr.block e; simp at this; omega), World.cell?_setCell_same _ _ _ (u := .int .u64 st.1) (by rw [World.cell?_setCell_other _ _ _ _ (fun e => by have := congrArg Addr.block e; simp at this; omega)]; exact h.a)]
  · rw [World.cell?_setCell_same _ _ _ (u := .bool st.2.2) (by rw [World.cell?_setCell_other _ _ _ _ (fun e => by have := congrArg Addr.block e; simp at this; omega), World.cell?_setCell_other _ _ _ _ (fun e => by have := congrArg Addr.block e; simp at this; omega)]; exact h.o)]

set_option maxHeartbeats 400000 in
theorem each15 (B bn ba bo : Nat) (x : Int) (st : Int × Bool × Bool) (W : World) (h : SumVars B bn ba bo W st) (h0 : 0 ≤ st.1) (h1 : st.1 ≤ 18446744073709551615) :
    Calls Tryf.prog 15 #[.int .i64 x, .pointer (some ⟨bn, 0, none⟩), .pointer (some ⟨ba, 0, none⟩), .pointer (some ⟨bo, 0, none⟩)] W fun e W' => e = .returned (.tuple #[]) ∧ SumVars B bn ba bo W' (sumStep st x) ∧ Below B W W' := by
  obtain ⟨a, n, o⟩ := st
  have c1 := h.n; have c2 := h.a; have c3 := h.o; have f1 := h.nf; have f2 := h.af; have f3 := h.of; have n1 := h.na; have n2 := h.no; have n3 := h.ao
  simp only at h0 h1 c1 c2 c3
  have HV : Hid (SumVars B bn ba bo W (a, n, o)) := h
  clear h
  obtain ⟨ux, hux⟩ : ∃ ux, ux = x % 18446744073709551616 := ⟨_, rfl⟩
  have hw1 : IntKind.u64.wrap x = ux := by rw [IntKind.wrap_u64]; exact hux.symm
  have hu0 : 0 ≤ ux := by omega
  have hu1 : ux ≤ 18446744073709551615 := by omega
  have hadd := add64_0 a ux h0 hu0
  have HS : Hid (sumStep (a, n, o) x = ((a + ux) % 18446744073709551616, n || decide (x < 0), o || decide (18446744073709551616 ≤ a + ux))) := by show _ = _; rw [hux]; rfl
  have hcar : ((a + ux) / 18446744073709551616 != 0) = decide (18446744073709551616 ≤ a + ux) := by
    rw [Bool.eq_iff_iff]; simp; omega
  have hcar2 : ((a + ux) / 18446744073709551616 == 0) = !decide (18446744073709551616 ≤ a + ux) := by
    rw [Bool.eq_iff_iff]; simp; omega
  clear hux
  cases n <;> cases o
  all_goals
    go_enter Tryf.func15, Tryf.ntmps15
    go_wp2
    go_end0
    refine ⟨rfl, ?_, ?_⟩
    · rw [HS.out]; exact HV.out.set _ _ _
    · exact Below.setCell (p := ⟨bo, 0, none⟩) (Below.setCell (p := ⟨ba, 0, none⟩) (Below.setCell (p := ⟨bn, 0, none⟩) (Below.refl B W) HV.out.Bn _) HV.out.Ba _) HV.out.Bo _

set_option maxHeartbeats 400000 in
theorem asks15 (B bn ba bo bs cap : Nat) (ao : Option Addr) (zs : List Int) (W : World) (hl : zs.length ≤ 4096) (hsh : SharesIn W B ao zs) (hv : SumVars B bn ba bo W (sums [])) (hs : W.cell? ⟨bs, 0, none⟩ = some (.slice ao zs.length cap)) :
    Calls Tryf.prog 13 #[.func (.func 15) #[] #[.pointer (some ⟨bn, 0, none⟩), .pointer (some ⟨ba, 0, none⟩), .pointer (some ⟨bo, 0, none⟩)], .pointer (some ⟨bs, 0, none⟩)] W fun e W' => e = .returned .nilIface ∧ SumVars B bn ba bo W' (sums zs) ∧ Below B W W' := by
  go_enter Tryf.func13, Tryf.ntmps13
  go_wp2
  go_loopw [8] (fun i wr => ∃ k : Nat, i = .int .i64 k ∧ k ≤ zs.length ∧ SumVars B bn ba bo wr (sums (zs.take k)) ∧ Below B W wr) (fun i _ => zs.length - (intOf i).toNat)
  case atStart => exact ⟨0, rfl, by omega, hv, Below.refl _ _⟩
  case round =>
    obtain ⟨k, rfl, hk, hv2, hbel⟩ := hrel
    by_cases hlt : k < zs.length
    · obtain ⟨sb, so, rfl, -, hc, hx0, hx1⟩ := (hsh.later hbel) k _ (List.getElem?_eq_getElem hlt)
      have hr := sums_range (zs.take k)
      have HST : Hid (sums (zs.take (k + 1)) = sumStep (sums (zs.take k)) zs[k]) := sums_take zs k hlt
      have HC := each15 B bn ba bo zs[k] _ wr hv2 hr.1 hr.2
      obtain ⟨x, hx⟩ : ∃ x, x = zs[k] := ⟨_, rfl⟩
      rw [← hx] at hc HST HC
      clear hx hsh hv2 hv hs hr
      go_wp2_with (first | (go_at_call 15; refine HC.mono ?_; clear HC; rintro e w2 ⟨rfl, hv3, hb3⟩))
      go_roundw
      case rel => exact ⟨k + 1, by go_num, by omega, by rw [HST.out]; exact hv3, hbel.trans hb3⟩
      case measure => simp [intOf]; omega
    · have hk' : k = zs.length := by omega
      subst hk'
      rw [List.take_length] at hv2
      clear hsh hv hs
      go_wp2
      go_ret
      exact ⟨rfl, hv2, hbel⟩
end Go.Proofs.Qxb6614430aFmt
