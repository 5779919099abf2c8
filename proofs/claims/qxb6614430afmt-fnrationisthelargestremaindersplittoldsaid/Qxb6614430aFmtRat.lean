/-
  Ration (12) where nothing is negative and the sum is below 2^64; ZZration (6), ZZrationingFields (8).
-/
import Derived.Test.Qxb6614430aFmtMis4
namespace Go.Proofs.Qxb6614430aFmt
open Go.RowKit

theorem fold_good : ∀ (l : List Int) (s : Int × Bool × Bool), 0 ≤ s.1 → (∀ x ∈ l, x ≤ 9223372036854775807) → (l.foldl sumStep s).2.1 = false → (l.foldl sumStep s).2.2 = false →
    s.2.1 = false ∧ s.2.2 = false ∧ (l.foldl sumStep s).1 = s.1 + l.sum ∧ ∀ x ∈ l, 0 ≤ x
  | [], s, _, _, h1, h2 => ⟨h1, h2, by simp, by simp⟩
  | x :: l, s, h0, hx, h1, h2 => by
    have hx0 := hx x (by simp)
    simp only [List.foldl_cons] at h1 h2 ⊢
    have hs0 : 0 ≤ (sumStep s x).1 := by simp only [sumStep]; omega
    obtain ⟨a, b, c, d⟩ := fold_good l (sumStep s x) hs0 (fun y hy => hx y (by simp [hy])) h1 h2
    simp only [sumStep, Bool.or_eq_false_iff, decide_eq_false_iff_not] at a b
    have e1 : (sumStep s x).1 = s.1 + x := by simp only [sumStep]; omega
    refine ⟨a.1, b.1, ?_, ?_⟩
    · rw [c, e1, List.sum_cons]; omega
    · intro y hy
      rcases List.mem_cons.1 hy with rfl | hy
      · omega
      · exact d y hy

theorem le_sum : ∀ (l : List Int), (∀ x ∈ l, 0 ≤ x) → 0 ≤ l.sum ∧ ∀ x ∈ l, x ≤ l.sum
  | [], _ => by simp
  | y :: l, h => by
    obtain ⟨h1, h2⟩ := le_sum l (fun x hx => h x (by simp [hx]))
    have h3 := h y (by simp)
    refine ⟨by rw [List.sum_cons]; omega, fun x hx => ?_⟩
    rw [List.sum_cons]
    rcases List.mem_cons.1 hx with rfl | hx
    · omega
    · have := h2 x hx; omega

/-- The shares are none negative and sum to S, a word. -/
def Good (zs : List Int) (S : Int) : Prop := (sums zs).1 = S ∧ (sums zs).2.1 = false ∧ (sums zs).2.2 = false ∧ zs.sum = S ∧ (∀ x ∈ zs, 0 ≤ x ∧ x ≤ S) ∧ 0 ≤ S ∧ S ≤ 18446744073709551615

theorem good_of (zs : List Int) (hx : ∀ x ∈ zs, x ≤ 9223372036854775807) (h1 : (sums zs).2.1 = false) (h2 : (sums zs).2.2 = false) : Good zs (sums zs).1 := by
  obtain ⟨-, -, c, d⟩ := fold_good zs (0, false, false) (by decide) hx h1 h2
  have c' : (sums zs).1 = zs.sum := by
    show (zs.foldl sumStep (0, false, false)).1 = _
    rw [c]; simp
  have h3 := le_sum zs d
  refine ⟨rfl, h1, h2, c'.symm, fun x hx => ⟨d x hx, by rw [c']; exact h3.2 x hx⟩, sums_range zs⟩

theorem SharesIn.le {w : World} {B : Nat} {ao : Option Addr} {zs : List Int} (h : SharesIn w B ao zs) : ∀ x ∈ zs, x ≤ 9223372036854775807 := by
  intro x hx
  obtain ⟨k, hk, rfl⟩ := List.getElem_of_mem hx
  obtain ⟨-, -, -, -, -, -, r⟩ := h k _ (List.getElem?_eq_getElem hk)
  exact r

theorem SharesIn.up {w : World} {B B' : Nat} {ao : Option Addr} {zs : List Int} (h : SharesIn w B ao zs) (hB : B ≤ B') : SharesIn w B' ao zs := by
  intro k x hx
  obtain ⟨sb, so, e, hlt, r⟩ := h k x hx
  exact ⟨sb, so, e, Nat.lt_of_lt_of_le hlt hB, r⟩

/-- What a Rationing holds. -/
def RatAt (W : World) (rb : Nat) (S A : Int) (zs : List Int) : Prop :=
  ∃ least ties, W.cell? ⟨rb, 0, none⟩ = some (.int .u64 S) ∧ W.cell? ⟨rb, 1, none⟩ = some (.int .u64 A) ∧ W.cell? ⟨rb, 2, none⟩ = some (.int .u64 least) ∧ W.cell? ⟨rb, 3, none⟩ = some (.int .u64 ties) ∧
    ((S ≤ A ∧ least = 18446744073709551615 ∧ ties = 0) ∨ (A < S ∧ Rat A S zs least ties))

theorem sum_start {w : World} : SumVars w.heap.size (w.heap.size + 1) w.heap.size (w.heap.size + 2) (((w.alloc (.cells #[.int .u64 0] 29)).alloc (.cells #[.bool false] 4)).alloc (.cells #[.bool false] 4)) (sums []) ∧
    Below w.heap.size w (((w.alloc (.cells #[.int .u64 0] 29)).alloc (.cells #[.bool false] 4)).alloc (.cells #[.bool false] 4)) := by
  obtain ⟨w1, h1⟩ : ∃ w1, w1 = w.alloc (.cells #[.int .u64 0] 29) := ⟨_, rfl⟩
  obtain ⟨w2, h2⟩ : ∃ w2, w2 = w1.alloc (.cells #[.bool false] 4) := ⟨_, rfl⟩
  obtain ⟨w3, h3⟩ : ∃ w3, w3 = w2.alloc (.cells #[.bool false] 4) := ⟨_, rfl⟩
  rw [← h1, ← h2, ← h3]
  have s1 : w1.heap.size = w.heap.size + 1 := by rw [h1]; simp
  have s2 : w2.heap.size = w.heap.size + 2 := by rw [h2]; simp [s1]
  have f2 : ∀ b i, b < w1.heap.size → w2.cell? ⟨b, i, none⟩ = w1.cell? ⟨b, i, none⟩ := fun b i h => by rw [h2]; exact World.cell?_alloc_lt w1 _ ⟨b, i, none⟩ h
  have f3 : ∀ b i, b < w2.heap.size → w3.cell? ⟨b, i, none⟩ = w2.cell? ⟨b, i, none⟩ := fun b i h => by rw [h3]; exact World.cell?_alloc_lt w2 _ ⟨b, i, none⟩ h
  have g2 : ∀ b i, b < w1.heap.size → w2.frozen? ⟨b, i, none⟩ = w1.frozen? ⟨b, i, none⟩ := fun b i h => by rw [h2]; exact World.frozen?_alloc_past (w := w1) _ b i h
  have g3 : ∀ b i, b < w2.heap.size → w3.frozen? ⟨b, i, none⟩ = w2.frozen? ⟨b, i, none⟩ := fun b i h => by rw [h3]; exact World.frozen?_alloc_past (w := w2) _ b i h
  have b1 : Below w.heap.size w w1 := by rw [h1]; exact (Below.refl _ _).alloc (by omega) _
  have b2 : Below w.heap.size w w2 := by rw [h2]; exact b1.alloc (by omega) _
  have b3 : Below w.heap.size w w3 := by rw [h3]; exact b2.alloc (by omega) _
  refine ⟨⟨?_, ?_, ?_, ?_, ?_, ?_, by omega, by omega, by omega, by omega, by omega, by omega⟩, b3⟩
  · rw [f3 _ _ (by omega), h2]; exact World.cell?_alloc_at (w := w1) #[.bool false] 4 _ 0 s1.symm
  · rw [f3 _ _ (by omega), f2 _ _ (by omega), h1]; exact World.cell?_alloc_at (w := w) #[.int .u64 0] 29 _ 0 rfl
  · rw [h3]; exact World.cell?_alloc_at (w := w2) #[.bool false] 4 _ 0 s2.symm
  · rw [g3 _ _ (by omega), h2]; exact World.frozen?_alloc_at (w := w1) #[.bool false] 4 _ 0 s1.symm
  · rw [g3 _ _ (by omega), g2 _ _ (by omega), h1]; exact World.frozen?_alloc_at (w := w) #[.int .u64 0] 29 _ 0 rfl
  · rw [h3]; exact World.frozen?_alloc_at (w := w2) #[.bool false] 4 _ 0 s2.symm

/-- The call of missingCents on the new Rationing. -/
theorem miss_new (bsl cap : Nat) (ao : Option Addr) (zs : List Int) (S A : Int) (w w1 : World) (hl : zs.length ≤ 4096) (hsh : SharesIn w w.heap.size ao zs) (hsl : w.cell? ⟨bsl, 0, none⟩ = some (.slice ao zs.length cap)) (hbsl : bsl < w.heap.size)
    (g1 : zs.sum = S) (g2 : ∀ x ∈ zs, 0 ≤ x ∧ x ≤ S) (hS : S ≤ 18446744073709551615) (hA0 : 0 ≤ A) (hA1 : A ≤ 9223372036854775807) (hAS : A < S) (hb : Below w.heap.size w w1) :
    Calls Tryf.prog 18 #[.pointer (some ⟨w1.heap.size, 0, none⟩), .func (.func 13) #[] #[.pointer (some ⟨bsl, 0, none⟩)]] (w1.alloc (.cells #[.int .u64 S, .int .u64 A, .int .u64 18446744073709551615, .int .u64 0] 42)).drew fun e w' => e = .returned .nilIface ∧ Below w.heap.size w w' ∧ RatAt w' w1.heap.size S A zs := by
  have hsz := hb.size
  have hb1 : Below w.heap.size w (w1.alloc (.cells #[.int .u64 S, .int .u64 A, .int .u64 18446744073709551615, .int .u64 0] 42)).drew := (hb.alloc hsz _).drew
  have hat : ∀ (i : Nat) (v : Value), (#[Value.int .u64 S, .int .u64 A, .int .u64 18446744073709551615, .int .u64 0])[i]? = some v → (w1.alloc (.cells #[.int .u64 S, .int .u64 A, .int .u64 18446744073709551615, .int .u64 0] 42)).drew.cell? ⟨w1.heap.size, i, none⟩ = some v := by
    intro i v h
    show (w1.alloc _).cell? _ = _
    rw [World.cell?_alloc_at (w := w1) _ 42 _ i rfl]
    exact h
  have hfz : ∀ i, (w1.alloc (.cells #[.int .u64 S, .int .u64 A, .int .u64 18446744073709551615, .int .u64 0] 42)).drew.frozen? ⟨w1.heap.size, i, none⟩ = false := by
    intro i
    exact World.frozen?_alloc_at (w := w1) _ 42 _ i rfl
  have G : Given (w1.alloc (.cells #[.int .u64 S, .int .u64 A, .int .u64 18446744073709551615, .int .u64 0] 42)).drew w1.heap.size bsl ao cap zs S A := by
    refine ⟨hl, (hsh.later hb1).up hsz, ?_, by omega, ?_, hat 0 _ rfl, hat 1 _ rfl, g2, g1, hA0, hA1, hS, hAS⟩
    · rw [hb1.cell (p := ⟨bsl, 0, none⟩) hbsl]; exact hsl
    · show _ < (w1.alloc _).heap.size
      simp
  refine (missing_any w1.heap.size bsl cap ao zs S A _ G (hat 2 _ rfl) (hat 3 _ rfl) (hfz 2) (hfz 3)).mono ?_
  rintro e w' ⟨h1, h2, least, ties, h3, h4, h5, h6, h7⟩
  exact ⟨h1, hb1.trans (h2.mono hsz), least, ties, h4, h5, h6, h7, Or.inr ⟨hAS, h3⟩⟩

set_option maxHeartbeats 4000000 in
theorem ration_good (bsl cap : Nat) (ao : Option Addr) (zs : List Int) (S A : Int) (w : World) (hl : zs.length ≤ 4096) (hsh : SharesIn w w.heap.size ao zs) (hsl : w.cell? ⟨bsl, 0, none⟩ = some (.slice ao zs.length cap)) (hg : Good zs S) (hA0 : 0 ≤ A) (hA1 : A ≤ 9223372036854775807) :
    Calls Tryf.prog 12 #[.int .i64 A, .func (.func 13) #[] #[.pointer (some ⟨bsl, 0, none⟩)]] w fun e w' => ∃ rb, e = .returned (.tuple #[.pointer (some ⟨rb, 0, none⟩), .nilIface]) ∧ w.heap.size ≤ rb ∧ RatAt w' rb S A zs ∧ Below w.heap.size w w' := by
  have hbsl := World.block_lt_of_cell? w _ hsl
  simp only at hbsl
  obtain ⟨hsv, hb0⟩ := sum_start (w := w)
  have H15 := asks15 w.heap.size (w.heap.size + 1) w.heap.size (w.heap.size + 1 + 1) bsl cap ao zs _ hl (hsh.later hb0) hsv (by rw [hb0.cell (p := ⟨bsl, 0, none⟩) hbsl]; exact hsl)
  obtain ⟨g1, g2, g3, g4, g5, g6, g7⟩ := hg
  have HG : Hid (zs.sum = S ∧ ∀ x ∈ zs, 0 ≤ x ∧ x ≤ S) := ⟨g4, g5⟩
  have HS : Hid (SharesIn w w.heap.size ao zs ∧ w.cell? ⟨bsl, 0, none⟩ = some (.slice ao zs.length cap) ∧ Below w.heap.size w (((w.alloc (.cells #[.int .u64 0] 29)).alloc (.cells #[.bool false] 4)).alloc (.cells #[.bool false] 4))) := ⟨hsh, hsl, hb0⟩
  clear g4 g5 hsh hsl hb0 hsv
  rcases Classical.em (S ≤ A) with hSA | hSA
  all_goals
    go_enter Tryf.func12, Tryf.ntmps12
    go_wp2_with (first | (go_at_call 13; refine H15.mono ?_; clear H15; rintro e w1 ⟨rfl, SV, BL⟩; have cN := SumVars.n SV; have cA := SumVars.a SV; have cO : w1.cell? ⟨w.heap.size + 1 + 1, 0, none⟩ = _ := SumVars.o SV; rw [g2] at cN; rw [g1] at cA; rw [g3] at cO; have hsz := World.block_lt_of_cell? w1 _ cA; simp only at hsz; have BL2 := HS.2.2.trans BL))
    go_region
    all_goals go_wp2_with (first | (go_at_call 18; refine (miss_new bsl cap ao zs S A w w1 hl HS.1 HS.2.1 hbsl HG.1 HG.2 g7 hA0 hA1 (by omega) BL2).mono ?_; rintro e2 w3 ⟨rfl, BL3, RA⟩))
    go_ret2
  · refine ⟨w1.heap.size, rfl, BL2.size, ⟨18446744073709551615, 0, ?_, ?_, ?_, ?_, Or.inl ⟨hSA, rfl, rfl⟩⟩, (BL2.alloc BL2.size _).drew⟩
    · exact World.cell?_alloc_at (w := w1) #[.int .u64 S, .int .u64 A, .int .u64 18446744073709551615, .int .u64 0] 42 _ 0 rfl
    · exact World.cell?_alloc_at (w := w1) #[.int .u64 S, .int .u64 A, .int .u64 18446744073709551615, .int .u64 0] 42 _ 1 rfl
    · exact World.cell?_alloc_at (w := w1) #[.int .u64 S, .int .u64 A, .int .u64 18446744073709551615, .int .u64 0] 42 _ 2 rfl
    · exact World.cell?_alloc_at (w := w1) #[.int .u64 S, .int .u64 A, .int .u64 18446744073709551615, .int .u64 0] 42 _ 3 rfl
  · exact ⟨w1.heap.size, rfl, BL2.size, RA, BL3⟩

set_option maxHeartbeats 1000000 in
/-- ZZration: the shares in a box of their own. -/
theorem zzration_good (cap : Nat) (ao : Option Addr) (zs : List Int) (S A : Int) (w : World) (hl : zs.length ≤ 4096) (hsh : SharesIn w w.heap.size ao zs) (hg : Good zs S) (hA0 : 0 ≤ A) (hA1 : A ≤ 9223372036854775807) :
    Calls Tryf.prog 6 #[.int .i64 A, .slice ao zs.length cap] w fun e w' => ∃ rb, e = .returned (.tuple #[.pointer (some ⟨rb, 0, none⟩), .nilIface]) ∧ w.heap.size ≤ rb ∧ RatAt w' rb S A zs ∧ Below w.heap.size w w' := by
  have hb : Below w.heap.size w (w.alloc (.cells #[.slice ao zs.length cap] 22)) := (Below.refl _ _).alloc (Nat.le_refl _) _
  have HC := ration_good w.heap.size cap ao zs S A (w.alloc (.cells #[.slice ao zs.length cap] 22)) hl ((hsh.later hb).up (by simp)) (World.cell?_alloc_at (w := w) #[.slice ao zs.length cap] 22 _ 0 rfl) hg hA0 hA1
  clear hg hsh
  go_enter Tryf.func6, Tryf.ntmps6
  go_wp2_with (first | (go_at_call 12; refine HC.mono ?_; clear HC; rintro e w1 ⟨rb, rfl, hrb, RA, BL⟩))
  go_ret2
  refine ⟨rb, rfl, ?_, RA, hb.trans (BL.mono (by simp))⟩
  simp at hrb
  omega

theorem tmp4 {fn : Func} {t u v x : Tmp} (h : fn.results = #[.tmp t, .tmp u, .tmp v, .tmp x]) (tmps : Array Value) (P : Program) (w : World) :
    (results fn tmps).run P w = .ok (.tuple #[tmps.getD t undef, tmps.getD u undef, tmps.getD v undef, tmps.getD x undef]) w := by
  simp [results, h]

set_option maxHeartbeats 1000000 in
/-- ZZrationingFields. -/
theorem fields_any (rb : Nat) (a b c d : Int) (w : World) (h0 : w.cell? ⟨rb, 0, none⟩ = some (.int .u64 a)) (h1 : w.cell? ⟨rb, 1, none⟩ = some (.int .u64 b)) (h2 : w.cell? ⟨rb, 2, none⟩ = some (.int .u64 c)) (h3 : w.cell? ⟨rb, 3, none⟩ = some (.int .u64 d)) :
    Calls Tryf.prog 8 #[.pointer (some ⟨rb, 0, none⟩)] w fun e w' => e = .returned (.tuple #[.int .u64 a, .int .u64 b, .int .u64 c, .int .u64 d]) ∧ w' = w.drew := by
  go_enter Tryf.func8, Tryf.ntmps8
  go_wp2
  go_region
  all_goals go_wp2
  exact bodyPost_ret (tmp4 rfl _ _ _) rfl ⟨rfl, rfl⟩

end Go.Proofs.Qxb6614430aFmt
