/-
  Ration (12) where a number is negative or the sum is past 2^64: fmt.Errorf's error; ZZration (6) there.
-/
import Derived.Test.Qxb6614430aFmtRat
import Derived.Test.Qxb6614430aFmtFacts
namespace Go.Proofs.Qxb6614430aFmt
open Go.RowKit Go.Extern.Stop Go.Stop Go.Extern

attribute [local go_sem] Tryf.call19 Tryf.guard Tryf.fmtN1 Tryf.fmtO1 Tryf.fmtN1r Tryf.fmtO1r Tryf.op2_100 Tryf.op2_100w Tryf.op29_100 Tryf.op29_100w Tryf.ptr53 Tryf.elem53

set_option maxHeartbeats 2000000 in
theorem ration_bad (bsl cap : Nat) (ao : Option Addr) (zs : List Int) (A : Int) (nb ob : Bool) (w : World) (hl : zs.length ≤ 4096) (hsh : SharesIn w w.heap.size ao zs) (hsl : w.cell? ⟨bsl, 0, none⟩ = some (.slice ao zs.length cap))
    (hnb : (sums zs).2.1 = nb) (hob : (sums zs).2.2 = ob) (hbad : A < 0 ∨ nb = true ∨ ob = true) :
    Calls Tryf.prog 12 #[.int .i64 A, .func (.func 13) #[] #[.pointer (some ⟨bsl, 0, none⟩)]] w fun e w' => ∃ v, e = .returned (.tuple #[.pointer none, .iface 53 v]) ∧ Below w.heap.size w w' := by
  have hbsl := World.block_lt_of_cell? w _ hsl
  simp only at hbsl
  obtain ⟨hsv, hb0⟩ := sum_start (w := w)
  have H15 := asks15 w.heap.size (w.heap.size + 1) w.heap.size (w.heap.size + 1 + 1) bsl cap ao zs _ hl (hsh.later hb0) hsv (by rw [hb0.cell (p := ⟨bsl, 0, none⟩) hbsl]; exact hsl)
  have HS : Hid (Below w.heap.size w (((w.alloc (.cells #[.int .u64 0] 29)).alloc (.cells #[.bool false] 4)).alloc (.cells #[.bool false] 4))) := hb0
  clear hsh hsl hb0 hsv
  have hc : nb = true ∨ (nb = false ∧ A < 0) ∨ (nb = false ∧ 0 ≤ A ∧ ob = true) := by
    rcases hbad with h | h | h
    · cases nb
      · exact Or.inr (Or.inl ⟨rfl, h⟩)
      · exact Or.inl rfl
    · exact Or.inl h
    · cases nb
      · by_cases hA : A < 0
        · exact Or.inr (Or.inl ⟨rfl, hA⟩)
        · exact Or.inr (Or.inr ⟨rfl, by omega, h⟩)
      · exact Or.inl rfl
  clear hbad
  rcases hc with h | ⟨h, hA⟩ | ⟨h, hA, ho⟩
  all_goals
    subst h
    try subst ho
    go_enter Tryf.func12, Tryf.ntmps12
    go_wp2_with (first | (go_at_call 13; refine H15.mono ?_; clear H15; rintro e w1 ⟨rfl, SV, BL⟩; have cN := SumVars.n SV; have cA := SumVars.a SV; have cO : w1.cell? ⟨w.heap.size + 1 + 1, 0, none⟩ = _ := SumVars.o SV; rw [hnb] at cN; rw [hob] at cO; have BL2 := HS.trans BL) | go_in)
    go_ret2
    exact ⟨_, rfl, ((BL2.alloc BL2.size _).alloc (by have := BL2.size; simp; omega) _).drew⟩

set_option maxHeartbeats 1000000 in
theorem zzration_bad (cap : Nat) (ao : Option Addr) (zs : List Int) (A : Int) (nb ob : Bool) (w : World) (hl : zs.length ≤ 4096) (hsh : SharesIn w w.heap.size ao zs)
    (hnb : (sums zs).2.1 = nb) (hob : (sums zs).2.2 = ob) (hbad : A < 0 ∨ nb = true ∨ ob = true) :
    Calls Tryf.prog 6 #[.int .i64 A, .slice ao zs.length cap] w fun e w' => ∃ v, e = .returned (.tuple #[.pointer none, .iface 53 v]) ∧ Below w.heap.size w w' := by
  have hb : Below w.heap.size w (w.alloc (.cells #[.slice ao zs.length cap] 22)) := (Below.refl _ _).alloc (Nat.le_refl _) _
  have HC := ration_bad w.heap.size cap ao zs A nb ob (w.alloc (.cells #[.slice ao zs.length cap] 22)) hl ((hsh.later hb).up (by simp)) (World.cell?_alloc_at (w := w) #[.slice ao zs.length cap] 22 _ 0 rfl) hnb hob hbad
  clear hsh
  go_enter Tryf.func6, Tryf.ntmps6
  go_wp2_with (first | (go_at_call 12; refine HC.mono ?_; clear HC; rintro e w1 ⟨v, rfl, BL⟩))
  go_ret2
  exact ⟨v, rfl, hb.trans (BL.mono (by simp))⟩

end Go.Proofs.Qxb6614430aFmt
