/-
  missingCents (18), the walk.
-/
import Derived.Test.Qxb6614430aFmtMis
namespace Go.Proofs.Qxb6614430aFmt
open Go.RowKit

theorem Head.drew {w : World} {n0 bs rb : Nat} {W : World} {f p : Int} {sh : Nat} (h : Head w n0 bs rb W f p sh) : Head w n0 bs rb W.drew f p sh :=
  ⟨h.r, h.c, h.p, h.pf, h.f, h.ff, h.s, h.sf, h.lo, h.hi, h.bel.drew⟩

/-- Behind a pass: prefix and found stored, the shift copied into the next round's variable. -/
theorem next {w : World} {rb bg bs : Nat} {S A : Int} {W : World} {g f p : Int} {sh : Nat} {cnt : Nat → Int} (f' p' : Int) (hlo : w.heap.size + 4 ≤ bs)
    (h : CutVars w.heap.size w.heap.size bg (w.heap.size + 3) (w.heap.size + 2) (w.heap.size + 1) bs rb S A W g f p sh cnt) (hb : Below w.heap.size w W) :
    Head w w.heap.size W.heap.size rb (((W.setCell ⟨w.heap.size + 2, 0, none⟩ (.int .u64 p')).setCell ⟨w.heap.size + 3, 0, none⟩ (.int .u64 f')).alloc (.cells #[.int .i64 sh] 3)) f' p' sh := by
  have l1 := World.block_lt_of_cell? W _ h.s
  simp only at l1
  have hsz : ((W.setCell ⟨w.heap.size + 2, 0, none⟩ (.int .u64 p')).setCell ⟨w.heap.size + 3, 0, none⟩ (.int .u64 f')).heap.size = W.heap.size := by simp
  have own : ∀ b i, b < W.heap.size → b ≠ w.heap.size + 2 → b ≠ w.heap.size + 3 → (((W.setCell ⟨w.heap.size + 2, 0, none⟩ (.int .u64 p')).setCell ⟨w.heap.size + 3, 0, none⟩ (.int .u64 f')).alloc (.cells #[.int .i64 sh] 3)).cell? ⟨b, i, none⟩ = W.cell? ⟨b, i, none⟩ := by
    intro b i hb h1 h2
    rw [World.cell?_alloc_lt _ _ ⟨b, i, none⟩ (by rw [hsz]; exact hb), set_far (by show w.heap.size + 3 ≠ b; omega), set_far (by show w.heap.size + 2 ≠ b; omega)]
  have fz : ∀ b i, b < W.heap.size → (((W.setCell ⟨w.heap.size + 2, 0, none⟩ (.int .u64 p')).setCell ⟨w.heap.size + 3, 0, none⟩ (.int .u64 f')).alloc (.cells #[.int .i64 sh] 3)).frozen? ⟨b, i, none⟩ = W.frozen? ⟨b, i, none⟩ := by
    intro b i hb
    rw [World.frozen?_alloc_past (w := (W.setCell ⟨w.heap.size + 2, 0, none⟩ (.int .u64 p')).setCell ⟨w.heap.size + 3, 0, none⟩ (.int .u64 f')) _ b i (by rw [hsz]; exact hb), World.frozen?_setCell, World.frozen?_setCell]
  refine ⟨?_, ⟨cnt, fun j hj => ⟨?_, ?_⟩⟩, ?_, ?_, ?_, ?_, ?_, ?_, by omega, by simp, ?_⟩
  · rw [own _ _ (by omega) (by omega) (by omega)]; exact h.r
  · rw [own _ _ (by omega) (by omega) (by omega)]; exact (h.c j hj).1
  · rw [fz _ _ (by omega)]; exact (h.c j hj).2
  · rw [World.cell?_alloc_lt _ _ ⟨w.heap.size + 2, 0, none⟩ (by rw [hsz]; show w.heap.size + 2 < _; omega), set_far (by show w.heap.size + 3 ≠ w.heap.size + 2; omega)]
    exact World.cell?_setCell_same _ _ _ h.p
  · rw [fz _ _ (by omega)]; exact h.pf
  · rw [World.cell?_alloc_lt _ _ ⟨w.heap.size + 3, 0, none⟩ (by rw [hsz]; show w.heap.size + 3 < _; omega)]
    exact World.cell?_setCell_same _ _ _ (u := .int .u64 f) (by rw [set_far (by show w.heap.size + 2 ≠ w.heap.size + 3; omega)]; exact h.f)
  · rw [fz _ _ (by omega)]; exact h.ff
  · exact World.cell?_alloc_at (w := (W.setCell ⟨w.heap.size + 2, 0, none⟩ (.int .u64 p')).setCell ⟨w.heap.size + 3, 0, none⟩ (.int .u64 f')) #[.int .i64 sh] 3 _ 0 hsz.symm
  · exact World.frozen?_alloc_at (w := (W.setCell ⟨w.heap.size + 2, 0, none⟩ (.int .u64 p')).setCell ⟨w.heap.size + 3, 0, none⟩ (.int .u64 f')) #[.int .i64 sh] 3 _ 0 hsz.symm
  · exact (Below.setCell (p := ⟨w.heap.size + 3, 0, none⟩) (Below.setCell (p := ⟨w.heap.size + 2, 0, none⟩) hb (by show w.heap.size ≤ w.heap.size + 2; omega) _) (by show w.heap.size ≤ w.heap.size + 3; omega) _).alloc (by rw [hsz]; omega) _

theorem word_lt (S : Int) (h1 : 1 ≤ S) (h2 : S ≤ 18446744073709551615) : (S - 1).toNat < 2 ^ 64 := by
  have : (2 : Nat) ^ 64 = 18446744073709551616 := by decide
  omega

/-- How many digits of 16 bits. -/
theorem digits_of (S : Int) (h1 : 1 ≤ S) (h2 : S ≤ 18446744073709551615) : ∃ K : Nat, K ≤ 4 ∧ ((Lib.bitLen (S - 1).toNat : Int) + 16 - 1).tdiv 16 * 16 = ((16 * K : Nat) : Int) ∧ S ≤ 2 ^ (16 * K) ∧ (K = 0 ↔ S = 1) := by
  have hle : Lib.bitLenAux 64 (S - 1).toNat ≤ 64 := Lib.bitLenAux_le 64 (S - 1).toNat 64 (word_lt S h1 h2)
  obtain ⟨L, hL⟩ : ∃ L, L = Lib.bitLenAux 64 (S - 1).toNat := ⟨_, rfl⟩
  have hL2 : Lib.bitLen (S - 1).toNat = L := hL.symm
  rw [← hL] at hle
  refine ⟨(L + 15) / 16, by omega, ?_, ?_, ?_⟩
  · rw [hL2, Int.tdiv_eq_ediv_of_nonneg (by omega)]; omega
  · by_cases hz : (S - 1).toNat = 0
    · have hS : S = 1 := by omega
      have hp : (0 : Int) < 2 ^ (16 * ((L + 15) / 16)) := Int.pow_pos (by decide)
      omega
    · obtain ⟨-, -, b3⟩ := Lib.bitLenAux_bounds 64 (S - 1).toNat (word_lt S h1 h2) hz
      rw [← hL] at b3
      have h4 : (2 : Nat) ^ L ≤ 2 ^ (16 * ((L + 15) / 16)) := Nat.pow_le_pow_right (by decide) (by omega)
      have h5 : ((S - 1).toNat : Int) < ((2 ^ (16 * ((L + 15) / 16)) : Nat) : Int) := Int.ofNat_lt.2 (Nat.lt_of_lt_of_le b3 h4)
      rw [Int.natCast_pow] at h5
      have h6 : ((2 : Nat) : Int) ^ (16 * ((L + 15) / 16)) = (2 : Int) ^ (16 * ((L + 15) / 16)) := rfl
      rw [h6] at h5
      omega
  · constructor
    · intro h
      by_cases hz : (S - 1).toNat = 0
      · omega
      · obtain ⟨b1, -, -⟩ := Lib.bitLenAux_bounds 64 (S - 1).toNat (word_lt S h1 h2) hz
        rw [← hL] at b1
        omega
    · intro h
      subst h
      have : L = 0 := by rw [hL]; rfl
      omega

/-- What missingCents leaves in least and ties. -/
def Rat (A S : Int) (zs : List Int) (least ties : Int) : Prop :=
  (S = 1 ∧ least = 0 ∧ ties = 0) ∨ (S ≠ 1 ∧ A - partSum A S zs = 0 ∧ least = 18446744073709551615 ∧ ties = 0) ∨
    (1 ≤ A - partSum A S zs ∧ 0 ≤ least ∧ least ≤ 18446744073709551615 ∧ 1 ≤ ties ∧ A - partSum A S zs = ties + ge A S zs 0 (least + 1) ∧ A - partSum A S zs ≤ ge A S zs 0 least)

theorem inv_word {A S : Int} {zs : List Int} {M : Int} {e : Nat} {P μ : Int} (h : Inv A S zs M e P μ) (hS : 0 < S) (hS1 : S ≤ 18446744073709551615) : P * 2 ^ e ≤ 18446744073709551615 := by
  obtain ⟨h1, h2, h3⟩ := h
  have hb := ge_bd A S zs e (P + 1)
  have hpos : 0 < zs.countP (fun x => decide (P ≤ x * A % S / 2 ^ e)) := by
    unfold ge at h3 h2 hb
    omega
  obtain ⟨x, -, hx⟩ := List.countP_pos_iff.1 hpos
  simp only [decide_eq_true_eq] at hx
  have hp : (0 : Int) < 2 ^ e := Int.pow_pos (by decide)
  have := (Int.le_ediv_iff_mul_le hp).1 hx
  have := Int.emod_lt_of_pos (x * A) hS
  omega

end Go.Proofs.Qxb6614430aFmt
