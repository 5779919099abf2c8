/-
  The plain law of the selection by digits. No walk here.
-/
import Derived.Test.Qxb6614430aFmtAsk
namespace Go.Proofs.Qxb6614430aFmt

/-- How many cuts, shifted right by e, are at least v. -/
def ge (A S : Int) (zs : List Int) (e : Nat) (v : Int) : Int := (zs.countP fun x => decide (v ≤ x * A % S / 2 ^ e) : Nat)

theorem ge_bd (A S : Int) (zs : List Int) (e : Nat) (v : Int) : 0 ≤ ge A S zs e v ∧ ge A S zs e v ≤ zs.length := by
  unfold ge
  have := List.countP_le_length (p := fun x => decide (v ≤ x * A % S / 2 ^ e)) (l := zs)
  omega

theorem shift16 (c : Int) (e : Nat) : c / 2 ^ (e + 16) = c / 2 ^ e / 65536 := by
  rw [Int.pow_add, div_div_pos _ _ _ (Int.pow_pos (by decide))]; rfl

theorem ge_scale (A S : Int) (zs : List Int) (e : Nat) (v : Int) : ge A S zs e (v * 65536) = ge A S zs (e + 16) v := by
  have h : zs.countP (fun x => decide (v * 65536 ≤ x * A % S / 2 ^ e)) = zs.countP (fun x => decide (v ≤ x * A % S / 2 ^ (e + 16))) := by
    apply List.countP_congr
    intro x _
    simp only [decide_eq_true_eq]
    rw [shift16]
    omega
  unfold ge
  rw [h]

theorem ge_zero (A S : Int) (zs : List Int) (e : Nat) (h : ∀ x ∈ zs, 0 ≤ x * A % S) : ge A S zs e 0 = zs.length := by
  unfold ge
  congr 1
  rw [List.countP_eq_length]
  intro x hx
  simp only [decide_eq_true_eq]
  exact Int.ediv_nonneg (h x hx) (Int.le_of_lt (Int.pow_pos (by decide)))

theorem ge_one (A S : Int) (zs : List Int) (e : Nat) (h : ∀ x ∈ zs, 0 ≤ x * A % S ∧ x * A % S < 2 ^ e) : ge A S zs e 1 = 0 := by
  unfold ge
  have : zs.countP (fun x => decide (1 ≤ x * A % S / 2 ^ e)) = 0 := by
    rw [List.countP_eq_zero]
    intro x hx
    simp only [decide_eq_true_eq]
    rw [Int.ediv_eq_zero_of_lt (h x hx).1 (h x hx).2]
    omega
  rw [this]; rfl

/-- The count of one digit is the fall of 'ge' there. -/
theorem cnt_ge (A S : Int) (e : Nat) (P : Int) (j : Nat) (hj : j < 65536) : ∀ zs : List Int,
    cntOf (fun x => x * A % S / 2 ^ (e + 16) == P) (fun x => (x * A % S / 2 ^ e % 65536).toNat) zs j = ge A S zs e (P * 65536 + j) - ge A S zs e (P * 65536 + j + 1)
  | [] => by simp [cntOf, ge]
  | x :: zs => by
    have ih := cnt_ge A S e P j hj zs
    obtain ⟨c, hc⟩ : ∃ c, c = x * A % S / 2 ^ e := ⟨_, rfl⟩
    have h16 : x * A % S / 2 ^ (e + 16) = c / 65536 := by rw [shift16, hc]
    simp only [cntOf, ge] at ih ⊢
    simp only [List.filter_cons, List.countP_cons, h16, ← hc]
    by_cases h : c = P * 65536 + j
    · have t1 : (c / 65536 == P && (c % 65536).toNat == j) = true := by
        simp only [Bool.and_eq_true, beq_iff_eq]; omega
      have t2 : decide (P * 65536 + (j : Int) ≤ c) = true := by simp; omega
      have t3 : decide (P * 65536 + (j : Int) + 1 ≤ c) = false := by simp; omega
      simp only [t1, t2, t3, if_true, List.length_cons, Bool.false_eq_true, if_false]
      omega
    · have t1 : (c / 65536 == P && (c % 65536).toNat == j) = false := by
        rw [Bool.eq_false_iff]
        simp only [ne_eq, Bool.and_eq_true, beq_iff_eq]; omega
      by_cases h2 : P * 65536 + j ≤ c
      · have t2 : decide (P * 65536 + (j : Int) ≤ c) = true := by simp; omega
        have t3 : decide (P * 65536 + (j : Int) + 1 ≤ c) = true := by simp; omega
        simp only [t1, t2, t3, if_true, Bool.false_eq_true, if_false]
        omega
      · have t2 : decide (P * 65536 + (j : Int) ≤ c) = false := by simp; omega
        have t3 : decide (P * 65536 + (j : Int) + 1 ≤ c) = false := by simp; omega
        simp only [t1, t2, t3, Bool.false_eq_true, if_false]
        omega

/-- The digits found so far are P, and μ cents are left for the cuts that begin with P. -/
def Inv (A S : Int) (zs : List Int) (M : Int) (e : Nat) (P μ : Int) : Prop := 1 ≤ μ ∧ M = μ + ge A S zs e (P + 1) ∧ M ≤ ge A S zs e P

theorem inv_step {A S : Int} {zs : List Int} {M : Int} {e : Nat} {P μ : Int} {d : Nat} (hd : d < 65536) (h1 : 1 ≤ μ) (hM : M = μ + ge A S zs e (P * 65536 + d + 1))
    (hc : μ ≤ cntOf (fun x => x * A % S / 2 ^ (e + 16) == P) (fun x => (x * A % S / 2 ^ e % 65536).toNat) zs d) : Inv A S zs M e (P * 65536 + d) μ := by
  rw [cnt_ge A S e P d hd] at hc
  exact ⟨h1, hM, by omega⟩

/-! ### sums -/
theorem cut_sum (A S : Int) (hS : 0 < S) : ∀ zs : List Int, partSum A S zs * S + (zs.map fun x => x * A % S).sum = zs.sum * A
  | [] => by simp [partSum]
  | x :: zs => by
    have ih := cut_sum A S hS zs
    have h := Int.emod_add_mul_ediv (x * A) S
    simp only [partSum, List.map_cons, List.sum_cons] at ih ⊢
    rw [Int.add_mul, Int.add_mul, ← ih]
    rw [Int.mul_comm S] at h
    omega

theorem cut_sum_bd (A S : Int) (hS : 0 < S) : ∀ zs : List Int, 0 ≤ (zs.map fun x => x * A % S).sum ∧ (zs.map fun x => x * A % S).sum + zs.length ≤ zs.length * S
  | [] => by simp
  | x :: zs => by
    obtain ⟨h1, h2⟩ := cut_sum_bd A S hS zs
    have h3 := Int.emod_nonneg (x * A) (show S ≠ 0 by omega)
    have h4 := Int.emod_lt_of_pos (x * A) hS
    simp only [List.map_cons, List.sum_cons, List.length_cons]
    have e : ((zs.length + 1 : Nat) : Int) * S = zs.length * S + S := by rw [Int.natCast_add, Int.add_mul]; simp
    rw [e]
    omega

/-- The cents that are missing: none, or fewer than there are shares. -/
theorem missing_bd (A S : Int) (zs : List Int) (hS : 0 < S) (hsum : zs.sum = S) : partSum A S zs ≤ A ∧ A - partSum A S zs < zs.length := by
  have h1 := cut_sum A S hS zs
  obtain ⟨h2, h3⟩ := cut_sum_bd A S hS zs
  rw [hsum, Int.mul_comm S A] at h1
  have hne : 0 < zs.length := by
    cases zs with
    | nil => simp at hsum; omega
    | cons x l => simp
  have e1 : (A - partSum A S zs) * S = (zs.map fun x => x * A % S).sum := by rw [Int.sub_mul]; omega
  constructor
  · have : 0 ≤ (A - partSum A S zs) * S := by omega
    have := Int.nonneg_of_mul_nonneg_left this hS
    omega
  · have h5 : (A - partSum A S zs) * S < zs.length * S := by omega
    exact Int.lt_of_mul_lt_mul_right h5 (by omega)

theorem partSum_append (A S : Int) (a b : List Int) : partSum A S (a ++ b) = partSum A S a + partSum A S b := by simp [partSum]

theorem partSum_take_le (A S : Int) (zs : List Int) (hA0 : 0 ≤ A) (hS : 0 < S) (hz : ∀ x ∈ zs, 0 ≤ x) (k : Nat) : partSum A S (zs.take k) ≤ partSum A S zs := by
  have h := partSum_append A S (zs.take k) (zs.drop k)
  rw [List.take_append_drop] at h
  have h2 := partSum_nonneg A S (zs.drop k) (fun y hy => Int.ediv_nonneg (Int.mul_nonneg (hz y (List.mem_of_mem_drop hy)) hA0) (by omega))
  omega

end Go.Proofs.Qxb6614430aFmt
