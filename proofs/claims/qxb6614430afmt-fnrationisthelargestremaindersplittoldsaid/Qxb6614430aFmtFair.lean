/-
  The plain law of the parts. No walk here.
-/
import Derived.Test.Qxb6614430aFmtMis2
namespace Go.Proofs.Qxb6614430aFmt

/-- What the rounding cuts off. -/
def rem (A S x : Int) : Int := x * A % S
/-- How many have the cut 'least'. -/
def seen (A S least : Int) (l : List Int) : Int := (l.countP fun x => decide (rem A S x = least) : Nat)
/-- How many are cut more. -/
def more (A S least : Int) (l : List Int) : Int := (l.countP fun x => decide (least < rem A S x) : Nat)
/-- One part, where t of the cut 'least' have been before. -/
def part (A S least ties t x : Int) : Int := x * A / S + (if least < rem A S x ∨ (rem A S x = least ∧ t < ties) then 1 else 0)
/-- What the parts add up to. -/
def tot (A S least ties : Int) (l : List Int) : Int := partSum A S l + more A S least l + min (seen A S least l) ties

theorem seen_bd (A S least : Int) (l : List Int) : 0 ≤ seen A S least l ∧ seen A S least l ≤ l.length := by
  unfold seen
  have := List.countP_le_length (p := fun x => decide (rem A S x = least)) (l := l)
  omega
theorem more_bd (A S least : Int) (l : List Int) : 0 ≤ more A S least l ∧ more A S least l ≤ l.length := by
  unfold more
  have := List.countP_le_length (p := fun x => decide (least < rem A S x)) (l := l)
  omega

theorem seen_snoc (A S least : Int) (l : List Int) (x : Int) : seen A S least (l ++ [x]) = seen A S least l + (if rem A S x = least then 1 else 0) := by
  unfold seen
  rw [List.countP_append, List.countP_singleton]
  by_cases h : rem A S x = least <;> simp [h]
theorem more_snoc (A S least : Int) (l : List Int) (x : Int) : more A S least (l ++ [x]) = more A S least l + (if least < rem A S x then 1 else 0) := by
  unfold more
  rw [List.countP_append, List.countP_singleton]
  by_cases h : least < rem A S x <;> simp [h]

theorem tot_snoc (A S least ties : Int) (l : List Int) (x : Int) : tot A S least ties (l ++ [x]) = tot A S least ties l + part A S least ties (seen A S least l) x := by
  unfold tot part
  rw [seen_snoc, more_snoc, partSum_snoc]
  have h0 := (seen_bd A S least l).1
  by_cases h1 : least < rem A S x
  · have h2 : ¬ rem A S x = least := by omega
    simp only [h1, h2, if_true, if_false, true_or]
    omega
  · by_cases h2 : rem A S x = least
    · by_cases h3 : seen A S least l < ties
      · simp only [h2, h3, if_true, if_false, and_self, or_true, Int.lt_irrefl]
        omega
      · simp only [h2, h3, if_true, if_false, and_false, or_false, Int.lt_irrefl]
        omega
    · simp only [h1, h2, if_false, false_and, or_false]
      omega

theorem seen_mono (A S least : Int) (zs : List Int) (i j : Nat) (h : i ≤ j) : seen A S least (zs.take i) ≤ seen A S least (zs.take j) := by
  unfold seen
  have : (zs.take i).countP (fun x => decide (rem A S x = least)) ≤ (zs.take j).countP (fun x => decide (rem A S x = least)) :=
    List.Sublist.countP_le (List.take_sublist_take_left h)
  omega

theorem ge_zero_exp (A S : Int) (zs : List Int) (v : Int) : ge A S zs 0 v = (zs.countP fun x => decide (v ≤ rem A S x) : Nat) := by
  unfold ge rem
  have h : ∀ c : Int, c / 2 ^ 0 = c := fun c => by rw [Int.pow_zero, Int.ediv_one]
  simp only [h]

theorem more_ge (A S least : Int) (zs : List Int) : more A S least zs = ge A S zs 0 (least + 1) := by
  rw [ge_zero_exp]
  unfold more
  have h : zs.countP (fun x => decide (least < rem A S x)) = zs.countP (fun x => decide (least + 1 ≤ rem A S x)) := by
    apply List.countP_congr
    intro x _
    simp only [decide_eq_true_eq]
    omega
  rw [h]

theorem seen_more (A S least : Int) : ∀ zs : List Int, seen A S least zs + more A S least zs = ge A S zs 0 least
  | [] => by simp [seen, more, ge]
  | x :: zs => by
    have ih := seen_more A S least zs
    rw [ge_zero_exp] at ih ⊢
    simp only [seen, more, List.countP_cons] at ih ⊢
    by_cases h1 : rem A S x = least
    · have h2 : ¬ least < rem A S x := by omega
      have h3 : least ≤ rem A S x := by omega
      simp only [h1, decide_true, if_true, Int.lt_irrefl, decide_false, Int.le_refl, Bool.false_eq_true, if_false] at ih ⊢
      omega
    · by_cases h2 : least < rem A S x
      · have h3 : least ≤ rem A S x := by omega
        simp only [h1, h2, h3, decide_true, decide_false, if_true, Bool.false_eq_true, if_false] at ih ⊢
        omega
      · have h3 : ¬ least ≤ rem A S x := by omega
        simp only [h1, h2, h3, decide_false, Bool.false_eq_true, if_false] at ih ⊢
        omega

/-- The cuts' sum is at most (S - 1) for each that is not 0. -/
theorem rem_sum (A S : Int) (hS : 0 < S) : ∀ zs : List Int, (zs.map fun x => x * A % S).sum ≤ ge A S zs 0 1 * (S - 1)
  | [] => by simp [ge]
  | x :: zs => by
    have ih := rem_sum A S hS zs
    have h0 := Int.emod_nonneg (x * A) (show S ≠ 0 by omega)
    have h1 := Int.emod_lt_of_pos (x * A) hS
    rw [ge_zero_exp] at ih ⊢
    simp only [List.countP_cons, List.map_cons, List.sum_cons]
    by_cases h : 1 ≤ rem A S x
    · simp only [h, decide_true, if_true]
      rw [Int.natCast_add, Int.add_mul]
      have : ((1 : Nat) : Int) * (S - 1) = S - 1 := by simp
      omega
    · have h2 : x * A % S = 0 := by unfold rem at h; omega
      simp only [h, decide_false, Bool.false_eq_true, if_false, h2, Nat.add_zero]
      omega

/-- What the laws ask of least and ties. -/
structure Fair (A S : Int) (zs : List Int) (least ties : Int) : Prop where
  t0 : 0 ≤ ties
  t1 : ties ≤ 18446744073709551615
  l0 : 0 ≤ least
  l1 : least ≤ 18446744073709551615
  cut : ∀ t x, 0 ≤ t → x ∈ zs → least < rem A S x ∨ (rem A S x = least ∧ t < ties) → 1 ≤ rem A S x ∧ 1 ≤ A
  total : tot A S least ties zs = A

theorem fair_of {A S : Int} {zs : List Int} {least ties : Int} (hA0 : 0 ≤ A) (hAS : A < S) (hS1 : S ≤ 18446744073709551615) (hsum : zs.sum = S) (hz : ∀ x ∈ zs, 0 ≤ x) (hl : zs.length ≤ 4096) (h : Rat A S zs least ties) : Fair A S zs least ties := by
  have hS : 0 < S := by omega
  have hlt : ∀ x, 0 ≤ rem A S x ∧ rem A S x < S := fun x => ⟨Int.emod_nonneg _ (by omega), Int.emod_lt_of_pos _ hS⟩
  have hmb := missing_bd A S zs hS hsum
  rcases h with ⟨h1, h2, h3⟩ | ⟨h1, h2, h3, h4⟩ | ⟨h1, h2, h3, h4, h5, h6⟩
  · subst h2; subst h3
    have hAz : A = 0 := by omega
    refine ⟨by omega, by omega, by omega, by omega, ?_, ?_⟩
    · intro t x ht _ h
      have := hlt x
      omega
    · have hm : more A S 0 zs = 0 := by
        unfold more
        have : zs.countP (fun x => decide (0 < rem A S x)) = 0 := by
          rw [List.countP_eq_zero]
          intro x _
          have := hlt x
          simp only [decide_eq_true_eq]; omega
        rw [this]; rfl
      have hp := partSum_nonneg A S zs (fun y hy => Int.ediv_nonneg (Int.mul_nonneg (hz y hy) hA0) (by omega))
      have hs := (seen_bd A S 0 zs).1
      unfold tot
      omega
  · subst h3; subst h4
    refine ⟨by omega, by omega, by omega, by omega, ?_, ?_⟩
    · intro t x ht _ h
      have := hlt x
      omega
    · have hm : more A S 18446744073709551615 zs = 0 := by
        unfold more
        have : zs.countP (fun x => decide (18446744073709551615 < rem A S x)) = 0 := by
          rw [List.countP_eq_zero]
          intro x _
          have := hlt x
          simp only [decide_eq_true_eq]; omega
        rw [this]; rfl
      have hs := (seen_bd A S 18446744073709551615 zs).1
      unfold tot
      omega
  · have hg := ge_bd A S zs 0 (least + 1)
    have hg2 := ge_bd A S zs 0 least
    have hp := partSum_nonneg A S zs (fun y hy => Int.ediv_nonneg (Int.mul_nonneg (hz y hy) hA0) (by omega))
    have hl1 : 1 ≤ least := by
      rcases Classical.em (least = 0) with hz0 | hz0
      · exfalso
        subst hz0
        have k1 := rem_sum A S hS zs
        have k2 := cut_sum A S hS zs
        rw [hsum, Int.mul_comm S A] at k2
        have k3 : (A - partSum A S zs) * S = (zs.map fun x => x * A % S).sum := by rw [Int.sub_mul]; omega
        have k4 : ge A S zs 0 (0 + 1) = ge A S zs 0 1 := rfl
        rw [k4] at h5
        obtain ⟨G, hG⟩ : ∃ G, G = ge A S zs 0 1 := ⟨_, rfl⟩
        rw [← hG] at h5 k1
        rw [← k3, h5] at k1
        have k5 : G * (S - 1) = G * S - G := by rw [Int.mul_sub, Int.mul_one]
        have k6 : (ties + G) * S = ties * S + G * S := Int.add_mul _ _ _
        have k7 : 0 < ties * S := Int.mul_pos (by omega) hS
        have hG0 : 0 ≤ G := by rw [hG]; exact (ge_bd A S zs 0 1).1
        omega
      · omega
    refine ⟨by omega, by omega, by omega, by omega, ?_, ?_⟩
    · intro t x _ _ h
      omega
    · have e1 := more_ge A S least zs
      have e2 := seen_more A S least zs
      unfold tot
      omega

/-- No part is above its ask. -/
theorem part_le {A S : Int} {zs : List Int} {least ties t x : Int} (F : Fair A S zs least ties) (hA0 : 0 ≤ A) (hAS : A < S) (hx : x ∈ zs) (hx0 : 0 ≤ x) (ht : 0 ≤ t) : 0 ≤ part A S least ties t x ∧ part A S least ties t x ≤ x := by
  have hS : 0 < S := by omega
  have h1 := Int.emod_add_mul_ediv (x * A) S
  have hq : 0 ≤ x * A / S := Int.ediv_nonneg (Int.mul_nonneg hx0 hA0) (by omega)
  have hr := Int.emod_nonneg (x * A) (show S ≠ 0 by omega)
  have hxA : x * A ≤ x * S := Int.mul_le_mul_of_nonneg_left (by omega) hx0
  unfold part
  split
  · rename_i h
    have hc := (F.cut t x ht hx h).1
    unfold rem at hc
    refine ⟨by omega, ?_⟩
    have h2 : S * (x * A / S) < S * x := by rw [Int.mul_comm S x]; omega
    have := Int.lt_of_mul_lt_mul_left h2 (by omega)
    omega
  · refine ⟨by omega, ?_⟩
    have h2 : S * (x * A / S) ≤ S * x := by rw [Int.mul_comm S x]; omega
    have := Int.le_of_mul_le_mul_left h2 hS
    omega

/-- A larger ask never gets less. -/
theorem part_mono {A S : Int} {zs : List Int} {least ties t u x y : Int} (F : Fair A S zs least ties) (hA0 : 0 ≤ A) (hS : 0 < S) (hx : x ∈ zs) (ht : 0 ≤ t) (hxy : x < y) : part A S least ties t x ≤ part A S least ties u y := by
  have h1 := Int.emod_add_mul_ediv (x * A) S
  have h2 := Int.emod_add_mul_ediv (y * A) S
  have hA : x * A ≤ y * A := Int.mul_le_mul_of_nonneg_right (by omega) hA0
  have hq : x * A / S ≤ y * A / S := Int.ediv_le_ediv hS hA
  unfold part
  rcases Classical.em (x * A / S = y * A / S) with he | he
  · rw [he] at h1
    split
    · rename_i h
      have hc := (F.cut t x ht hx h).2
      have hlt : x * A < y * A := Int.mul_lt_mul_of_pos_right hxy (by omega)
      have hr : rem A S x < rem A S y := by unfold rem; omega
      have hb : least < rem A S y ∨ (rem A S y = least ∧ u < ties) := by omega
      rw [if_pos hb]
      omega
    · split <;> omega
  · split <;> split <;> omega

/-- Equal asks differ by at most a cent, the earlier not smaller. -/
theorem part_same (A S least ties t u x : Int) (h : t ≤ u) : part A S least ties u x ≤ part A S least ties t x ∧ part A S least ties t x ≤ part A S least ties u x + 1 := by
  unfold part
  split <;> split <;> omega

end Go.Proofs.Qxb6614430aFmt
