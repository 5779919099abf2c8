/-
  FnRationIsTheLargestRemainderSplit (3), the walk.
-/
import Derived.Test.Qxb6614430aFmtBad
import Derived.Test.Qxb6614430aFmtLast
namespace Go.Proofs.Qxb6614430aFmt
open Go.RowKit Go.Extern.Stop Go.Stop Go.Extern

attribute [local go_sem] Tryf.neqNil22

set_option maxHeartbeats 4000000 in
theorem law3_long (ao : Option Addr) (n cap : Nat) (A : Int) (w : World) (hn : n ≤ 9223372036854775807) (hl : 4096 < n) :
    Calls Tryf.prog 3 #[.int .i64 A, .slice ao n cap] w fun e w' => e = .returned (.bool true) ∧ w' = w := by
  by_cases h : n ≤ 1048576
  all_goals
    go_enter Tryf.func3, Tryf.ntmps3
    go_wp2_with (first | (go_at_call 5; refine (zzbytes5 _ _ _ _ _ hn).mono ?_; rintro e w' ⟨rfl, hw⟩; obtain rfl := hw.symm))
    go_ret
    exact ⟨rfl, rfl⟩

set_option maxRecDepth 4000 in
set_option maxHeartbeats 8000000 in
theorem law3_bad (ao : Option Addr) (cap : Nat) (zs : List Int) (A : Int) (w : World) (hl : zs.length ≤ 4096) (hsh : SharesIn w w.heap.size ao zs) (S : Int) (nb ob : Bool) (hS : (sums zs).1 = S) (hnb : (sums zs).2.1 = nb) (hob : (sums zs).2.2 = ob) (hbad : A < 0 ∨ nb = true ∨ ob = true) :
    Calls Tryf.prog 3 #[.int .i64 A, .slice ao zs.length cap] w fun e w' => e = .returned (.bool true) ∧ Below w.heap.size w w' := by
  obtain ⟨i0, hi, hz0, hz1, hz2⟩ := info_parts Tryf.info2
  have HS : Hid (SharesIn w w.heap.size ao zs) := hsh
  have hlen : zs.length ≤ 1048576 := by omega
  clear hsh
  cases hnil : ao.isNone
  case' false =>
    go_enter Tryf.func3, Tryf.ntmps3
    go_wp2_with (first | (go_at_call 5; refine (zzbytes5 _ _ _ _ _ (by omega)).mono ?_; rintro e w' ⟨rfl, hw⟩; obtain rfl := hw.symm) | (at_make; refine wpList_make_full _ rfl _ _ 22 rfl w.heap.size 2 i0 _ 1 Tryf.underlying22 hi hz0 hz1 .i64 .i64 _ _ zs.length rfl rfl rfl rfl (by rw [hz2]; omega) (by unfold maxLen; omega) (Nat.le_refl _) ?_; intro w1 hown hgrow; have hB : Below w.heap.size w w1 := (Below.refl _ _).grown hgrow (Nat.le_refl _) (fun k hk => by cases hk); obtain ⟨W2, hcp, SH, BL⟩ := copy_new w w1 ao cap zs (HS.later hB) hown hB; clear hown hgrow hB))
    clear hcp hnil HS
    generalize some (⟨w.heap.size, 0, none⟩ : Addr) = ao2 at SH ⊢
  case' true =>
    go_enter Tryf.func3, Tryf.ntmps3
    go_wp2_with (first | (go_at_call 5; refine (zzbytes5 _ _ _ _ _ (by omega)).mono ?_; rintro e w' ⟨rfl, hw⟩; obtain rfl := hw.symm))
    obtain ⟨ao2, rfl⟩ : ∃ x, x = ao := ⟨_, rfl⟩
    have SH : SharesIn w w.heap.size ao2 zs := HS
    have BL : Below w.heap.size w w := Below.refl _ _
    clear hnil HS
  all_goals
    clear hi hz0 hz1 hz2
    refine (zzration_bad _ _ zs A nb ob _ hl SH hnb hob hbad).mono ?_
    rintro e w3 ⟨v, rfl, BL3⟩
    have BLw := BL.trans (BL3.mono BL.size)
    have SH3 := SH.later BL3
    clear SH
    go_wp2_with fail
    refine (sumShares_any _ _ _ zs _ hl SH3).mono ?_
    rintro e w' ⟨rfl, hw⟩
    obtain rfl := hw.symm
    clear hw SH3
    rcases Classical.em (A < 0) with hA | hA
    · cases nb
      · go_wp2
        go_ret
        exact ⟨rfl, BLw⟩
      · go_wp2
        go_ret
        exact ⟨rfl, BLw⟩
    · cases nb
      · cases ob
        · simp at hbad; omega
        · go_wp2
          go_ret
          exact ⟨rfl, BLw⟩
      · go_wp2
        go_ret
        exact ⟨rfl, BLw⟩

set_option maxRecDepth 4000 in
set_option maxHeartbeats 8000000 in
theorem law3_good (ao : Option Addr) (cap : Nat) (zs : List Int) (A : Int) (w : World) (hl : zs.length ≤ 4096) (hsh : SharesIn w w.heap.size ao zs) (hA0 : 0 ≤ A) (hA1 : A ≤ 9223372036854775807) (S : Int) (hS : (sums zs).1 = S) (hnb : (sums zs).2.1 = false) (hob : (sums zs).2.2 = false) :
    Calls Tryf.prog 3 #[.int .i64 A, .slice ao zs.length cap] w fun e w' => e = .returned (.bool true) ∧ Below w.heap.size w w' := by
  have HG : Hid (Good zs S) := by
    rw [← hS]
    exact good_of zs hsh.le hnb hob
  have hS0 : 0 ≤ S := HG.2.2.2.2.2.1
  have hS1 : S ≤ 18446744073709551615 := HG.2.2.2.2.2.2
  obtain ⟨i0, hi, hz0, hz1, hz2⟩ := info_parts Tryf.info2
  have HS : Hid (SharesIn w w.heap.size ao zs) := hsh
  have hlen : zs.length ≤ 1048576 := by omega
  clear hsh
  cases hnil : ao.isNone
  case' false =>
    go_enter Tryf.func3, Tryf.ntmps3
    go_wp2_with (first | (go_at_call 5; refine (zzbytes5 _ _ _ _ _ (by omega)).mono ?_; rintro e w' ⟨rfl, hw⟩; obtain rfl := hw.symm) | (at_make; refine wpList_make_full _ rfl _ _ 22 rfl w.heap.size 2 i0 _ 1 Tryf.underlying22 hi hz0 hz1 .i64 .i64 _ _ zs.length rfl rfl rfl rfl (by rw [hz2]; omega) (by unfold maxLen; omega) (Nat.le_refl _) ?_; intro w1 hown hgrow; have hB : Below w.heap.size w w1 := (Below.refl _ _).grown hgrow (Nat.le_refl _) (fun k hk => by cases hk); obtain ⟨W2, hcp, SH, BL⟩ := copy_new w w1 ao cap zs (HS.later hB) hown hB; clear hown hgrow hB))
    clear hcp hnil HS
    generalize some (⟨w.heap.size, 0, none⟩ : Addr) = ao2 at SH ⊢
  case' true =>
    go_enter Tryf.func3, Tryf.ntmps3
    go_wp2_with (first | (go_at_call 5; refine (zzbytes5 _ _ _ _ _ (by omega)).mono ?_; rintro e w' ⟨rfl, hw⟩; obtain rfl := hw.symm))
    obtain ⟨ao2, rfl⟩ : ∃ x, x = ao := ⟨_, rfl⟩
    have SH : SharesIn w w.heap.size ao2 zs := HS
    have BL : Below w.heap.size w w := Below.refl _ _
    clear hnil HS
  all_goals
    clear hi hz0 hz1 hz2
    refine (zzration_good _ _ zs S A _ hl SH HG hA0 hA1).mono ?_
    rintro e w3 ⟨rb, rfl, hrb, ⟨least, ties, k0, k1, k2, k3, hor⟩, BL3⟩
    have BLw := BL.trans (BL3.mono BL.size)
    have SH3 := SH.later BL3
    have SH4 := SH3.up BL3.size
    clear SH
    go_wp2_with fail
    refine (sumShares_any _ _ _ zs _ hl SH3).mono ?_
    rintro e w' ⟨rfl, hw⟩
    obtain rfl := hw.symm
    clear hw SH3
    go_wp2_with fail
    refine (fields_any _ _ _ _ _ _ k0 k1 k2 k3).mono ?_
    rintro e w4 ⟨rfl, rfl⟩
    clear k0 k1 k2 k3
    rcases hor with ⟨h1, h2, h3⟩ | ⟨h1, h2⟩
    · subst h2
      subst h3
      go_wp2
      go_ret
      exact ⟨rfl, BLw.drew⟩
    · have HR : Hid (Rat A S zs least ties) := h2
      have HSH : Hid (SharesIn w3 w3.heap.size ao2 zs) := SH4
      clear h2 SH4
      go_wp2_with fail
      refine (last_any _ _ zs S A least ties _ hl (show SharesIn (World.drew w3) (World.drew w3).heap.size ao2 zs from HSH) HG hA0 hA1 h1 HR).mono ?_
      rintro e w5 ⟨rfl, BL5⟩
      go_wp2
      go_ret
      exact ⟨rfl, BLw.drew.trans (BL5.mono BLw.size)⟩

theorem law3_any (ao : Option Addr) (cap : Nat) (zs : List Int) (A : Int) (w : World) (hn : zs.length ≤ 9223372036854775807) (hsh : SharesIn w w.heap.size ao zs) (hA1 : A ≤ 9223372036854775807) :
    Calls Tryf.prog 3 #[.int .i64 A, .slice ao zs.length cap] w fun e w' => e = .returned (.bool true) ∧ Below w.heap.size w w' := by
  by_cases hl : zs.length ≤ 4096
  · by_cases hbad : A < 0 ∨ (sums zs).2.1 = true ∨ (sums zs).2.2 = true
    · exact law3_bad ao cap zs A w hl hsh _ _ _ rfl rfl rfl hbad
    · have h1 : (sums zs).2.1 = false := by
        cases h : (sums zs).2.1
        · rfl
        · exact absurd (Or.inr (Or.inl h)) hbad
      have h2 : (sums zs).2.2 = false := by
        cases h : (sums zs).2.2
        · rfl
        · exact absurd (Or.inr (Or.inr h)) hbad
      exact law3_good ao cap zs A w hl hsh (by omega) hA1 _ rfl h1 h2
  · refine (law3_long ao zs.length cap A w hn (by omega)).mono ?_
    rintro e w' ⟨h1, rfl⟩
    exact ⟨h1, Below.refl _ _⟩

end Go.Proofs.Qxb6614430aFmt
