/-
  FnRationGivesEachItsShareToTheCent (4), the walk.
-/
import Derived.Test.Qxb6614430aFmtCopy
import Derived.Deep.QuietTactic
import Derived.BigQuiet
namespace Go.Proofs.Qxb6614430aFmt
open Go.RowKit

/-- The j-th part. -/
def pr (A S least ties : Int) (zs : List Int) (j : Nat) : Int := part A S least ties (seen A S least (zs.take j)) (zs.getD j 0)
/-- The first k parts are laid. -/
def prTo (A S least ties : Int) (zs : List Int) (k j : Nat) : Int := if j < k then pr A S least ties zs j else 0

/-- What stands through the loops. -/
structure Keep (w : World) (pb : Nat) (ao : Option Addr) (zs : List Int) (p : Nat → Int) (W : World) : Prop where
  sh : SharesIn W pb ao zs
  row : RowAt pb zs.length p W
  bel : Below w.heap.size w W
  lo : w.heap.size ≤ pb

theorem Keep.drew {w : World} {pb : Nat} {ao : Option Addr} {zs : List Int} {p : Nat → Int} {W : World} (h : Keep w pb ao zs p W) : Keep w pb ao zs p W.drew := ⟨h.sh, h.row, h.bel.drew, h.lo⟩

theorem Keep.put {w : World} {pb : Nat} {ao : Option Addr} {zs : List Int} {W : World} {A S least ties : Int} {k : Nat} (h : Keep w pb ao zs (prTo A S least ties zs k) W) (v : Int) (hv : pr A S least ties zs k = v) :
    Keep w pb ao zs (prTo A S least ties zs (k + 1)) (W.setCell ⟨pb, k, none⟩ (.int .u64 v)) := by
  refine ⟨?_, h.row.put k v (by simp [prTo, hv]) (fun j hj => ?_), Below.setCell (p := ⟨pb, k, none⟩) h.bel h.lo _, h.lo⟩
  · intro i x hx
    obtain ⟨sb, so, e, hlt, hc, r⟩ := h.sh i x hx
    exact ⟨sb, so, e, hlt, by rw [set_far (by show pb ≠ sb; omega)]; exact hc, r⟩
  · simp only [prTo]
    by_cases h1 : j < k
    · rw [if_pos (by omega), if_pos h1]
    · rw [if_neg (by omega), if_neg h1]

theorem pr_at {A S least ties : Int} {zs : List Int} {k : Nat} {x : Int} (hx : zs[k]? = some x) : pr A S least ties zs k = part A S least ties (seen A S least (zs.take k)) x := by
  simp [pr, List.getD, hx]

theorem Keep.drewN {w : World} {pb : Nat} {ao : Option Addr} {zs : List Int} {p : Nat → Int} {W : World} (h : Keep w pb ao zs p W) (n : Nat) : Keep w pb ao zs p (W.drewN n) := ⟨h.sh, h.row, ⟨h.bel.os, h.bel.tape, h.bel.output, h.bel.size, h.bel.block⟩, h.lo⟩

attribute [local go_sem] Tryf.neqNil22

set_option maxRecDepth 8000 in
set_option maxHeartbeats 4000000 in
theorem law4_long (ao : Option Addr) (n cap : Nat) (A : Int) (w : World) (hn : n ≤ 9223372036854775807) (hl : 4096 < n) :
    Calls Tryf.prog 4 #[.int .i64 A, .slice ao n cap] w fun e w' => e = .returned (.bool true) ∧ w' = w := by
  by_cases h : n ≤ 1048576
  all_goals
    go_enter Tryf.func4, Tryf.ntmps4
    go_wp2_with (first | (go_at_call 10; refine (zzbytes10 _ _ _ _ _ hn).mono ?_; rintro e w' ⟨rfl, hw⟩; obtain rfl := hw.symm))
    go_ret
    exact ⟨rfl, rfl⟩

set_option maxRecDepth 8000 in
set_option maxHeartbeats 8000000 in
theorem law4_bad (ao : Option Addr) (cap : Nat) (zs : List Int) (A : Int) (w : World) (hl : zs.length ≤ 4096) (hsh : SharesIn w w.heap.size ao zs) (S : Int) (nb ob : Bool) (hS : (sums zs).1 = S) (hnb : (sums zs).2.1 = nb) (hob : (sums zs).2.2 = ob) (hbad : A < 0 ∨ nb = true ∨ ob = true) :
    Calls Tryf.prog 4 #[.int .i64 A, .slice ao zs.length cap] w fun e w' => e = .returned (.bool true) ∧ Below w.heap.size w w' := by
  obtain ⟨i0, hi, hz0, hz1, hz2⟩ := info_parts Tryf.info2
  have HS : Hid (SharesIn w w.heap.size ao zs) := hsh
  have hlen : zs.length ≤ 1048576 := by omega
  clear hsh
  cases hnil : ao.isNone
  case' false =>
    go_enter Tryf.func4, Tryf.ntmps4
    go_wp2_with (first | (go_at_call 10; refine (zzbytes10 _ _ _ _ _ (by omega)).mono ?_; rintro e w' ⟨rfl, hw⟩; obtain rfl := hw.symm) | (at_make; refine wpList_make_full _ rfl _ _ 22 rfl w.heap.size 2 i0 _ 1 Tryf.underlying22 hi hz0 hz1 .i64 .i64 _ _ zs.length rfl rfl rfl rfl (by rw [hz2]; omega) (by unfold maxLen; omega) (Nat.le_refl _) ?_; intro w1 hown hgrow; have hB : Below w.heap.size w w1 := (Below.refl _ _).grown hgrow (Nat.le_refl _) (fun k hk => by cases hk); obtain ⟨W2, hcp, SH, BL⟩ := copy_new w w1 ao cap zs (HS.later hB) hown hB; clear hown hgrow hB))
    clear hcp hnil HS
    generalize some (⟨w.heap.size, 0, none⟩ : Addr) = ao2 at SH ⊢
  case' true =>
    go_enter Tryf.func4, Tryf.ntmps4
    go_wp2_with (first | (go_at_call 10; refine (zzbytes10 _ _ _ _ _ (by omega)).mono ?_; rintro e w' ⟨rfl, hw⟩; obtain rfl := hw.symm))
    obtain ⟨ao2, rfl⟩ : ∃ x, x = ao := ⟨_, rfl⟩
    have SH : SharesIn w w.heap.size ao2 zs := HS
    have BL : Below w.heap.size w w := Below.refl _ _
    clear hnil HS
  all_goals
    clear hi hz0 hz1 hz2
    refine (sumShares_any _ _ _ zs _ hl SH).mono ?_
    rintro e w' ⟨rfl, hw⟩
    obtain rfl := hw.symm
    clear hw
    rcases Classical.em (A < 0) with hA | hA
    · go_wp2
      go_ret
      exact ⟨rfl, BL⟩
    · cases nb
      · cases ob
        · simp at hbad; omega
        · go_wp2
          go_ret
          exact ⟨rfl, BL⟩
      · go_wp2
        go_ret
        exact ⟨rfl, BL⟩

set_option maxRecDepth 8000 in
set_option maxHeartbeats 8000000 in
theorem law4_good (ao : Option Addr) (cap : Nat) (zs : List Int) (A : Int) (w : World) (hl : zs.length ≤ 4096) (hsh : SharesIn w w.heap.size ao zs) (hA0 : 0 ≤ A) (hA1 : A ≤ 9223372036854775807) (S : Int) (hS : (sums zs).1 = S) (hnb : (sums zs).2.1 = false) (hob : (sums zs).2.2 = false) :
    Calls Tryf.prog 4 #[.int .i64 A, .slice ao zs.length cap] w fun e w' => e = .returned (.bool true) ∧ Below w.heap.size w w' := by
  obtain ⟨i1, hj, hy0, hy1, hy2⟩ := info_parts Tryf.info29
  have HG : Hid (Good zs S) := by
    rw [← hS]
    exact good_of zs hsh.le hnb hob
  have hS0 : 0 ≤ S := HG.2.2.2.2.2.1
  have hS1 : S ≤ 18446744073709551615 := HG.2.2.2.2.2.2
  obtain ⟨i0, hi, hz0, hz1, hz2⟩ := info_parts Tryf.info2
  have HS : Hid (SharesIn w w.heap.size ao zs) := hsh
  have hlen : zs.length ≤ 1048576 := by omega
  clear hsh
  cases hnil : ao.isNone
  case' false =>
    go_enter Tryf.func4, Tryf.ntmps4
    go_wp2_with (first | (go_at_call 10; refine (zzbytes10 _ _ _ _ _ (by omega)).mono ?_; rintro e w' ⟨rfl, hw⟩; obtain rfl := hw.symm) | (at_make; refine wpList_make_full _ rfl _ _ 22 rfl w.heap.size 2 i0 _ 1 Tryf.underlying22 hi hz0 hz1 .i64 .i64 _ _ zs.length rfl rfl rfl rfl (by rw [hz2]; omega) (by unfold maxLen; omega) (Nat.le_refl _) ?_; intro w1 hown hgrow; have hB : Below w.heap.size w w1 := (Below.refl _ _).grown hgrow (Nat.le_refl _) (fun k hk => by cases hk); obtain ⟨W2, hcp, SH, BL⟩ := copy_new w w1 ao cap zs (HS.later hB) hown hB; clear hown hgrow hB))
    clear hcp hnil HS
    generalize some (⟨w.heap.size, 0, none⟩ : Addr) = ao2 at SH ⊢
  case' true =>
    go_enter Tryf.func4, Tryf.ntmps4
    go_wp2_with (first | (go_at_call 10; refine (zzbytes10 _ _ _ _ _ (by omega)).mono ?_; rintro e w' ⟨rfl, hw⟩; obtain rfl := hw.symm))
    obtain ⟨ao2, rfl⟩ : ∃ x, x = ao := ⟨_, rfl⟩
    have SH : SharesIn w w.heap.size ao2 zs := HS
    have BL : Below w.heap.size w w := Below.refl _ _
    clear hnil HS
  all_goals
    clear hi hz0 hz1 hz2
    refine (sumShares_any _ _ _ zs _ hl SH).mono ?_
    rintro e w' ⟨rfl, hw⟩
    obtain rfl := hw.symm
    clear hw
    go_wp2_with fail
    refine (zzration_good _ _ zs S A _ hl SH HG hA0 hA1).mono ?_
    rintro e w3 ⟨rb, rfl, hrb, ⟨least, ties, k0, k1, k2, k3, hor⟩, BL3⟩
    go_wp2_with fail
    refine (fields_any _ _ _ _ _ _ k0 k1 k2 k3).mono ?_
    rintro e w4 ⟨rfl, rfl⟩
    have BLw := BL.trans (BL3.mono BL.size)
    have SH3 := SH.later BL3
    have hsz3 := BL3.size
    clear k0 k1 k2 k3 SH
    rcases Classical.em (S ≤ A) with hSA | hSA
    · go_wp2
      go_ret
      exact ⟨rfl, BLw.drew⟩
    · have HF : Hid (Fair A S zs least ties) := by
        have hrat : Rat A S zs least ties := by
          rcases hor with h | h
          · omega
          · exact h.2
        exact fair_of hA0 (by omega) hS1 HG.2.2.2.1 (fun x hx => (HG.2.2.2.2.1 x hx).1) hl hrat
      clear hor
      have SH4 := SH3.up hsz3
      go_wp2_with (first | (at_make; refine wpList_make_full _ rfl _ _ 36 rfl w3.heap.size 29 i1 _ 1 Tryf.underlying36 hj hy0 hy1 .i64 .i64 _ _ zs.length rfl rfl rfl rfl (by rw [hy2]; omega) (by unfold maxLen; omega) (Nat.le_refl _) ?_; intro w5 hown hgrow))
      have hB5 : Below w3.heap.size w3 w5 := (Below.refl _ _).drew.grown hgrow (Nat.le_refl _) (fun k hk => by cases hk)
      have HK0 : Keep w w3.heap.size ao2 zs (prTo A S least ties zs 0) w5 := ⟨SH4.later hB5, row_new hown, BLw.trans (hB5.mono BLw.size), BLw.size⟩
      clear hown hgrow hB5 SH4 SH3 BLw hj hy0 hy1 hy2
      generalize w3.heap.size = pb at HK0 ⊢
      go_loopw [19, 17, 18] (fun j t s wr => ∃ k : Nat, j = .int .i64 k ∧ k ≤ zs.length ∧ t = .int .u64 (tot A S least ties (zs.take k)) ∧ s = .int .u64 (seen A S least (zs.take k)) ∧ Keep w pb ao2 zs (prTo A S least ties zs k) wr) (fun j _ _ _ => zs.length - (intOf j).toNat)
      case atStart =>
        refine ⟨0, rfl, by omega, ?_, ?_, HK0⟩
        · have := HF.t0
          simp [tot, partSum, more, seen]; omega
        · simp [seen]
      case round =>
        obtain ⟨k, rfl, hk, rfl, rfl, HK⟩ := hrel
        clear HK0
        by_cases hlt : k < zs.length
        · have hx := List.getElem?_eq_getElem hlt
          have hmem : zs[k] ∈ zs := List.getElem_mem hlt
          obtain ⟨x, hxe⟩ : ∃ x, x = zs[k] := ⟨_, rfl⟩
          rw [← hxe] at hx hmem
          obtain ⟨sb, so, rfl, -, hc, -, hx1⟩ := HK.sh k x hx
          obtain ⟨hx0, hxS⟩ := HG.2.2.2.2.1 x hmem
          have hcell := (HK.row k hlt).1
          have hfz := (HK.row k hlt).2
          obtain ⟨c0, hc0⟩ : ∃ c0, c0 = prTo A S least ties zs k k := ⟨_, rfl⟩
          rw [← hc0] at hcell
          have hsb := seen_bd A S least (zs.take k)
          have htk : (zs.take k).length ≤ k := List.length_take_le _ _
          have hpl := part_le HF hA0 (by omega) hmem hx0 hsb.1
          have hpr := pr_at (A := A) (S := S) (least := least) (ties := ties) hx
          have hts : tot A S least ties (zs.take (k + 1)) = tot A S least ties (zs.take k) + part A S least ties (seen A S least (zs.take k)) x := by rw [take_snoc zs k hlt, tot_snoc, hxe]
          have hss : seen A S least (zs.take (k + 1)) = seen A S least (zs.take k) + (if rem A S x = least then 1 else 0) := by rw [take_snoc zs k hlt, seen_snoc, hxe]
          have htbA : ∀ k, k ≤ zs.length → 0 ≤ tot A S least ties (zs.take k) ∧ tot A S least ties (zs.take k) ≤ 9223372036854783999 := by
            intro k hk
            have htk : (zs.take k).length ≤ k := List.length_take_le _ _
            have hsb := seen_bd A S least (zs.take k)
            have h1 := partSum_take_le A S zs hA0 (by omega) (fun x hx => (HG.2.2.2.2.1 x hx).1) k
            have h2 := missing_bd A S zs (by omega) HG.2.2.2.1
            have h3 := more_bd A S least (zs.take k)
            have h4 := partSum_nonneg A S (zs.take k) (fun y hy => Int.ediv_nonneg (Int.mul_nonneg (HG.2.2.2.2.1 y (List.mem_of_mem_take hy)).1 hA0) hS0)
            have h5 := HF.t0
            unfold tot
            omega
          have htb := htbA k hk
          have htb2 := htbA (k + 1) hlt
          rw [hts] at htb2
          clear htbA
          have hq : x * A < S * 18446744073709551616 := by
            have h1 : x * A ≤ S * A := Int.mul_le_mul_of_nonneg_right hxS hA0
            have h2 : S * A < S * 18446744073709551616 := Int.mul_lt_mul_of_pos_left (by omega) (by omega)
            omega
          have HL := long_any x A S wr hx0 (by omega) hA0 (by omega) (by omega) hS1 hq
          obtain ⟨q, hqe⟩ : ∃ q, q = x * A / S := ⟨_, rfl⟩
          obtain ⟨r, hre⟩ : ∃ r, r = x * A % S := ⟨_, rfl⟩
          have hrr : rem A S x = r := hre.symm
          have hq0 : 0 ≤ q := by rw [hqe]; exact Int.ediv_nonneg (Int.mul_nonneg hx0 hA0) hS0
          have hr0 : 0 ≤ r := by rw [hre]; exact Int.emod_nonneg _ (by omega)
          have hr1 : r < S := by rw [hre]; exact Int.emod_lt_of_pos _ (by omega)
          have hpe : part A S least ties (seen A S least (zs.take k)) x = q + (if least < r ∨ (r = least ∧ seen A S least (zs.take k) < ties) then 1 else 0) := by rw [hqe, ← hrr]; rfl
          rw [← hqe, ← hre] at HL
          rw [hrr] at hss
          obtain ⟨t, ht⟩ : ∃ t, t = tot A S least ties (zs.take k) := ⟨_, rfl⟩
          obtain ⟨s, hs⟩ : ∃ s, s = seen A S least (zs.take k) := ⟨_, rfl⟩
          rw [← ht] at htb htb2 hts ⊢
          rw [← hs] at hsb hpl hpr htb2 hts hss hpe ⊢
          obtain ⟨p, hp⟩ : ∃ p, p = part A S least ties s x := ⟨_, rfl⟩
          rw [← hp] at hpl hpr htb2 hts hpe
          have ht0 := HF.t0
          have ht1 := HF.t1
          have hl0 := HF.l0
          have hl1 := HF.l1
          have HH : Hid (Keep w pb (some ⟨sb, so, none⟩) zs (prTo A S least ties zs k) wr ∧ pr A S least ties zs k = p ∧ tot A S least ties (zs.take (k + 1)) = t + p) := ⟨HK, hpr, hts⟩
          have HSS : Hid (seen A S least (zs.take (k + 1)) = s + (if r = least then 1 else 0)) := hss
          clear HK hpr hts hss ht hs hp hre hqe hrr hc0 hxe hx hmem hq
          have hq1 : q ≤ 9223372036854775807 := by
            have : q ≤ p := by rw [hpe]; split <;> omega
            omega
          have htb0 : 0 ≤ t := htb.1
          have htb1 : t ≤ 9223372036854783999 := by omega
          have hqp : q ≤ p := by rw [hpe]; split <;> omega
          have hwt1 : IntKind.u64.wrap (t + (q + 1)) = t + (q + 1) := by rw [IntKind.wrap_u64]; omega
          have hwt0 : IntKind.u64.wrap (t + q) = t + q := by rw [IntKind.wrap_u64]; omega
          rcases Classical.em (least < r) with h1 | h1
          · have h2 : p = q + 1 := by rw [hpe, if_pos (Or.inl h1)]
            have h3 : ¬ r = least := by omega
            clear hpe
            go_wp2_with (first | (go_at_call 11; refine HL.mono ?_; clear HL; rintro e w6 ⟨rfl, hw6⟩; obtain rfl := hw6.symm))
            go_roundw
            case rel => exact ⟨k + 1, by go_num, by omega, by rw [HH.2.2, h2], by rw [HSS, if_neg h3]; simp, by have h := HH.1.put p HH.2.1; rw [h2] at h; exact h⟩
            case measure => simp [intOf] <;> omega
          rcases Classical.em (r = least) with h3 | h3
          · rcases Classical.em (s < ties) with h4 | h4
            · have h2 : p = q + 1 := by rw [hpe, if_pos (Or.inr ⟨h3, h4⟩)]
              clear hpe
              go_wp2_with (first | (go_at_call 11; refine HL.mono ?_; clear HL; rintro e w6 ⟨rfl, hw6⟩; obtain rfl := hw6.symm))
              go_roundw
              case rel => exact ⟨k + 1, by go_num, by omega, by rw [HH.2.2, h2], by rw [HSS, if_pos h3], by have h := HH.1.put p HH.2.1; rw [h2] at h; exact h⟩
              case measure => simp [intOf] <;> omega
            · have h2 : p = q := by rw [hpe, if_neg (by omega)]; simp
              clear hpe
              go_wp2_with (first | (go_at_call 11; refine HL.mono ?_; clear HL; rintro e w6 ⟨rfl, hw6⟩; obtain rfl := hw6.symm))
              go_roundw
              case rel => exact ⟨k + 1, by go_num, by omega, by rw [HH.2.2, h2], by rw [HSS, if_pos h3], by have h := HH.1.put p HH.2.1; rw [h2] at h; exact h⟩
              case measure => simp [intOf] <;> omega
          · have h2 : p = q := by rw [hpe, if_neg (by omega)]; simp
            clear hpe
            go_wp2_with (first | (go_at_call 11; refine HL.mono ?_; clear HL; rintro e w6 ⟨rfl, hw6⟩; obtain rfl := hw6.symm))
            go_roundw
            case rel => exact ⟨k + 1, by go_num, by omega, by rw [HH.2.2, h2], by rw [HSS, if_neg h3]; simp, by have h := HH.1.put p HH.2.1; rw [h2] at h; exact h⟩
            case measure => simp [intOf] <;> omega
        · have hk' : k = zs.length := by omega
          subst hk'
          rw [List.take_length, HF.total]
          clear hlt
          go_wp2
          go_loopw [22] (fun i wr => ∃ k : Nat, i = .int .i64 k ∧ k ≤ zs.length ∧ Keep w pb ao2 zs (prTo A S least ties zs zs.length) wr) (fun i _ => zs.length - (intOf i).toNat)
          case atStart => exact ⟨0, rfl, by omega, HK⟩
          case round =>
            clear HK
            obtain ⟨i, rfl, hi, HK⟩ := hrel
            by_cases hilt : i < zs.length
            · obtain ⟨a, hae⟩ : ∃ a, a = zs[i] := ⟨_, rfl⟩
              have hia : zs[i]? = some a := by rw [hae]; exact List.getElem?_eq_getElem hilt
              clear hae
              go_wp2
              go_loopw [23] (fun j wr => ∃ k : Nat, j = .int .i64 k ∧ i + 1 ≤ k ∧ k ≤ zs.length ∧ Keep w pb ao2 zs (prTo A S least ties zs zs.length) wr) (fun j _ => zs.length - (intOf j).toNat)
              case atStart => exact ⟨i + 1, by go_num, by omega, by omega, HK⟩
              case round =>
                clear HK
                obtain ⟨j, rfl, hij, hj, HK⟩ := hrel
                by_cases hjlt : j < zs.length
                · obtain ⟨b, hbe⟩ : ∃ b, b = zs[j] := ⟨_, rfl⟩
                  have hjb : zs[j]? = some b := by rw [hbe]; exact List.getElem?_eq_getElem hjlt
                  clear hbe
                  have hma : a ∈ zs := List.mem_of_getElem? hia
                  have hmb : b ∈ zs := List.mem_of_getElem? hjb
                  obtain ⟨p, hpe⟩ : ∃ p, p = prTo A S least ties zs zs.length i := ⟨_, rfl⟩
                  obtain ⟨q, hqe⟩ : ∃ q, q = prTo A S least ties zs zs.length j := ⟨_, rfl⟩
                  have cp := (HK.row i hilt).1
                  have cq := (HK.row j hjlt).1
                  rw [← hpe] at cp
                  rw [← hqe] at cq
                  have hp2 : p = part A S least ties (seen A S least (zs.take i)) a := by rw [hpe, ← pr_at hia]; simp [prTo, hilt]
                  have hq2 : q = part A S least ties (seen A S least (zs.take j)) b := by rw [hqe, ← pr_at hjb]; simp [prTo, hjlt]
                  have hsi := (seen_bd A S least (zs.take i)).1
                  have hsj := (seen_bd A S least (zs.take j)).1
                  have hga := HG.2.2.2.2.1 a hma
                  have hgb := HG.2.2.2.2.1 b hmb
                  have f1 : a < b → p ≤ q := fun h => by rw [hp2, hq2]; exact part_mono HF hA0 (by omega) hma hsi h
                  have f2 : b < a → q ≤ p := fun h => by rw [hp2, hq2]; exact part_mono HF hA0 (by omega) hmb hsj h
                  have f3 : a = b → q ≤ p ∧ p ≤ q + 1 := fun h => by rw [hp2, hq2, h]; exact part_same _ _ _ _ _ _ _ (seen_mono A S least zs i j (by omega))
                  have b1 : 0 ≤ p ∧ p ≤ a := by rw [hp2]; exact part_le HF hA0 (by omega) hma hga.1 hsi
                  have b2 : 0 ≤ q ∧ q ≤ b := by rw [hq2]; exact part_le HF hA0 (by omega) hmb hgb.1 hsj
                  obtain ⟨sb, so, hao, -, ca, -, ha1⟩ := HK.sh i a hia
                  obtain ⟨sb2, so2, hao2, -, cb, -, hb1⟩ := HK.sh j b hjb
                  rw [hao] at hao2
                  simp only [Option.some.injEq, Addr.mk.injEq, and_true] at hao2
                  obtain ⟨rfl, rfl⟩ := hao2
                  subst hao
                  have HK2 : Hid (Keep w pb (some ⟨sb, so, none⟩) zs (prTo A S least ties zs zs.length) wr) := HK
                  clear HK hp2 hq2 hpe hqe hma hmb hga hgb hia hjb
                  obtain ⟨b11, b12⟩ := b1
                  obtain ⟨b21, b22⟩ := b2
                  have i1 : (0 : Int) ≤ (i : Int) := by omega
                  have i2 : (i : Int) < (zs.length : Int) := by omega
                  have j1 : (0 : Int) ≤ (j : Int) := by omega
                  have j2 : (j : Int) < (zs.length : Int) := by omega
                  rcases (show a < b ∨ b < a ∨ a = b by omega) with hab | hab | hab
                  · have f := f1 hab
                    have g1 : decide (b < a) = false := by simp; omega
                    have g2 : (a == b) = false := by simp; omega
                    have g3 : decide (a = b) = false := by simp; omega
                    have g4 : decide (q < p) = false := by simp; omega
                    clear f1 f2 f3
                    go_wp2_with fail
                    go_quiet (fail)
                    go_wp2_with fail
                    go_quiet (fail)
                    go_wp2_with fail
                    go_quiet (fail)
                    go_wp2
                    go_roundw
                    case rel => exact ⟨j + 1, by go_num, by omega, by omega, HK2.drewN _⟩
                    case measure => simp [intOf] <;> omega
                  · have f := f2 hab
                    have g1 : decide (a < b) = false := by simp; omega
                    have g2 : (a == b) = false := by simp; omega
                    have g3 : decide (a = b) = false := by simp; omega
                    have g4 : decide (p < q) = false := by simp; omega
                    clear f1 f2 f3
                    go_wp2_with fail
                    go_quiet (fail)
                    go_wp2_with fail
                    go_quiet (fail)
                    go_wp2_with fail
                    go_quiet (fail)
                    go_wp2
                    go_roundw
                    case rel => exact ⟨j + 1, by go_num, by omega, by omega, HK2.drewN _⟩
                    case measure => simp [intOf] <;> omega
                  · obtain ⟨f, f'⟩ := f3 hab
                    have g1 : decide (a < b) = false := by simp; omega
                    have g2 : decide (b < a) = false := by simp; omega
                    have g3 : (a == b) = true := by simp [hab]
                    have g4 : decide (p < q) = false := by simp; omega
                    have g5 : decide (q + 1 < p) = false := by simp; omega
                    have g6 : IntKind.u64.wrap (q + 1) = q + 1 := by rw [IntKind.wrap_u64]; omega
                    clear f1 f2 f3
                    go_wp2_with fail
                    go_quiet (fail)
                    go_wp2_with fail
                    go_quiet (fail)
                    go_wp2_with fail
                    go_quiet (fail)
                    go_wp2
                    go_roundw
                    case rel => exact ⟨j + 1, by go_num, by omega, by omega, HK2.drewN _⟩
                    case measure => simp [intOf] <;> omega
                · have hj' : j = zs.length := by omega
                  subst hj'
                  clear hjlt
                  go_wp2
                  go_roundw
                  case rel => exact ⟨i + 1, by go_num, by omega, HK⟩
                  case measure => simp [intOf] <;> omega
            · have hi' : i = zs.length := by omega
              subst hi'
              clear hilt
              go_wp2
              go_ret
              exact ⟨rfl, HK.bel⟩

theorem law4_any (ao : Option Addr) (cap : Nat) (zs : List Int) (A : Int) (w : World) (hn : zs.length ≤ 9223372036854775807) (hsh : SharesIn w w.heap.size ao zs) (hA1 : A ≤ 9223372036854775807) :
    Calls Tryf.prog 4 #[.int .i64 A, .slice ao zs.length cap] w fun e w' => e = .returned (.bool true) ∧ Below w.heap.size w w' := by
  by_cases hl : zs.length ≤ 4096
  · by_cases hbad : A < 0 ∨ (sums zs).2.1 = true ∨ (sums zs).2.2 = true
    · exact law4_bad ao cap zs A w hl hsh _ _ _ rfl rfl rfl hbad
    · have h1 : (sums zs).2.1 = false := by
        cases h : (sums zs).2.1
        · rfl
        · exact absurd (Or.inr (Or.inl h)) hbad
      have h2 : (sums zs).2.2 = false := by
        cases h : (sums zs).2.2
        · rfl
        · exact absurd (Or.inr (Or.inr h)) hbad
      exact law4_good ao cap zs A w hl hsh (by omega) hA1 _ rfl h1 h2
  · refine (law4_long ao zs.length cap A w hn (by omega)).mono ?_
    rintro e w' ⟨h1, rfl⟩
    exact ⟨h1, Below.refl _ _⟩

end Go.Proofs.Qxb6614430aFmt
