/-
  One walk over the shares in missingCents: the parts' sum, and the counts of the digits (13 with 22).
-/
import Derived.Test.Qxb6614430aFmtCut
namespace Go.Proofs.Qxb6614430aFmt
open Go.RowKit

/-- How many of l are hit and have the digit j. -/
def cntOf (hit : Int → Bool) (dig : Int → Nat) (l : List Int) (j : Nat) : Int := ((l.filter fun x => hit x && dig x == j).length : Nat)
/-- The sum of the parts rounded down. -/
def partSum (A S : Int) (l : List Int) : Int := (l.map fun x => x * A / S).sum

theorem cntOf_snoc (hit : Int → Bool) (dig : Int → Nat) (l : List Int) (x : Int) : (if hit x then bump (cntOf hit dig l) (dig x) else cntOf hit dig l) = cntOf hit dig (l ++ [x]) := by
  funext j
  cases hx : hit x
  · simp [cntOf, hx]
  · simp only [if_true, bump, cntOf]
    by_cases e : j = dig x
    · subst e; simp [hx]
    · have e' : (dig x == j) = false := by simp; omega
      simp [hx, e, e']

theorem cntOf_nil (hit : Int → Bool) (dig : Int → Nat) : cntOf hit dig [] = fun _ => 0 := by funext j; simp [cntOf]

theorem cntOf_bd (hit : Int → Bool) (dig : Int → Nat) (l : List Int) (j : Nat) : 0 ≤ cntOf hit dig l j ∧ cntOf hit dig l j ≤ l.length := by
  unfold cntOf
  have := List.length_filter_le (fun x => hit x && dig x == j) l
  omega

theorem partSum_snoc (A S : Int) (l : List Int) (x : Int) : partSum A S (l ++ [x]) = partSum A S l + x * A / S := by simp [partSum]

theorem partSum_nonneg (A S : Int) : ∀ (l : List Int), (∀ x ∈ l, 0 ≤ x * A / S) → 0 ≤ partSum A S l
  | [], _ => by simp [partSum]
  | x :: l, h => by
    have h1 := partSum_nonneg A S l (fun y hy => h y (by simp [hy]))
    have h2 := h x (by simp)
    simp only [partSum, List.map_cons, List.sum_cons] at h1 ⊢
    omega

set_option maxHeartbeats 800000 in
theorem asks22 (B br bg bf bp bc bs rb bsl cap : Nat) (S A : Int) (W : World) (f p : Int) (sh : Nat) (ao : Option Addr) (zs : List Int) (hit : Int → Bool) (dig : Int → Nat)
    (hl : zs.length ≤ 4096) (hsh : SharesIn W B ao zs) (hv : CutVars B br bg bf bp bc bs rb S A W 0 f p sh (fun _ => 0)) (hs : W.cell? ⟨bsl, 0, none⟩ = some (.slice ao zs.length cap))
    (hz : ∀ x ∈ zs, 0 ≤ x ∧ x ≤ S) (hA0 : 0 ≤ A) (hA : A ≤ 9223372036854775807) (hS1 : S ≤ 18446744073709551615) (hAS : A < S) (hs63 : sh ≤ 63)
    (hsum : ∀ k, k ≤ zs.length → partSum A S (zs.take k) ≤ 18446744073709551615)
    (hhit : ∀ x ∈ zs, (bits BinOp.and IntKind.u64 (x * A % S) f == p) = hit x) (hdig : ∀ x ∈ zs, bits BinOp.and IntKind.u64 (x * A % S / 2 ^ sh) 65535 = (dig x : Int) ∧ dig x < 65536) :
    Calls Tryf.prog 13 #[.func (.func 22) #[] #[.pointer (some ⟨br, 0, none⟩), .pointer (some ⟨bg, 0, none⟩), .pointer (some ⟨bf, 0, none⟩), .pointer (some ⟨bp, 0, none⟩), .pointer (some ⟨bc, 0, none⟩), .pointer (some ⟨bs, 0, none⟩)], .pointer (some ⟨bsl, 0, none⟩)] W
      fun e W' => e = .returned .nilIface ∧ CutVars B br bg bf bp bc bs rb S A W' (partSum A S zs) f p sh (cntOf hit dig zs) ∧ Below B W W' := by
  go_enter Tryf.func13, Tryf.ntmps13
  go_wp2
  go_loopw [8] (fun i wr => ∃ k : Nat, i = .int .i64 k ∧ k ≤ zs.length ∧ CutVars B br bg bf bp bc bs rb S A wr (partSum A S (zs.take k)) f p sh (cntOf hit dig (zs.take k)) ∧ Below B W wr) (fun i _ => zs.length - (intOf i).toNat)
  case atStart => exact ⟨0, rfl, by omega, by rw [List.take_zero, cntOf_nil]; exact hv, Below.refl _ _⟩
  case round =>
    obtain ⟨k, rfl, hk, hv2, hbel⟩ := hrel
    by_cases hlt : k < zs.length
    · obtain ⟨sb, so, rfl, -, hc, hx0, hx1⟩ := (hsh.later hbel) k _ (List.getElem?_eq_getElem hlt)
      have hmem : zs[k] ∈ zs := List.getElem_mem hlt
      have hpn : 0 ≤ partSum A S (zs.take k) := partSum_nonneg A S _ (fun y hy => Int.ediv_nonneg (Int.mul_nonneg (hz y (List.mem_of_mem_take hy)).1 hA0) (by omega))
      have hps : partSum A S (zs.take (k + 1)) = partSum A S (zs.take k) + zs[k] * A / S := by rw [take_snoc zs k hlt, partSum_snoc]
      have hcn : (if hit zs[k] then bump (cntOf hit dig (zs.take k)) (dig zs[k]) else cntOf hit dig (zs.take k)) = cntOf hit dig (zs.take (k + 1)) := by rw [take_snoc zs k hlt]; exact cntOf_snoc hit dig _ _
      have hb := cntOf_bd hit dig (zs.take k) (dig zs[k])
      have htl : (zs.take k).length ≤ k := List.length_take_le _ _
      have HC := each22 B br bg bf bp bc bs rb S A wr _ f p sh _ zs[k] _ _ hv2 (hz _ hmem).1 hx1 hA0 hA hS1 (hz _ hmem).2 hAS hpn (by rw [← hps]; exact hsum (k + 1) (by omega)) hs63 (hhit _ hmem) (hdig _ hmem).1 (hdig _ hmem).2 hb.1 (by omega)
      rw [hcn, ← hps] at HC
      obtain ⟨x, hx⟩ : ∃ x, x = zs[k] := ⟨_, rfl⟩
      rw [← hx] at hc HC
      clear hx hsh hv2 hv hs hb htl hcn hps hpn hmem hdig hhit hsum hz
      go_wp2_with (first | (go_at_call 22; refine HC.mono ?_; clear HC; rintro e w2 ⟨rfl, hv3, hb3⟩))
      go_roundw
      case rel => exact ⟨k + 1, by go_num, by omega, hv3, hbel.trans hb3⟩
      case measure => simp [intOf]; omega
    · have hk' : k = zs.length := by omega
      subst hk'
      rw [List.take_length] at hv2
      clear hsh hv hs hdig hhit hsum hz
      go_wp2
      go_ret
      exact ⟨rfl, hv2, hbel⟩
end Go.Proofs.Qxb6614430aFmt
