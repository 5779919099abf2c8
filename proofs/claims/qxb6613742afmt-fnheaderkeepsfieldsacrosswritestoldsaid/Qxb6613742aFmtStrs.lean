/-
  The walks over slices of strings of seat b6613742aF: overBytes (4), cloneStrs (5), eqStrs (10).
-/
import Derived.Test.Qxb6613742aFmtRows
import Derived.WalkKit
import Derived.WalkSpells
import Derived.WalkLawsBesides
import Derived.Deep.QuietTactic
import Derived.BigQuiet
import Derived.Lib.LazyBuf
namespace Go.Proofs.Qxb6613742aFmt
open Go.RowKit

/-- The strings ss lie at ⟨b, off⟩ in w. -/
def StrsAt (w : World) (b off : Nat) (ss : List ByteArray) : Prop := ∀ i s, ss[i]? = some s → w.cell? ⟨b, off + i, none⟩ = some (.string s) ∧ s.size ≤ 9223372036854775807

/-- A bool comes back, whichever. -/
def RetBool (e : Ending) : Prop := ∃ r, e = .returned (.bool r)

set_option maxHeartbeats 400000 in
theorem over_none (ao : Option Addr) (cap : Nat) (t : Int) (w : World) :
    Calls Tryf.prog 4 #[.int .i64 t, .slice ao 0 cap] w fun e w' => RetBool e ∧ w' = w := by
  go_enter Tryf.func4, Tryf.ntmps4
  by_cases ht : 1048576 < t
  · go_wp2
    go_ret
    exact ⟨⟨true, rfl⟩, rfl⟩
  · go_wp2
    refine wp_loop_rounds 1 ?_
    rw [rounds_succ]
    go_wp2
    go_ret
    exact ⟨⟨false, rfl⟩, rfl⟩

set_option maxHeartbeats 400000 in
theorem over_some (b off cap : Nat) (ss : List ByteArray) (t : Int) (w : World) (h0 : 0 ≤ t) (hss : StrsAt w b off ss) (hl : ss.length ≤ 4096) :
    Calls Tryf.prog 4 #[.int .i64 t, .slice (some ⟨b, off, none⟩) ss.length cap] w fun e w' => RetBool e ∧ w' = w := by
  by_cases ht : 1048576 < t
  · go_enter Tryf.func4, Tryf.ntmps4
    go_wp2
    go_ret
    exact ⟨⟨true, rfl⟩, rfl⟩
  · go_enter Tryf.func4, Tryf.ntmps4
    go_wp2
    go_loop [5, 6] (fun u i => ∃ (x : Int) (k : Nat), u = .int .i64 x ∧ i = .int .i64 k ∧ 0 ≤ x ∧ x ≤ 1048576 ∧ k ≤ ss.length) (fun _ i => ss.length - (intOf i).toNat)
    case atStart => exact ⟨t, 0, rfl, rfl, h0, by omega, by omega⟩
    case round =>
      obtain ⟨x, k, rfl, rfl, hx0, hx1, hk⟩ := hrel
      by_cases hlt : k < ss.length
      · obtain ⟨hc, hsz⟩ := hss k _ (List.getElem?_eq_getElem hlt)
        obtain ⟨s, hs⟩ : ∃ s, s = ss[k] := ⟨_, rfl⟩
        rw [← hs] at hc hsz
        clear hs hss
        by_cases h1 : 1048576 < s.size
        · go_wp2
          go_ret
          exact ⟨⟨true, rfl⟩, rfl⟩
        · by_cases h2 : 1048576 < x + (8 + (s.size : Int))
          · go_wp2
            go_ret
            exact ⟨⟨true, rfl⟩, rfl⟩
          · go_wp2
            go_round
            case rel => exact ⟨x + (8 + (s.size : Int)), k + 1, by go_num, by go_num, by omega, by omega, by omega⟩
            case measure => simp [intOf]; omega
      · go_wp2
        go_ret
        exact ⟨⟨false, rfl⟩, rfl⟩

theorem Tryf.info9 : (Tryf.prog.info? 9).map (fun i => (i.zero, i.size, i.bytes)) = some (some (.string ⟨#[]⟩), 1, 16) := by kernel_rfl

theorem Tryf.eqlNil24 (w : World) (a : Option Addr) (l c : Nat) : (binOp .eql 24 (.slice a l c) (.slice none 0 0)).run Tryf.prog w = .ok (.bool a.isNone) w := run_eql_slice_nil w 24 9 a l c Tryf.underlying24
attribute [local go_sem] Tryf.eqlNil24

set_option maxHeartbeats 400000 in
theorem clone_nil (w : World) :
    Calls Tryf.prog 5 #[.slice none 0 0] w fun e w' => e = .returned (.slice none 0 0) ∧ w' = w := by
  go_enter Tryf.func5, Tryf.ntmps5
  go_wp2
  go_ret
  exact ⟨rfl, rfl⟩

set_option maxHeartbeats 400000 in
theorem clone_none (a : Addr) (cap : Nat) (w : World) :
    Calls Tryf.prog 5 #[.slice (some a) 0 cap] w fun e w' => e = .returned (.slice (some ⟨w.heap.size, 0, none⟩) 0 0) ∧ Below w.heap.size w w' := by
  obtain ⟨i0, hi, hz0, hz1, hz2⟩ := info_parts Tryf.info9
  go_enter Tryf.func5, Tryf.ntmps5
  go_wp2_with (first | (at_make; refine wpList_make_full _ rfl _ _ 24 rfl w.heap.size 9 i0 _ 1 Tryf.underlying24 hi hz0 hz1 .i64 .i64 _ _ 0 rfl rfl rfl rfl (by omega) (by unfold maxLen; omega) (Nat.le_refl _) ?_; intro w1 hown hgrow) | go_in)
  have HB : Hid (Below w.heap.size w w1) := (Below.refl _ _).grown hgrow (Nat.le_refl _) (fun k hk => by cases hk)
  clear hown hgrow
  refine wp_loop_rounds 1 ?_
  rw [rounds_succ]
  go_wp2
  go_ret
  exact ⟨rfl, HB.out⟩

/-- The first k strings have been copied. -/
def strsTo (ss : List ByteArray) (k : Nat) : List Value := (ss.take k).map Value.string ++ List.replicate (ss.length - k) (.string ⟨#[]⟩)

theorem strsTo_set (ss : List ByteArray) (k : Nat) (h : k < ss.length) : (strsTo ss k).set k (.string ss[k]) = strsTo ss (k + 1) := by
  unfold strsTo
  apply List.ext_getElem?
  intro i
  by_cases hi : i = k
  · subst hi
    simp [List.getElem?_set]
    rw [List.getElem?_append_left (by simp; omega)]
    simp [h]
    omega
  · rw [List.getElem?_set_ne (by omega)]
    by_cases hlt : i < k
    · rw [List.getElem?_append_left (by simp; omega), List.getElem?_append_left (by simp; omega)]
      simp [hlt, Nat.lt_succ_of_lt hlt]
    · rw [List.getElem?_append_right (by simp; omega), List.getElem?_append_right (by simp; omega)]
      simp [List.getElem?_replicate]
      have e1 : min k ss.length = k := by omega
      have e2 : min (k + 1) ss.length = k + 1 := by omega
      rw [e1, e2]
      by_cases hlen : i - k < ss.length - k
      · rw [if_pos hlen, if_pos (by omega)]
      · rw [if_neg hlen, if_neg (by omega)]

set_option maxHeartbeats 400000 in
theorem clone_some (b off cap : Nat) (ss : List ByteArray) (w : World) (hss : StrsAt w b off ss) (hb : b < w.heap.size) (hl : ss.length ≤ 4096) (h1 : 1 ≤ ss.length) :
    Calls Tryf.prog 5 #[.slice (some ⟨b, off, none⟩) ss.length cap] w fun e w' => e = .returned (.slice (some ⟨w.heap.size, 0, none⟩) ss.length ss.length) ∧ StrsAt w' w.heap.size 0 ss ∧ Below w.heap.size w w' := by
  obtain ⟨i0, hi, hz0, hz1, hz2⟩ := info_parts Tryf.info9
  go_enter Tryf.func5, Tryf.ntmps5
  go_wp2_with (first | (at_make; refine wpList_make_full _ rfl _ _ 24 rfl w.heap.size 9 i0 _ 1 Tryf.underlying24 hi hz0 hz1 .i64 .i64 _ _ ss.length rfl rfl rfl rfl (by rw [hz2]; omega) (by unfold maxLen; omega) (Nat.le_refl _) ?_; intro w1 hown hgrow) | go_in)
  have hB : Below w.heap.size w w1 := (Below.refl _ _).grown hgrow (Nat.le_refl _) (fun k hk => by cases hk)
  go_loopw [4] (fun i wr => ∃ k : Nat, i = .int .i64 k ∧ k ≤ ss.length ∧ wr.ownsRow w.heap.size 9 1 (.slice (some ⟨w.heap.size, 0, none⟩) ss.length ss.length) ss.length (strsTo ss k) ∧ Below w.heap.size w wr) (fun i _ => ss.length - (intOf i).toNat)
  case atStart =>
    refine ⟨0, rfl, by omega, ?_, hB⟩
    have e : (madeCells (Value.cells (.string ⟨#[]⟩)) (ss.length * 1)).toList = strsTo ss 0 := by
      rw [show Value.cells (.string ⟨#[]⟩) = #[.string ⟨#[]⟩] from rfl, toList_madeCells_one]
      simp [strsTo]
    rw [← e]
    exact hown
  case round =>
    obtain ⟨k, rfl, hk, hownr, hbel⟩ := hrel
    clear hown hgrow hB
    by_cases hlt : k < ss.length
    · obtain ⟨hc0, -⟩ := hss k _ (List.getElem?_eq_getElem hlt)
      have hc : wr.cell? ⟨b, off + k, none⟩ = some (.string ss[k]) := by rw [hbel.cell (p := ⟨b, off + k, none⟩) hb]; exact hc0
      have hst := hownr.stored k (.string ss[k])
      rw [strsTo_set ss k hlt] at hst
      have hd : wr.cell? ⟨w.heap.size, k, none⟩ = (strsTo ss k)[k]? := hownr.cellAt k (by omega)
      have hf : wr.frozen? ⟨w.heap.size, k, none⟩ = false := hownr.frozenAt k
      have hd2 : (strsTo ss k)[k]? = some (.string ⟨#[]⟩) := by
        unfold strsTo
        rw [List.getElem?_append_right (by simp; omega)]
        simp [List.getElem?_replicate]
        omega
      rw [hd2] at hd
      have HST : Hid _ := hst
      obtain ⟨s, hs⟩ : ∃ s, s = ss[k] := ⟨_, rfl⟩
      rw [← hs] at hc HST
      have HSS : Hid (StrsAt w b off ss) := hss
      clear hst hd2 hc0 hs hownr hss
      go_wp2
      go_roundw
      case rel => exact ⟨k + 1, by go_num, by omega, HST.out.1, hbel.setCell (Nat.le_refl _) _⟩
      case measure => simp [intOf]; omega
    · have hkk : k = ss.length := by omega
      subst hkk
      have HSS : Hid (StrsAt w b off ss) := hss
      have HO : Hid (∀ i, i < ss.length → wr.cell? ⟨w.heap.size, i, none⟩ = (strsTo ss ss.length)[i]?) := fun i hi => hownr.cellAt i (by omega)
      clear hss hownr
      go_wp2
      go_ret
      refine ⟨rfl, ?_, hbel⟩
      intro i s hs
      have hi : i < ss.length := (List.getElem?_eq_some_iff.1 hs).1
      refine ⟨?_, (HSS.out i s hs).2⟩
      have := HO.out i hi
      simp only [Nat.zero_add]
      rw [this]
      simp [strsTo, hs]

set_option maxHeartbeats 400000 in
theorem eq_none (ao bo : Option Addr) (c1 c2 : Nat) (w : World) :
    Calls Tryf.prog 10 #[.slice ao 0 c1, .slice bo 0 c2] w fun e w' => e = .returned (.bool true) ∧ w' = w := by
  go_enter Tryf.func10, Tryf.ntmps10
  go_wp2
  refine wp_loop_rounds 1 ?_
  rw [rounds_succ]
  go_wp2
  go_ret
  exact ⟨rfl, rfl⟩

set_option maxHeartbeats 400000 in
theorem eq_some (b1 o1 c1 b2 o2 c2 : Nat) (ss : List ByteArray) (w : World) (h1 : StrsAt w b1 o1 ss) (h2 : StrsAt w b2 o2 ss) (hb1 : b1 < w.heap.size) (hb2 : b2 < w.heap.size) (hl : ss.length ≤ 4096) :
    Calls Tryf.prog 10 #[.slice (some ⟨b1, o1, none⟩) ss.length c1, .slice (some ⟨b2, o2, none⟩) ss.length c2] w fun e w' => e = .returned (.bool true) ∧ Below w.heap.size w w' := by
  go_enter Tryf.func10, Tryf.ntmps10
  go_wp2
  go_loopw [5] (fun i wr => ∃ k : Nat, i = .int .i64 k ∧ k ≤ ss.length ∧ Below w.heap.size w wr) (fun i _ => ss.length - (intOf i).toNat)
  case atStart => exact ⟨0, rfl, by omega, Below.refl _ _⟩
  case round =>
    obtain ⟨k, rfl, hk, hbel⟩ := hrel
    by_cases hlt : k < ss.length
    · obtain ⟨hc1, hz1⟩ := h1 k _ (List.getElem?_eq_getElem hlt)
      obtain ⟨hc2, -⟩ := h2 k _ (List.getElem?_eq_getElem hlt)
      have hd1 : wr.cell? ⟨b1, o1 + k, none⟩ = some (.string ss[k]) := by rw [hbel.cell (p := ⟨b1, o1 + k, none⟩) hb1]; exact hc1
      have hd2 : wr.cell? ⟨b2, o2 + k, none⟩ = some (.string ss[k]) := by rw [hbel.cell (p := ⟨b2, o2 + k, none⟩) hb2]; exact hc2
      obtain ⟨s, hs⟩ : ∃ s, s = ss[k] := ⟨_, rfl⟩
      rw [← hs] at hd1 hd2
      clear hs h1 h2 hc1 hc2 hz1
      go_wp2
      go_region
      all_goals go_wp2
      go_roundw
      case rel => exact ⟨k + 1, by go_num, by omega, hbel.drew⟩
      case measure => simp [intOf]; omega
    · clear h1 h2
      go_wp2
      go_ret
      exact ⟨rfl, hbel⟩
end Go.Proofs.Qxb6613742aFmt
