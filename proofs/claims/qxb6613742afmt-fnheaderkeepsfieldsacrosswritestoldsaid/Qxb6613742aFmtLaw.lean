/-
  FnHeaderKeepsFieldsAcrossWrites (3), out of its callees' contracts.
-/
import Derived.Test.Qxb6613742aFmtAns
import Derived.Maps.OwnSet
namespace Go.Proofs.Qxb6613742aFmt
open Go.RowKit

/-- What the map's operations at this key give in W. -/
def MapOk (mo : Option Nat) (key : ByteArray) (v : Value) (ok : Bool) (n : Nat) (W : World) : Prop :=
  (Instr.lookup 22 (.map mo) (.string key) false).run Tryf.prog W = .ok v W ∧ (Instr.lookup 22 (.map mo) (.string key) true).run Tryf.prog W = .ok (.tuple #[v, .bool ok]) W ∧
    ∀ ty, (Builtin.len_ #[22] ty #[.map mo]).run Tryf.prog W = .ok (.int .i64 n) W

/-- The slice at the key: no element, or strings that lie in old memory. -/
def VAt (w : World) (v : Value) : Prop :=
  (∃ ao c, v = .slice ao 0 c ∧ (ao = none → c = 0)) ∨ (∃ (vb vo c : Nat) (ss : List ByteArray), v = .slice (some ⟨vb, vo, none⟩) ss.length c ∧ vb < w.heap.size ∧ 1 ≤ ss.length ∧ StrsAt w vb vo ss)

/-- Two slices of the same strings in W. -/
def Same (v v2 : Value) (W : World) : Prop :=
  (∃ ao c bo c2, v = .slice ao 0 c ∧ v2 = .slice bo 0 c2) ∨
    (∃ (vb vo c b2 o2 c2 : Nat) (ss : List ByteArray), v = .slice (some ⟨vb, vo, none⟩) ss.length c ∧ v2 = .slice (some ⟨b2, o2, none⟩) ss.length c2 ∧ vb < W.heap.size ∧ b2 < W.heap.size ∧ StrsAt W vb vo ss ∧ StrsAt W b2 o2 ss ∧ ss.length ≤ 4096)

theorem StrsAt.later {w W : World} {b o : Nat} {ss : List ByteArray} (h : StrsAt w b o ss) (hb : Below w.heap.size w W) (hlt : b < w.heap.size) : StrsAt W b o ss := by
  intro i s hs
  exact ⟨by rw [hb.cell (p := ⟨b, o + i, none⟩) hlt]; exact (h i s hs).1, (h i s hs).2⟩

theorem Same.later {v v2 : Value} {w W : World} (h : Same v v2 w) (hb : Below w.heap.size w W) : Same v v2 W := by
  rcases h with h | ⟨vb, vo, c, b2, o2, c2, ss, e1, e2, l1, l2, s1, s2, hl⟩
  · exact Or.inl h
  · exact Or.inr ⟨vb, vo, c, b2, o2, c2, ss, e1, e2, Nat.lt_of_lt_of_le l1 hb.size, Nat.lt_of_lt_of_le l2 hb.size, s1.later hb l1, s2.later hb l2, hl⟩

theorem over_v (ao : Option Addr) (len cap : Nat) (t : Int) (w : World) (h : VAt w (.slice ao len cap)) (h0 : 0 ≤ t) (hl : len ≤ 4096) :
    Calls Tryf.prog 4 #[.int .i64 t, .slice ao len cap] w fun e w' => RetBool e ∧ w' = w := by
  rcases h with ⟨ao', c, e, -⟩ | ⟨vb, vo, c, ss, e, -, -, hs⟩
  · simp only [Value.slice.injEq] at e
    obtain ⟨rfl, rfl, rfl⟩ := e
    exact over_none _ _ _ _
  · simp only [Value.slice.injEq] at e
    obtain ⟨rfl, rfl, rfl⟩ := e
    exact over_some vb vo _ ss t w h0 hs hl

theorem clone_v (ao : Option Addr) (len cap : Nat) (w : World) (h : VAt w (.slice ao len cap)) (hl : len ≤ 4096) :
    Calls Tryf.prog 5 #[.slice ao len cap] w fun e w' => (∃ bo l2 c2, e = .returned (.slice bo l2 c2) ∧ Same (.slice ao len cap) (.slice bo l2 c2) w') ∧ Below w.heap.size w w' := by
  rcases h with ⟨ao', c, e, hn⟩ | ⟨vb, vo, c, ss, e, hvb, h1, hs⟩
  · simp only [Value.slice.injEq] at e
    obtain ⟨rfl, rfl, rfl⟩ := e
    cases ao with
    | none =>
      obtain rfl := hn rfl
      refine (clone_nil w).mono ?_
      rintro e w' ⟨rfl, rfl⟩
      exact ⟨⟨_, _, _, rfl, Or.inl ⟨_, _, _, _, rfl, rfl⟩⟩, Below.refl _ _⟩
    | some a =>
      refine (clone_none a cap w).mono ?_
      rintro e w' ⟨rfl, hb⟩
      exact ⟨⟨_, _, _, rfl, Or.inl ⟨_, _, _, _, rfl, rfl⟩⟩, hb⟩
  · simp only [Value.slice.injEq] at e
    obtain ⟨rfl, rfl, rfl⟩ := e
    refine (clone_some vb vo cap ss w hs hvb hl h1).mono ?_
    rintro e w' ⟨rfl, hs2, hb⟩
    refine ⟨⟨_, _, _, rfl, Or.inr ⟨vb, vo, cap, w.heap.size, 0, ss.length, ss, rfl, rfl, Nat.lt_of_lt_of_le hvb hb.size, ?_, hs.later hb hvb, hs2, hl⟩⟩, hb⟩
    obtain ⟨hc, -⟩ := hs2 0 _ (List.getElem?_eq_getElem (show 0 < ss.length by omega))
    exact World.block_lt_of_cell? w' _ hc

theorem eq_v (v v2 : Value) (w : World) (h : Same v v2 w) :
    Calls Tryf.prog 10 #[v, v2] w fun e w' => e = .returned (.bool true) ∧ Below w.heap.size w w' := by
  rcases h with ⟨ao, c, bo, c2, rfl, rfl⟩ | ⟨vb, vo, c, b2, o2, c2, ss, rfl, rfl, l1, l2, s1, s2, hl⟩
  · refine (eq_none ao bo c c2 w).mono ?_
    rintro e w' ⟨rfl, rfl⟩
    exact ⟨rfl, Below.refl _ _⟩
  · exact eq_some vb vo c b2 o2 c2 ss w s1 s2 l1 l2 hl

set_option maxHeartbeats 1000000 in
theorem law_any (mo : Option Nat) (key : ByteArray) (s : Int) (pao : Option Addr) (plen pcap : Nat) (ao : Option Addr) (len cap n : Nat) (ok : Bool) (T : TypeId) (x : Value) (w : World)
    (hM : ∀ W, Below w.heap.size w W → MapOk mo key (.slice ao len cap) ok n W) (hV : VAt w (.slice ao len cap))
    (hP : ∀ W b, Below w.heap.size w W → w.heap.size ≤ b → plen ≤ 1048576 → SrcAt b (.slice pao plen pcap) W)
    (hg : w.cell? ⟨0, 0, none⟩ = some (.iface T x)) (hg0 : 0 < w.heap.size) (hkz : key.size ≤ 9223372036854775807) (hnz : n ≤ 9223372036854775807) (hpz : plen ≤ 9223372036854775807) (hlz : len ≤ 9223372036854775807) :
    Calls Tryf.prog 3 #[.map mo, .string key, .int .i64 s, .slice pao plen pcap] w fun e w' => e = .returned (.bool true) ∧ Below w.heap.size w w' := by
  have HM : Hid (∀ W, Below w.heap.size w W → MapOk mo key (.slice ao len cap) ok n W) := hM
  have HP : Hid (∀ W b, Below w.heap.size w W → w.heap.size ≤ b → plen ≤ 1048576 → SrcAt b (.slice pao plen pcap) W) := hP
  obtain ⟨l0, l1, ln⟩ := hM w (Below.refl _ _)
  clear hM hP
  by_cases e1 : 4096 < n
  · go_enter Tryf.func3, Tryf.ntmps3
    go_wp2
    go_ret
    exact ⟨rfl, Below.refl _ _⟩
  by_cases e2 : 4096 < key.size
  · go_enter Tryf.func3, Tryf.ntmps3
    go_wp2
    go_ret
    exact ⟨rfl, Below.refl _ _⟩
  by_cases e3 : 1048576 < plen
  · go_enter Tryf.func3, Tryf.ntmps3
    go_wp2
    go_ret
    exact ⟨rfl, Below.refl _ _⟩
  by_cases e4 : 4096 < len
  · go_enter Tryf.func3, Tryf.ntmps3
    go_wp2
    go_ret
    exact ⟨rfl, Below.refl _ _⟩
  by_cases e5 : s < 100 ∨ 999 < s
  · rcases e5 with e5 | e5
    all_goals
      go_enter Tryf.func3, Tryf.ntmps3
      go_wp2_with fail
      refine (over_v ao len cap _ _ hV (by omega) (by omega)).mono ?_
      rintro e w' ⟨⟨r, rfl⟩, hw⟩
      obtain rfl := hw.symm
      cases r
      all_goals
        go_wp2
        go_ret
        exact ⟨rfl, Below.refl _ _⟩
  have e6 : 100 ≤ s := by omega
  have e7 : s ≤ 999 := by omega
  clear e5
  go_enter Tryf.func3, Tryf.ntmps3
  go_wp2_with fail
  refine (over_v ao len cap _ _ hV (by omega) (by omega)).mono ?_
  rintro e w' ⟨⟨r, rfl⟩, hw⟩
  obtain rfl := hw.symm
  cases r
  case true =>
    go_wp2
    go_ret
    exact ⟨rfl, Below.refl _ _⟩
  go_wp2_with fail
  refine (clone_v ao len cap _ hV (by omega)).mono ?_
  rintro e w1 ⟨⟨bo, l2, c2, rfl, hsame⟩, hb1⟩
  clear l0 l1 ln hV
  go_wp2_with fail
  refine (new_any mo w1).mono ?_
  rintro e w2 ⟨rfl, hw2⟩
  have hA : AnsAt w1.heap.size mo 0 w2 := by subst hw2; exact heap_alloc_new _ _
  have hb2 : Below w1.heap.size w1 w2 := by subst hw2; exact (Below.refl _ _).alloc (Nat.le_refl _) _
  have hz2 : w1.heap.size < w2.heap.size := by subst hw2; simp
  clear hw2
  go_wp2_with fail
  refine (wh_any w1.heap.size mo s w2 hA e6 e7).mono ?_
  rintro e w3 ⟨rfl, ⟨st, hA3⟩, hb3, hz3⟩
  clear hA
  have hb13 : Below w1.heap.size w1 w3 := hb2.trans hb3
  have hbw3 : Below w.heap.size w w3 := hb1.trans (hb13.mono hb1.size)
  have hg3 : w3.cell? ⟨0, 0, none⟩ = some (.iface T x) := by rw [hbw3.cell (p := ⟨0, 0, none⟩) hg0]; exact hg
  have hP3 := HP.out w3 w1.heap.size hbw3 hb1.size (by omega)
  go_wp2_with fail
  refine (write_any w1.heap.size mo st _ T x w3 hA3 hb13.size hP3 hg3).mono ?_
  rintro e w4 ⟨⟨r1, r2, rfl⟩, hc4, hb4⟩
  have hb14 : Below w1.heap.size w1 w4 := hb13.trans hb4
  have hbw4 : Below w.heap.size w w4 := hb1.trans (hb14.mono hb1.size)
  have hsame4 := hsame.later hb14
  clear hg3 hP3 hA3 hb3 hb2 hz3 hz2 hsame hb4 hb13 hbw3
  go_wp2_with fail
  refine (header_any w1.heap.size mo w4 hc4).mono ?_
  rintro e w5 ⟨rfl, hw5⟩
  obtain rfl := hw5.symm
  obtain ⟨l0, l1, ln⟩ := HM.out _ hbw4
  clear hc4 l0
  go_wp2_with fail
  refine (eq_v _ _ _ hsame4).mono ?_
  rintro e w6 ⟨rfl, hb6⟩
  go_wp2
  go_ret
  exact ⟨rfl, hbw4.trans (hb6.mono hbw4.size)⟩

end Go.Proofs.Qxb6613742aFmt
