/-
  The walks over httpkey's answer: ZZnewAnswer (6), WriteHeader (7), Write (8), ZZheader (9), Header (13).
-/
import Derived.Test.Qxb6613742aFmtStrs
import Derived.Test.Qxb6613742aFmtShelf
namespace Go.Proofs.Qxb6613742aFmt
open Go.RowKit

theorem Tryf.copy0 (w : World) (d a : Option Addr) (dl dc c : Nat) : (Builtin.copy_ #[23, 23] 3 #[.slice d dl dc, .slice a 0 c]).run Tryf.prog w = .ok (.int .i64 0) w :=
  run_copy_none w 23 23 3 5 d a dl dc 0 c Tryf.underlying23 (by kernel_rfl) (by simp)
attribute [local go_sem] Tryf.copy0

set_option maxHeartbeats 400000 in
theorem new_any (mo : Option Nat) (w : World) :
    Calls Tryf.prog 6 #[.map mo, .int .i64 0, .slice none 0 0] w fun e w' => e = .returned (.pointer (some ⟨w.heap.size, 0, none⟩)) ∧ w' = w.alloc (.cells #[.map mo, .int .i64 0, .slice none 0 0, .int .i64 0, .int .i8 0] 44) := by
  go_enter Tryf.func6, Tryf.ntmps6
  go_wp2
  go_ret
  exact ⟨rfl, rfl⟩

set_option maxHeartbeats 400000 in
theorem header_any (b : Nat) (mo : Option Nat) (w : World) (h : w.cell? ⟨b, 0, none⟩ = some (.map mo)) :
    Calls Tryf.prog 9 #[.pointer (some ⟨b, 0, none⟩)] w fun e w' => e = .returned (.map mo) ∧ w' = w := by
  go_enter Tryf.func9, Tryf.ntmps9
  go_wp2
  go_ret
  exact ⟨rfl, rfl⟩

/-- The answer at block b: its header, its status; the buffer never written. -/
def AnsAt (b : Nat) (mo : Option Nat) (st : Int) (w : World) : Prop := w.heap[b]? = some (.cells #[.map mo, .int .i64 st, .slice none 0 0, .int .i64 0, .int .i8 0] 44 (0, 0))

theorem AnsAt.cell {b : Nat} {mo : Option Nat} {st : Int} {w : World} (h : AnsAt b mo st w) (i : Nat) : w.cell? ⟨b, i, none⟩ = (#[.map mo, .int .i64 st, .slice none 0 0, .int .i64 0, .int .i8 0] : Array Value)[i]? := Lib.cell_of_heap h i
theorem AnsAt.free {b : Nat} {mo : Option Nat} {st : Int} {w : World} (h : AnsAt b mo st w) (i : Nat) : w.frozen? ⟨b, i, none⟩ = false := Lib.frozen_of_heap h i

theorem AnsAt.status {b : Nat} {mo : Option Nat} {st : Int} {w : World} (h : AnsAt b mo st w) (s : Int) : AnsAt b mo s (w.setCell ⟨b, 1, none⟩ (.int .i64 s)) := by
  have := Lib.heap_setCell_same (i := 1) h (.int .i64 s)
  exact this

set_option maxHeartbeats 400000 in
theorem wh_any (b : Nat) (mo : Option Nat) (s : Int) (w : World) (h : AnsAt b mo 0 w) (h1 : 100 ≤ s) (h2 : s ≤ 999) :
    Calls Tryf.prog 7 #[.pointer (some ⟨b, 0, none⟩), .int .i64 s] w fun e w' => e = .returned (.tuple #[]) ∧ (∃ st, AnsAt b mo st w') ∧ Below b w w' ∧ w'.heap.size = w.heap.size := by
  have c1 := h.cell 1
  simp at c1
  have f1 := h.free 1
  by_cases h3 : 200 ≤ s
  · have HA : Hid (AnsAt b mo 0 w) := h
    clear h
    go_enter Tryf.func7, Tryf.ntmps7
    go_wp2
    go_end0
    exact ⟨rfl, ⟨s, HA.out.status s⟩, Below.setCell (p := ⟨b, 1, none⟩) (Below.refl b w) (Nat.le_refl _) _, by simp⟩
  · have HA : Hid (AnsAt b mo 0 w) := h
    clear h
    go_enter Tryf.func7, Tryf.ntmps7
    go_wp2
    go_end0
    exact ⟨rfl, ⟨0, HA.out⟩, Below.refl b w, rfl⟩


/-- Two values come back, whichever. -/
def RetTwo (e : Ending) : Prop := ∃ x y, e = .returned (.tuple #[x, y])

theorem AnsAt.isBuffer {b : Nat} {mo : Option Nat} {st : Int} {w : World} (h : AnsAt b mo st w) :
    LibA.IsBuffer 44 (fun i => (#[.map mo, .int .i64 st, .slice none 0 0, .int .i64 0, .int .i8 0] : Array Value)[i]?) 5 b b 2 [] w :=
  LibA.zero_isBuffer (Nat.le_refl _) (lr := 0) ⟨_, h, rfl, rfl, rfl, fun _ _ => rfl⟩

/-- The buffer's Write, at what has length 0, wherever it lies. -/
theorem bw_none (b : Nat) (mo : Option Nat) (st : Int) (ao : Option Addr) (c : Nat) (w : World) (h : AnsAt b mo st w) :
    Calls Tryf.prog 11 #[.pointer (some ⟨b, 2, none⟩), .slice ao 0 c] w fun e w' => RetTwo e ∧ w'.cell? ⟨b, 0, none⟩ = some (.map mo) ∧ Below b w w' := by
  have c0 := h.cell 0
  have c2 := h.cell 2
  have c4 := h.cell 4
  simp at c0 c2 c4
  have f2 := h.free 2
  have f4 := h.free 4
  clear h
  go_enter Tryf.func11, Tryf.ntmps11
  go_wp2
  go_ret2
  exact ⟨⟨_, _, rfl⟩, by go_simp, Below.setCell (p := ⟨b, 2, none⟩) (Below.setCell (p := ⟨b, 4, none⟩) (Below.refl b w) (Nat.le_refl _) _) (Nat.le_refl _) _⟩

theorem bw_some (b : Nat) (mo : Option Nat) (st : Int) (pb po n c : Nat) (cs : List Value) (w : World) (h : AnsAt b mo st w) (hb : b ≤ w.heap.size) (hp : pb < b) (hn : cs.length = n) (hc : ∀ i v, cs[i]? = some v → w.cell? ⟨pb, po + i, none⟩ = some v) (h1 : ∀ v ∈ cs, v.oneCell' = true) (hl : n ≤ 1048576) :
    Calls Tryf.prog 11 #[.pointer (some ⟨b, 2, none⟩), .slice (some ⟨pb, po, none⟩) n c] w fun e w' => RetTwo e ∧ w'.cell? ⟨b, 0, none⟩ = some (.map mo) ∧ Below b w w' := by
  refine (Tryf.Buffer_Write_at 44 _ b b 2 [] cs ⟨pb, po, none⟩ n c w h.isBuffer hb (by simp) hn (by simp; omega) (by intro j v hv; rw [show (⟨pb, po, none⟩ : Addr).add j = ⟨pb, po + j, none⟩ by unfold Addr.add; split <;> simp_all]; exact hc j v hv) h1 (by simp; omega)).mono ?_
  rintro e w' ⟨rfl, hI, hbel, -⟩
  obtain ⟨-, v, lr, h3, -⟩ := hI
  refine ⟨⟨_, _, rfl⟩, ?_, hbel⟩
  rw [h3.rest 0 (by omega)]
  rfl

/-- What 'p' is, for the walk: nothing in it, or its cells lie below b. -/
def SrcAt (b : Nat) (p : Value) (w : World) : Prop := (∃ ao c, p = .slice ao 0 c) ∨ (∃ (pb po n c : Nat) (cs : List Value), p = .slice (some ⟨pb, po, none⟩) n c ∧ pb < b ∧ cs.length = n ∧ n ≤ 1048576 ∧ (∀ v ∈ cs, v.oneCell' = true) ∧ ∀ i v, cs[i]? = some v → w.cell? ⟨pb, po + i, none⟩ = some v)

theorem bw_any (b : Nat) (mo : Option Nat) (st : Int) (p : Value) (w : World) (h : AnsAt b mo st w) (hb : b ≤ w.heap.size) (hp : SrcAt b p w) :
    Calls Tryf.prog 11 #[.pointer (some ⟨b, 2, none⟩), p] w fun e w' => RetTwo e ∧ w'.cell? ⟨b, 0, none⟩ = some (.map mo) ∧ Below b w w' := by
  rcases hp with ⟨ao, c, rfl⟩ | ⟨pb, po, n, c, cs, rfl, hlt, hn, hl, h1, hc⟩
  · exact bw_none b mo st ao c w h
  · exact bw_some b mo st pb po n c cs w h hb hlt hn hc h1 hl

set_option maxHeartbeats 400000 in
theorem write_any (b : Nat) (mo : Option Nat) (st : Int) (p : Value) (T : TypeId) (x : Value) (w : World) (h : AnsAt b mo st w) (hb : b ≤ w.heap.size) (hp : SrcAt b p w) (hg : w.cell? ⟨0, 0, none⟩ = some (.iface T x)) :
    Calls Tryf.prog 8 #[.pointer (some ⟨b, 0, none⟩), p] w fun e w' => RetTwo e ∧ w'.cell? ⟨b, 0, none⟩ = some (.map mo) ∧ Below b w w' := by
  have c0 := h.cell 0
  have c1 := h.cell 1
  simp at c0 c1
  have f1 := h.free 1
  by_cases h0 : st = 0
  · subst h0
    have hb2 := bw_any b mo 200 p (w.setCell ⟨b, 1, none⟩ (.int .i64 200)) (h.status 200) (by simpa using hb) (by
      rcases hp with hp | ⟨pb, po, n, c, cs, rfl, hlt, hn, hl, h1, hc⟩
      · exact Or.inl hp
      · exact Or.inr ⟨pb, po, n, c, cs, rfl, hlt, hn, hl, h1, fun i v hv => by rw [World.cell?_setCell_other _ _ _ _ (fun e => by have := congrArg Addr.block e; simp at this; omega)]; exact hc i v hv⟩)
    have HB := hb2
    clear h hb2 hp hg
    go_enter Tryf.func8, Tryf.ntmps8
    go_wp2_with fail
    refine HB.mono ?_
    clear HB
    rintro e w' ⟨⟨u, v, rfl⟩, hc, hbel⟩
    go_wp2
    go_ret2
    exact ⟨⟨_, _, rfl⟩, hc, (Below.setCell (p := ⟨b, 1, none⟩) (Below.refl b w) (Nat.le_refl _) _).trans hbel⟩
  · by_cases hs : st = 204 ∨ st = 304
    · clear h hp
      rcases hs with rfl | rfl
      all_goals
        go_enter Tryf.func8, Tryf.ntmps8
        go_wp2
        go_region
        all_goals go_wp2
        all_goals go_ret2
        exact ⟨⟨_, _, rfl⟩, by go_simp, (Below.refl b w).drew⟩
    · have HB := bw_any b mo st p w h hb hp
      have hs1 : (st == 204) = false := by simp; omega
      have hs2 : (st == 304) = false := by simp; omega
      have hs0 : (st == 0) = false := by simp; omega
      clear h hp hg
      go_enter Tryf.func8, Tryf.ntmps8
      go_wp2_with fail
      refine HB.mono ?_
      clear HB
      rintro e w' ⟨⟨u, v, rfl⟩, hc, hbel⟩
      go_wp2
      go_ret2
      exact ⟨⟨_, _, rfl⟩, hc, hbel⟩

end Go.Proofs.Qxb6613742aFmt
