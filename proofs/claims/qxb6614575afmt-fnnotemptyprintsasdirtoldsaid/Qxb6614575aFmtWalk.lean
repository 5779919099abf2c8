/-
  The walks of seat b6614575aF: fmt.Errorf at a format without a verb (10), (Pos).Errorf (9), notEmpty (7), ZZnotEmpty (5), (Pos).String (6), the law (3).
-/
import Derived.Test.Qxb6614575aFmtRows
import Derived.Stop.CallBack
import Derived.Stop.IfaceNil
import Derived.WalkKit
import Derived.WalkSpells
import Derived.WalkLawsBesides
import Derived.Deep.RegionWith
namespace Go.Proofs.Qxb6614575aFmt
open Go.RowKit Go.Extern.Stop Go.Stop Go.Extern

theorem Tryf.call11 (args : Array Value) (w : World) : (callFunc 11 args).run Tryf.prog w = (FmtCalls.errorf #[9, 37] #[29] args).run Tryf.prog w :=
  run_callFunc_next Tryf.func11 (by kernel_rfl) (by kernel_rfl) (by kernel_rfl) args w
theorem Tryf.guard (name : String) (w : World) : (FmtStop.guard name).run Tryf.prog w = .ok () w := by kernel_rfl
theorem count_nil (w : World) : (FmtDoors.count (.slice none 0 0)).run Tryf.prog w = .ok 0 w := by kernel_rfl

theorem errorf_plain (f : ByteArray) (w : World) (h : f.data.contains 37 = false) : (callFunc 11 #[.string f, .slice none 0 0]).run Tryf.prog w = .ok (.value .nilIface) w := by
  rw [Tryf.call11, FmtCalls.errorf_lit]
  have h' : ¬ (37 : UInt8) ∈ f.data := by simpa using h
  simp [Tryf.guard, count_nil, h']

set_option maxHeartbeats 400000 in
theorem Errorf_plain (f : ByteArray) (w : World) (h : f.data.contains 37 = false) :
    Calls Tryf.prog 10 #[.string f, .slice none 0 0] w fun e w' => e = .returned (.iface 39 (.pointer (some ⟨w.heap.size, 0, none⟩))) ∧ w' = w.alloc (.cells #[.string f] 41) := by
  have hr := fun W => errorf_plain f W h
  clear h
  go_enter Tryf.func10, Tryf.ntmps10
  go_wp2
  go_ret
  exact ⟨rfl, rfl⟩

set_option maxHeartbeats 400000 in
theorem posErrorf (dir f : ByteArray) (w : World) (h : f.data.contains 37 = false) :
    Calls Tryf.prog 9 #[.agg #[.string dir, .int .i64 0], .string f, .slice none 0 0] w fun e w' => (∃ k, e = .returned (.iface 31 (.pointer (some ⟨k, 0, none⟩))) ∧ w.heap.size ≤ k ∧ k < w'.heap.size ∧ w'.cell? ⟨k, 0, none⟩ = some (.string dir) ∧ w'.cell? ⟨k, 1, none⟩ = some (.int .i64 0) ∧ ∃ T x, w'.cell? ⟨k, 2, none⟩ = some (.iface T x)) ∧ Below w.heap.size w w' := by
  go_enter Tryf.func9, Tryf.ntmps9
  go_wp2
  go_region_with (go_at_call 10; refine (Errorf_plain _ _ h).mono ?_; rintro e w' ⟨rfl, rfl⟩)
  all_goals
    go_wp2
    simp only [Act.put, List.getElem_toArray, List.getElem_cons_succ, List.getElem_cons_zero, List.setIfInBounds_toArray, List.set_cons_succ, List.set_cons_zero]
    go_ret
    exact ⟨⟨w.heap.size + 1 + 1, rfl, by omega, by simp, by go_simp, by go_simp, 39, .pointer (some ⟨w.heap.size + 1, 0, none⟩), by go_simp⟩, ((((Below.refl w.heap.size w).alloc (Nat.le_refl _) _).alloc (by simp) _).alloc (by simp; omega) _).drew⟩

theorem Tryf.assert31 (x : Value) (w : World) : (Instr.typeAssert (.iface 31 x) 29 31 true).run Tryf.prog w = .ok (.tuple #[x, .bool true]) w := by kernel_rfl
attribute [local go_sem] Tryf.assert31

set_option maxHeartbeats 400000 in
theorem notEmpty_any (dir : ByteArray) (w : World) :
    Calls Tryf.prog 7 #[.string dir] w fun e w' => (∃ k, e = .returned (.iface 31 (.pointer (some ⟨k, 0, none⟩))) ∧ w.heap.size ≤ k ∧ k < w'.heap.size ∧ w'.cell? ⟨k, 0, none⟩ = some (.string dir) ∧ w'.cell? ⟨k, 1, none⟩ = some (.int .i64 0) ∧ ∃ T x, w'.cell? ⟨k, 2, none⟩ = some (.iface T x)) ∧ Below w.heap.size w w' := by
  go_enter Tryf.func7, Tryf.ntmps7
  go_wp2_with fail
  refine (posErrorf dir _ _ (by kernel_rfl)).mono ?_
  rintro e w' ⟨⟨k, rfl, hj, hk, h0, h1, h2⟩, hb⟩
  have H : Hid (w.heap.size ≤ k ∧ k < w'.heap.size ∧ w'.cell? ⟨k, 0, none⟩ = some (.string dir) ∧ w'.cell? ⟨k, 1, none⟩ = some (.int .i64 0) ∧ ∃ T x, w'.cell? ⟨k, 2, none⟩ = some (.iface T x)) := ⟨hj, hk, h0, h1, h2⟩
  clear hj hk h0 h1 h2
  go_wp2
  go_ret
  exact ⟨⟨k, rfl, H.out⟩, hb⟩

set_option maxHeartbeats 800000 in
theorem zz_any (dir : ByteArray) (w : World) :
    Calls Tryf.prog 5 #[.string dir] w fun e w' => e = .returned (.tuple #[.bool true, .bool true, .agg #[.string dir, .int .i64 0], .bool true]) ∧ Below w.heap.size w w' := by
  go_enter Tryf.func5, Tryf.ntmps5
  go_wp2_with fail
  refine (notEmpty_any dir _).mono ?_
  rintro e w1 ⟨⟨k, rfl, hj, hk, h0, h1, T, x, h2⟩, hb⟩
  simp only [World.size_alloc] at hj
  have r0 : w1.cell? ⟨w.heap.size, 0, none⟩ = some (.string ⟨#[]⟩) := by rw [hb.cell (by simp)]; go_simp
  have r1 : w1.cell? ⟨w.heap.size, 1, none⟩ = some (.int .i64 0) := by rw [hb.cell (by simp)]; go_simp
  have f0 : w1.frozen? ⟨w.heap.size, 0, none⟩ = false := by rw [hb.frozen (by simp)]; go_simp
  have f1 : w1.frozen? ⟨w.heap.size, 1, none⟩ = false := by rw [hb.frozen (by simp)]; go_simp
  have HB : Hid (Below w.heap.size w w1) := ((Below.refl w.heap.size w).alloc (Nat.le_refl _) _).trans (hb.mono (by simp))
  have hne : k ≠ w.heap.size := by omega
  clear hb
  go_wp2
  go_region
  all_goals go_wp2
  all_goals
    exact bodyPost_ret (v := .tuple #[.bool true, .bool true, .agg #[.string dir, .int .i64 0], .bool true]) (by simp [results, Tryf.results5, go_sem, *]) rfl ⟨rfl, ((HB.out.setCell (Nat.le_refl _) _).setCell (Nat.le_refl _) _).drew⟩

set_option maxHeartbeats 400000 in
theorem posString (dir : ByteArray) (w : World) :
    Calls Tryf.prog 6 #[.agg #[.string dir, .int .i64 0]] w fun e w' => e = .returned (.string dir) ∧ Below w.heap.size w w' := by
  go_enter Tryf.func6, Tryf.ntmps6
  go_wp2
  go_ret
  exact ⟨rfl, (Below.refl w.heap.size w).alloc (Nat.le_refl _) _⟩

end Go.Proofs.Qxb6614575aFmt
