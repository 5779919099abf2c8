/-
  The copy of the shares; the bound on the length (5, 10); a row of words.
-/
import Derived.Test.Qxb6614430aFmtRat
import Derived.Test.Qxb6614430aFmtFair
import Derived.WalkKit
import Derived.WalkSpells
import Derived.WalkLawsBesides
import Derived.Laws.IdiomCopy
namespace Go.Proofs.Qxb6614430aFmt
open Go.RowKit

theorem Tryf.info2 : (Tryf.prog.info? 2).map (fun i => (i.zero, i.size, i.bytes)) = some (some (.int .i64 0), 1, 8) := by kernel_rfl
theorem Tryf.info29 : (Tryf.prog.info? 29).map (fun i => (i.zero, i.size, i.bytes)) = some (some (.int .u64 0), 1, 8) := by kernel_rfl
theorem Tryf.neqNil22 (w : World) (a : Option Addr) (l c : Nat) : (binOp .neq 22 (.slice a l c) (.slice none 0 0)).run Tryf.prog w = .ok (.bool (!a.isNone)) w := run_neq_slice_nil w 22 2 a l c Tryf.underlying22

theorem below_setCells {B b : Nat} (hB : B ≤ b) {w0 : World} : ∀ (vs : List Value) (o : Nat) (w : World), Below B w0 w → Below B w0 (w.setCells b o vs)
  | [], _, _, h => h
  | v :: vs, o, w, h => below_setCells hB vs (o + 1) (w.setCell ⟨b, o, none⟩ v) (Below.setCell (p := ⟨b, o, none⟩) h hB v)
theorem copy_new (w w1 : World) (ao : Option Addr) (cap : Nat) (zs : List Int) (hsh : SharesIn w1 w.heap.size ao zs)
    (hown : w1.ownsRow w.heap.size 2 1 (.slice (some ⟨w.heap.size, 0, none⟩) zs.length zs.length) zs.length (madeCells (Value.cells (.int .i64 0)) (zs.length * 1)).toList) (hB : Below w.heap.size w w1) :
    ∃ W2, (∀ ty, (Builtin.copy_ #[22, 22] ty #[.slice (some ⟨w.heap.size, 0, none⟩) zs.length zs.length, .slice ao zs.length cap]).run Tryf.prog w1 = .ok (goInt zs.length) W2) ∧
      SharesIn W2 W2.heap.size (some ⟨w.heap.size, 0, none⟩) zs ∧ Below w.heap.size w W2 := by
  obtain ⟨i0, hi, hz0, hz1, hz2⟩ := info_parts Tryf.info2
  have hs : (Tryf.prog.info? 2).map (·.size) = some 1 := by rw [hi]; simp [hz1]
  have hlt := (hown.lt w.heap.size rfl).2
  have hc : ∀ j, j < zs.length → w1.cell? ⟨w.heap.size, j, none⟩ = some (.int .i64 0) := by
    intro j hj
    rw [hown.cellAt j (by omega), show Value.cells (.int .i64 0) = #[.int .i64 0] from rfl, toList_madeCells_one]
    simp [hj]
  have hf : ∀ j, w1.frozen? ⟨w.heap.size, j, none⟩ = false := hown.frozenAt
  cases zs with
  | nil =>
    refine ⟨w1, fun ty => ?_, fun k x hx => by simp at hx, hB⟩
    exact run_copy_none w1 22 22 ty 2 _ ao _ _ _ cap Tryf.underlying22 hs rfl
  | cons z l =>
    obtain ⟨sb, so, rfl, hsb, -⟩ := hsh 0 z rfl
    obtain ⟨zs, hzs⟩ : ∃ zs, zs = z :: l := ⟨_, rfl⟩
    rw [← hzs] at hsh hc ⊢
    have hlen : (zs.map fun x => Value.int .i64 x).length = zs.length := List.length_map ..
    refine ⟨w1.setCells w.heap.size 0 (zs.map fun x => .int .i64 x), fun ty => ?_, ?_, below_setCells (Nat.le_refl _) _ _ _ hB⟩
    · have h := run_copy_cells (P := Tryf.prog) w1 22 22 ty 2 w.heap.size 0 zs.length zs.length ⟨sb, so, none⟩ zs.length cap (zs.map fun x => .int .i64 x) Tryf.underlying22 hs (by rw [hlen]; exact (Nat.min_self _).symm) ?_ ?_ ?_ ?_
      · rw [hlen] at h; exact h
      · intro j v hv
        rw [List.getElem?_map] at hv
        cases hq : zs[j]? with
        | none => rw [hq] at hv; simp at hv
        | some x =>
          rw [hq] at hv
          simp only [Option.map_some, Option.some.injEq] at hv
          obtain ⟨sb', so', e, -, hcc, -⟩ := hsh j x hq
          simp only [Option.some.injEq, Addr.mk.injEq] at e
          obtain ⟨rfl, rfl, -⟩ := e
          rw [← hv]
          have e2 : (⟨sb, so, none⟩ : Addr).add j = ⟨sb, so + j, none⟩ := by simp [Addr.add]
          rw [e2]; exact hcc
      · intro j hj
        rw [hlen] at hj
        rw [Nat.zero_add, hc j hj]; rfl
      · intro j _
        exact hf _
      · intro v hv
        obtain ⟨x, -, rfl⟩ := List.mem_map.1 hv
        rfl
    · intro k x hx
      have hk : k < zs.length := (List.getElem?_eq_some_iff.1 hx).1
      obtain ⟨-, -, -, -, -, r⟩ := hsh k x hx
      refine ⟨w.heap.size, 0, rfl, by rw [size_setCells]; exact hlt, ?_, r⟩
      have h := World.cell?_setCells_in w.heap.size (zs.map fun x => Value.int .i64 x) 0 w1 (fun j hj => by rw [hlen] at hj; rw [Nat.zero_add, hc j hj]; rfl) k (by rw [hlen]; exact hk)
      rw [h]
      have hx2 := (List.getElem?_eq_some_iff.1 hx).2
      simp [hx2]

set_option maxHeartbeats 400000 in
theorem zzbytes10 (A : Value) (ao : Option Addr) (n cap : Nat) (w : World) (hn : n ≤ 9223372036854775807) :
    Calls Tryf.prog 10 #[A, .slice ao n cap] w fun e w' => e = .returned (.bool (decide (n ≤ 1048576))) ∧ w' = w := by
  by_cases h : n ≤ 1048576
  all_goals
    go_enter Tryf.func10, Tryf.ntmps10
    go_wp2
    go_ret
    exact ⟨by simp [h], rfl⟩

set_option maxHeartbeats 400000 in
theorem zzbytes5 (A : Value) (ao : Option Addr) (n cap : Nat) (w : World) (hn : n ≤ 9223372036854775807) :
    Calls Tryf.prog 5 #[A, .slice ao n cap] w fun e w' => e = .returned (.bool (decide (n ≤ 1048576))) ∧ w' = w := by
  by_cases h : n ≤ 1048576
  all_goals
    go_enter Tryf.func5, Tryf.ntmps5
    go_wp2
    go_ret
    exact ⟨by simp [h], rfl⟩

/-- n words at block b. -/
def RowAt (b n : Nat) (p : Nat → Int) (W : World) : Prop := ∀ j, j < n → W.cell? ⟨b, j, none⟩ = some (.int .u64 (p j)) ∧ W.frozen? ⟨b, j, none⟩ = false

theorem RowAt.put {b n : Nat} {p p' : Nat → Int} {W : World} (h : RowAt b n p W) (k : Nat) (v : Int) (hk : p' k = v) (ho : ∀ j, j ≠ k → p' j = p j) : RowAt b n p' (W.setCell ⟨b, k, none⟩ (.int .u64 v)) := by
  intro j hj
  obtain ⟨hc, hf⟩ := h j hj
  refine ⟨?_, by rw [World.frozen?_setCell]; exact hf⟩
  by_cases e : j = k
  · subst e
    rw [World.cell?_setCell_same _ _ _ hc, hk]
  · rw [World.cell?_setCell_other _ _ _ _ (fun e2 => by have := congrArg Addr.off e2; simp at this; omega), hc, ho j e]

theorem row_new {w1 : World} {b n : Nat} (hown : w1.ownsRow b 29 1 (.slice (some ⟨b, 0, none⟩) n n) n (madeCells (Value.cells (.int .u64 0)) (n * 1)).toList) : RowAt b n (fun _ => 0) w1 := by
  intro j hj
  refine ⟨?_, hown.frozenAt j⟩
  rw [hown.cellAt j (by omega), show Value.cells (.int .u64 0) = #[.int .u64 0] from rfl, toList_madeCells_one]
  simp [hj]

end Go.Proofs.Qxb6614430aFmt
