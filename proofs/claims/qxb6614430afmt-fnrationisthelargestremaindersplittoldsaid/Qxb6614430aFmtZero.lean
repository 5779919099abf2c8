/-
  The array of 65536 counts: its zero value, its making, its clearing.
-/
import Derived.Test.Qxb6614430aFmtAsk
import Derived.Lib.SliceRun
import Derived.Lib.LazyBuf
namespace Go.Proofs.Qxb6614430aFmt
open Go.RowKit

def isZero : Value → Bool
  | .int .u64 n => n == 0
  | _ => false
/-- A list of n zeros? (each step hands on: the kernel reckons it flat) -/
def allZero : List Value → Nat → Bool
  | [], n => n == 0
  | _ :: _, 0 => false
  | v :: l, n + 1 => match isZero v with
    | true => allZero l n
    | false => false

theorem eq_of_isZero {v : Value} (h : isZero v = true) : v = .int .u64 0 := by
  unfold isZero at h
  split at h
  · simp at h; subst h; rfl
  · cases h

theorem eq_of_allZero : ∀ (l : List Value) (n : Nat), allZero l n = true → l = List.replicate n (.int .u64 0)
  | [], n, h => by simp [allZero] at h; subst h; rfl
  | v :: l, 0, h => by simp [allZero] at h
  | v :: l, n + 1, h => by
    unfold allZero at h
    split at h
    · rename_i hv
      rw [List.replicate_succ, eq_of_isZero hv, eq_of_allZero l n h]
    · cases h

def aggList : Option Value → List Value
  | some (.agg a) => a.toList
  | _ => []
def isAggB : Option Value → Bool
  | some (.agg _) => true
  | _ => false

set_option maxRecDepth 100000 in
theorem zero_list : allZero (aggList Tryf.t50.zero) 65536 = true := by kernel_rfl
theorem zero_agg : isAggB Tryf.t50.zero = true := by kernel_rfl

theorem replicate_at {n j : Nat} (v : Value) (hj : j < n) : (List.replicate n v)[j]? = some v := by simp [hj]

theorem zeros_ex : ∃ Z : Array Value, Tryf.t50.zero = some (.agg Z) ∧ ∀ j, j < 65536 → Z[j]? = some (.int .u64 0) := by
  have h := zero_agg
  have h2 := eq_of_allZero _ _ zero_list
  unfold isAggB at h
  split at h
  · rename_i a e
    refine ⟨a, e, fun j hj => ?_⟩
    rw [e] at h2
    have h3 : a.toList = List.replicate 65536 (.int .u64 0) := h2
    rw [← Array.getElem?_toList, h3]
    exact replicate_at _ hj
  · cases h

theorem Tryf.info50 : Tryf.prog.info? 50 = some Tryf.t50 := by kernel_rfl

theorem alloc50 {Z : Array Value} (h : Tryf.t50.zero = some (.agg Z)) (w : World) : (Instr.alloc 50 true (.tuple #[])).run Tryf.prog w = .ok (.pointer (some ⟨w.heap.size, 0, none⟩)) (w.alloc (.cells Z 50)) := by
  have hz : (zeroValue 50).run Tryf.prog w = .ok (.agg Z) w := by
    have hi : (typeInfo 50).run Tryf.prog w = .ok Tryf.t50 w := by kernel_rfl
    unfold zeroValue
    rw [Sem.run_bind, hi]
    simp only [Result.andThen]
    rw [h]
    rfl
  unfold Instr.alloc
  rw [Sem.run_bind, hz]
  rfl

theorem size_setCells (b : Nat) : ∀ (vs : List Value) (o : Nat) (w : World), (w.setCells b o vs).heap.size = w.heap.size
  | [], _, _ => rfl
  | v :: r, o, w => by rw [World.setCells, size_setCells b r]; simp

theorem setCells_zero (bc : Nat) (W : World) : ∀ (n o : Nat), (∀ j, j < n → (W.cell? ⟨bc, o + j, none⟩).isSome = true) →
    (∀ j, j < n → (W.setCells bc o (List.replicate n (.int .u64 0))).cell? ⟨bc, o + j, none⟩ = some (.int .u64 0)) := by
  intro n o h j hj
  have := World.cell?_setCells_in bc (List.replicate n (.int .u64 0)) o W (by simpa using h) j (by simpa using hj)
  simpa using this

/-- 'clear(count[:])'. -/
theorem clear_cnt (bc : Nat) (cnt : Nat → Int) (W : World) (h : CntAt bc cnt W) : ∃ W', (∀ ty, (Builtin.clear_ #[36] ty #[.slice (some ⟨bc, 0, none⟩) 65536 65536]).run Tryf.prog W = .ok (.tuple #[]) W') ∧ CntAt bc (fun _ => 0) W' ∧
    (∀ a : Addr, a.block ≠ bc → W'.cell? a = W.cell? a) ∧ (∀ a, W'.frozen? a = W.frozen? a) ∧ W'.heap.size = W.heap.size ∧ ∀ B, B ≤ bc → Below B W W' := by
  have hrun := fun ty => Lib.run_clear_slice (P := Tryf.prog) W 36 29 ty (.int .u64 0) Tryf.underlying36 (fun w => by kernel_rfl) rfl rfl bc 0 65536 65536 (by omega) (fun j hj => by rw [Nat.zero_add, (h j hj).1]; rfl) (fun j hj => by rw [Nat.zero_add]; exact (h j hj).2)
  obtain ⟨n, hn⟩ : ∃ n : Nat, n = 65536 := ⟨_, rfl⟩
  rw [← hn] at hrun ⊢
  have hc := setCells_zero bc W n 0 (fun j hj => by rw [Nat.zero_add, (h j (by omega)).1]; rfl)
  refine ⟨_, hrun, fun j hj => ⟨?_, ?_⟩, ?_, ?_, ?_, ?_⟩
  · have := hc j (by omega)
    rw [Nat.zero_add] at this
    exact this
  · rw [World.frozen?_setCells]; exact (h j hj).2
  · intro a ha
    exact World.cell?_setCells_out bc _ 0 W a (fun e => absurd e ha)
  · intro a; exact World.frozen?_setCells bc _ 0 W a
  · exact size_setCells bc _ 0 W
  · intro B hB; exact below_setCells hB _ 0 W (Below.refl B W)

end Go.Proofs.Qxb6614430aFmt
