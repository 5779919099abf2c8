/-
  missingCents (18): its start, one pass.
-/
import Derived.Test.Qxb6614430aFmtMis2
namespace Go.Proofs.Qxb6614430aFmt
open Go.RowKit

theorem zero50 {Z : Array Value} (h : Tryf.t50.zero = some (.agg Z)) (w : World) : (zeroValue 50).run Tryf.prog w = .ok (.agg Z) w := by
  have hi : (typeInfo 50).run Tryf.prog w = .ok Tryf.t50 w := by kernel_rfl
  unfold zeroValue
  rw [Sem.run_bind, hi]
  simp only [Result.andThen]
  rw [h]
  rfl

theorem start_head {w : World} {rb : Nat} {Z : Array Value} (hZ0 : ∀ j, j < 65536 → Z[j]? = some (.int .u64 0)) (sh : Nat) :
    Head w w.heap.size (w.heap.size + 4) rb (((((w.alloc (.cells #[.pointer (some ⟨rb, 0, none⟩)] 24)).alloc (.cells Z 50)).alloc (.cells #[.int .u64 0] 29)).alloc (.cells #[.int .u64 0] 29)).alloc (.cells #[.int .i64 sh] 3)) 0 0 sh := by
  obtain ⟨w1, h1⟩ : ∃ w1, w1 = w.alloc (.cells #[.pointer (some ⟨rb, 0, none⟩)] 24) := ⟨_, rfl⟩
  obtain ⟨w2, h2⟩ : ∃ w2, w2 = w1.alloc (.cells Z 50) := ⟨_, rfl⟩
  obtain ⟨w3, h3⟩ : ∃ w3, w3 = w2.alloc (.cells #[.int .u64 0] 29) := ⟨_, rfl⟩
  obtain ⟨w4, h4⟩ : ∃ w4, w4 = w3.alloc (.cells #[.int .u64 0] 29) := ⟨_, rfl⟩
  obtain ⟨w5, h5⟩ : ∃ w5, w5 = w4.alloc (.cells #[.int .i64 sh] 3) := ⟨_, rfl⟩
  rw [← h1, ← h2, ← h3, ← h4, ← h5]
  have s1 : w1.heap.size = w.heap.size + 1 := by rw [h1]; simp
  have s2 : w2.heap.size = w.heap.size + 2 := by rw [h2]; simp [s1]
  have s3 : w3.heap.size = w.heap.size + 3 := by rw [h3]; simp [s2]
  have s4 : w4.heap.size = w.heap.size + 4 := by rw [h4]; simp [s3]
  have s5 : w5.heap.size = w.heap.size + 5 := by rw [h5]; simp [s4]
  have f2 : ∀ b i, b < w1.heap.size → w2.cell? ⟨b, i, none⟩ = w1.cell? ⟨b, i, none⟩ := fun b i h => by rw [h2]; exact World.cell?_alloc_lt w1 _ ⟨b, i, none⟩ h
  have f3 : ∀ b i, b < w2.heap.size → w3.cell? ⟨b, i, none⟩ = w2.cell? ⟨b, i, none⟩ := fun b i h => by rw [h3]; exact World.cell?_alloc_lt w2 _ ⟨b, i, none⟩ h
  have f4 : ∀ b i, b < w3.heap.size → w4.cell? ⟨b, i, none⟩ = w3.cell? ⟨b, i, none⟩ := fun b i h => by rw [h4]; exact World.cell?_alloc_lt w3 _ ⟨b, i, none⟩ h
  have f5 : ∀ b i, b < w4.heap.size → w5.cell? ⟨b, i, none⟩ = w4.cell? ⟨b, i, none⟩ := fun b i h => by rw [h5]; exact World.cell?_alloc_lt w4 _ ⟨b, i, none⟩ h
  have g3 : ∀ b i, b < w2.heap.size → w3.frozen? ⟨b, i, none⟩ = w2.frozen? ⟨b, i, none⟩ := fun b i h => by rw [h3]; exact World.frozen?_alloc_past (w := w2) _ b i h
  have g4 : ∀ b i, b < w3.heap.size → w4.frozen? ⟨b, i, none⟩ = w3.frozen? ⟨b, i, none⟩ := fun b i h => by rw [h4]; exact World.frozen?_alloc_past (w := w3) _ b i h
  have g5 : ∀ b i, b < w4.heap.size → w5.frozen? ⟨b, i, none⟩ = w4.frozen? ⟨b, i, none⟩ := fun b i h => by rw [h5]; exact World.frozen?_alloc_past (w := w4) _ b i h
  have b1 : Below w.heap.size w w1 := by rw [h1]; exact (Below.refl _ _).alloc (by omega) _
  have b2 : Below w.heap.size w w2 := by rw [h2]; exact b1.alloc (by omega) _
  have b3 : Below w.heap.size w w3 := by rw [h3]; exact b2.alloc (by omega) _
  have b4 : Below w.heap.size w w4 := by rw [h4]; exact b3.alloc (by omega) _
  have b5 : Below w.heap.size w w5 := by rw [h5]; exact b4.alloc (by omega) _
  refine ⟨?_, ⟨fun _ => 0, fun j hj => ⟨?_, ?_⟩⟩, ?_, ?_, ?_, ?_, ?_, ?_, by omega, by omega, b5⟩
  · rw [f5 _ _ (by omega), f4 _ _ (by omega), f3 _ _ (by omega), f2 _ _ (by omega), h1]
    exact World.cell?_alloc_at (w := w) #[.pointer (some ⟨rb, 0, none⟩)] 24 _ 0 rfl
  · rw [f5 _ _ (by omega), f4 _ _ (by omega), f3 _ _ (by omega), h2]
    rw [World.cell?_alloc_at (w := w1) Z 50 _ j s1.symm]
    exact hZ0 j hj
  · rw [g5 _ _ (by omega), g4 _ _ (by omega), g3 _ _ (by omega), h2]
    exact World.frozen?_alloc_at (w := w1) Z 50 _ j s1.symm
  · rw [f5 _ _ (by omega), f4 _ _ (by omega), h3]
    exact World.cell?_alloc_at (w := w2) #[.int .u64 0] 29 _ 0 s2.symm
  · rw [g5 _ _ (by omega), g4 _ _ (by omega), h3]
    exact World.frozen?_alloc_at (w := w2) #[.int .u64 0] 29 _ 0 s2.symm
  · rw [f5 _ _ (by omega), h4]
    exact World.cell?_alloc_at (w := w3) #[.int .u64 0] 29 _ 0 s3.symm
  · rw [g5 _ _ (by omega), h4]
    exact World.frozen?_alloc_at (w := w3) #[.int .u64 0] 29 _ 0 s3.symm
  · rw [h5]
    exact World.cell?_alloc_at (w := w4) #[.int .i64 sh] 3 _ 0 s4.symm
  · rw [h5]
    exact World.frozen?_alloc_at (w := w4) #[.int .i64 sh] 3 _ 0 s4.symm

/-- One pass: the counts are cleared, the shares are walked. -/
theorem pass {w : World} {rb bsl : Nat} {ao : Option Addr} {cap : Nat} {zs : List Int} {S A : Int} {bs : Nat} {wr : World} {F Pp P : Int} {e K : Nat} (G : Given w rb bsl ao cap zs S A)
    (h : Head w w.heap.size bs rb wr F Pp (e + 16)) (hF : F = 2 ^ (16 * K) - 2 ^ (e + 16)) (hP : Pp = P * 2 ^ (e + 16)) (he : e + 16 ≤ 16 * K) (hK : K ≤ 4) (hSK : S ≤ 2 ^ (16 * K)) :
    ∃ W2, (∀ ty, (Builtin.clear_ #[36] ty #[.slice (some ⟨w.heap.size + 1, 0, none⟩) 65536 65536]).run Tryf.prog (wr.setCell ⟨bs, 0, none⟩ (.int .i64 e)) = .ok (.tuple #[]) W2) ∧
      Calls Tryf.prog 13 #[.func (.func 22) #[] #[.pointer (some ⟨w.heap.size, 0, none⟩), .pointer (some ⟨W2.heap.size, 0, none⟩), .pointer (some ⟨w.heap.size + 1 + 1 + 1, 0, none⟩), .pointer (some ⟨w.heap.size + 1 + 1, 0, none⟩), .pointer (some ⟨w.heap.size + 1, 0, none⟩), .pointer (some ⟨bs, 0, none⟩)], .pointer (some ⟨bsl, 0, none⟩)] (W2.alloc (.cells #[.int .u64 0] 29))
        fun x W' => x = .returned .nilIface ∧ CutVars w.heap.size w.heap.size W2.heap.size (w.heap.size + 3) (w.heap.size + 2) (w.heap.size + 1) bs rb S A W' (partSum A S zs) F Pp e (cntOf (fun x => x * A % S / 2 ^ (e + 16) == P) (fun x => (x * A % S / 2 ^ e % 65536).toNat) zs) ∧ Below w.heap.size w W' := by
  obtain ⟨W2, hrun, hsz, hcv, hbel⟩ := ready (sh' := e) G h
  have hS : 0 < S := by have := G.A0; have := G.AS; omega
  have hmb := missing_bd A S zs hS G.sum
  have hA1 := G.A1
  have hS1 := G.S1
  have hcut : ∀ x : Int, 0 ≤ x * A % S ∧ x * A % S < S := fun x => ⟨Int.emod_nonneg _ (by omega), Int.emod_lt_of_pos _ hS⟩
  have hbsl : bsl < w.heap.size := Nat.lt_trans G.slb G.rbl
  refine ⟨W2, hrun, ?_⟩
  refine (asks22 w.heap.size w.heap.size W2.heap.size (w.heap.size + 3) (w.heap.size + 2) (w.heap.size + 1) bs rb bsl cap S A _ F Pp e ao zs (fun x => x * A % S / 2 ^ (e + 16) == P) (fun x => (x * A % S / 2 ^ e % 65536).toNat) G.len (G.shares.later hbel) hcv
    (by rw [hbel.cell (p := ⟨bsl, 0, none⟩) hbsl]; exact G.sl) G.z G.A0 hA1 hS1 G.AS (by omega) ?_ ?_ ?_).mono ?_
  · intro k _
    have := partSum_take_le A S zs G.A0 hS (fun x hx => (G.z x hx).1) k
    omega
  · intro x _
    rw [hF, hP]
    exact hit_eq _ P (16 * K) (e + 16) (hcut x).1 (by have := (hcut x).2; omega) he (by omega)
  · intro x _
    have hp : (0 : Int) < 2 ^ e := Int.pow_pos (by decide)
    have h0 : 0 ≤ x * A % S / 2 ^ e := Int.ediv_nonneg (hcut x).1 (by omega)
    have h1 : x * A % S / 2 ^ e ≤ x * A % S := Int.ediv_le_self _ (hcut x).1
    have h2 := (hcut x).2
    rw [and_16 _ h0 (by omega)]
    omega
  · rintro x W' ⟨h1, h2, h3⟩
    exact ⟨h1, h2, hbel.trans h3⟩

end Go.Proofs.Qxb6614430aFmt
