/-
  missingCents (18).
-/
import Derived.Test.Qxb6614430aFmtMsk
import Derived.Test.Qxb6614430aFmtZero
import Derived.RegionTactic
import Derived.ChangeAlike
namespace Go.Proofs.Qxb6614430aFmt
open Go.RowKit

/-- The number in the cell that a slot's pointer leads to. -/
def valAt (W : World) : Value → Nat
  | .pointer (some a) => match W.cell? a with
    | some (.int _ n) => n.toNat
    | _ => 0
  | _ => 0

/-- missingCents' own variables at the head of its loop (n0: the heap's size when it was called). -/
structure Head (w : World) (n0 bs rb : Nat) (W : World) (f p : Int) (sh : Nat) : Prop where
  r : W.cell? ⟨n0, 0, none⟩ = some (.pointer (some ⟨rb, 0, none⟩))
  c : ∃ cnt, CntAt (n0 + 1) cnt W
  p : W.cell? ⟨n0 + 2, 0, none⟩ = some (.int .u64 p)
  pf : W.frozen? ⟨n0 + 2, 0, none⟩ = false
  f : W.cell? ⟨n0 + 3, 0, none⟩ = some (.int .u64 f)
  ff : W.frozen? ⟨n0 + 3, 0, none⟩ = false
  s : W.cell? ⟨bs, 0, none⟩ = some (.int .i64 sh)
  sf : W.frozen? ⟨bs, 0, none⟩ = false
  lo : n0 + 4 ≤ bs
  hi : bs < W.heap.size
  bel : Below n0 w W

/-- What is given of the call. -/
structure Given (w : World) (rb bsl : Nat) (ao : Option Addr) (cap : Nat) (zs : List Int) (S A : Int) : Prop where
  len : zs.length ≤ 4096
  sh : SharesIn w rb ao zs
  sl : w.cell? ⟨bsl, 0, none⟩ = some (.slice ao zs.length cap)
  slb : bsl < rb
  rbl : rb < w.heap.size
  cS : w.cell? ⟨rb, 0, none⟩ = some (.int .u64 S)
  cA : w.cell? ⟨rb, 1, none⟩ = some (.int .u64 A)
  z : ∀ x ∈ zs, 0 ≤ x ∧ x ≤ S
  sum : zs.sum = S
  A0 : 0 ≤ A
  A1 : A ≤ 9223372036854775807
  S1 : S ≤ 18446744073709551615
  AS : A < S

theorem Given.shares {w : World} {rb bsl : Nat} {ao : Option Addr} {cap : Nat} {zs : List Int} {S A : Int} (h : Given w rb bsl ao cap zs S A) : SharesIn w w.heap.size ao zs := by
  intro k x hx
  obtain ⟨sb, so, e, hlt, r⟩ := h.sh k x hx
  exact ⟨sb, so, e, Nat.lt_trans hlt h.rbl, r⟩

/-- The state ahead of one walk over the shares: the shift stored, the counts cleared, 'given' made. -/
theorem ready {w : World} {rb bsl : Nat} {ao : Option Addr} {cap : Nat} {zs : List Int} {S A : Int} {bs : Nat} {wr : World} {f p : Int} {sh sh' : Nat} (G : Given w rb bsl ao cap zs S A) (h : Head w w.heap.size bs rb wr f p sh) :
    ∃ W2, (∀ ty, (Builtin.clear_ #[36] ty #[.slice (some ⟨w.heap.size + 1, 0, none⟩) 65536 65536]).run Tryf.prog (wr.setCell ⟨bs, 0, none⟩ (.int .i64 sh')) = .ok (.tuple #[]) W2) ∧ W2.heap.size = wr.heap.size ∧
      CutVars w.heap.size w.heap.size W2.heap.size (w.heap.size + 3) (w.heap.size + 2) (w.heap.size + 1) bs rb S A (W2.alloc (.cells #[.int .u64 0] 29)) 0 f p sh' (fun _ => 0) ∧ Below w.heap.size w (W2.alloc (.cells #[.int .u64 0] 29)) := by
  obtain ⟨cnt, hc⟩ := h.c
  have hlo := h.lo
  have hhi := h.hi
  have hrb := G.rbl
  have hsz := h.bel.size
  obtain ⟨W2, hrun, hz, hcell, hfz, hsize, hbel⟩ := clear_cnt (w.heap.size + 1) cnt (wr.setCell ⟨bs, 0, none⟩ (.int .i64 sh')) (hc.other _ _ (by show bs ≠ _; omega))
  have hsize2 : W2.heap.size = wr.heap.size := by rw [hsize]; simp
  have old : ∀ b i, b < w.heap.size → W2.cell? ⟨b, i, none⟩ = w.cell? ⟨b, i, none⟩ := by
    intro b i hb
    rw [hcell ⟨b, i, none⟩ (by show b ≠ _; omega), set_far (by show bs ≠ b; omega), h.bel.cell (p := ⟨b, i, none⟩) hb]
  have own : ∀ b i, b < wr.heap.size → b ≠ w.heap.size + 1 → b ≠ bs → (W2.alloc (.cells #[.int .u64 0] 29)).cell? ⟨b, i, none⟩ = wr.cell? ⟨b, i, none⟩ := by
    intro b i hb h1 h2
    rw [World.cell?_alloc_lt W2 _ ⟨b, i, none⟩ (by show b < _; omega), hcell ⟨b, i, none⟩ h1, set_far (by show bs ≠ b; omega)]
  have fz : ∀ b i, b < wr.heap.size → (W2.alloc (.cells #[.int .u64 0] 29)).frozen? ⟨b, i, none⟩ = wr.frozen? ⟨b, i, none⟩ := by
    intro b i hb
    rw [World.frozen?_alloc_past (w := W2) _ b i (by omega), hfz, World.frozen?_setCell]
  refine ⟨W2, hrun, hsize2, ?_, ?_⟩
  · refine ⟨?_, ?_, ?_, ?_, ?_, ?_, ?_, ?_, ?_, ?_, ?_, ?_, ?_, ?_, ?_, ?_, ?_, ?_, ?_, ?_, ?_, ?_, ?_, ?_, ?_⟩
    · rw [own _ _ (by omega) (by omega) (by omega)]; exact h.r
    · exact World.cell?_alloc_at (w := W2) #[.int .u64 0] 29 _ 0 rfl
    · rw [own _ _ (by omega) (by omega) (by omega)]; exact h.f
    · rw [own _ _ (by omega) (by omega) (by omega)]; exact h.p
    · rw [World.cell?_alloc_lt W2 _ ⟨bs, 0, none⟩ (by show bs < _; omega), hcell ⟨bs, 0, none⟩ (by show bs ≠ _; omega)]
      exact World.cell?_setCell_same _ _ _ h.s
    · rw [World.cell?_alloc_lt W2 _ ⟨rb, 0, none⟩ (by show rb < _; omega), old rb 0 hrb]; exact G.cS
    · rw [World.cell?_alloc_lt W2 _ ⟨rb, 1, none⟩ (by show rb < _; omega), old rb 1 hrb]; exact G.cA
    · exact World.frozen?_alloc_at (w := W2) #[.int .u64 0] 29 _ 0 rfl
    · rw [fz _ _ (by omega)]; exact h.ff
    · rw [fz _ _ (by omega)]; exact h.pf
    · rw [fz _ _ (by omega)]; exact h.sf
    · intro j hj
      refine ⟨?_, ?_⟩
      · rw [World.cell?_alloc_lt W2 _ ⟨w.heap.size + 1, j, none⟩ (by show w.heap.size + 1 < _; omega)]; exact (hz j hj).1
      · rw [World.frozen?_alloc_past (w := W2) _ _ j (by omega)]; exact (hz j hj).2
    all_goals omega
  · have h1 : Below w.heap.size w (wr.setCell ⟨bs, 0, none⟩ (.int .i64 sh')) := Below.setCell (p := ⟨bs, 0, none⟩) h.bel (by show w.heap.size ≤ bs; omega) _
    exact (h1.trans (hbel w.heap.size (by omega))).alloc (by omega) _

end Go.Proofs.Qxb6614430aFmt
