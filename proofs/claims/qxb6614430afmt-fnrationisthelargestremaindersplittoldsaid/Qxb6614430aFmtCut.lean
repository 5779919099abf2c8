/-
  missingCents' closure (22), and the walk over the shares that calls it (13).
-/
import Derived.Test.Qxb6614430aFmtSum
namespace Go.Proofs.Qxb6614430aFmt
open Go.RowKit

/-- The array of counts at block bc. -/
def CntAt (bc : Nat) (cnt : Nat → Int) (W : World) : Prop := ∀ j, j < 65536 → W.cell? ⟨bc, j, none⟩ = some (.int .u64 (cnt j)) ∧ W.frozen? ⟨bc, j, none⟩ = false

def bump (cnt : Nat → Int) (d : Nat) : Nat → Int := fun j => if j = d then cnt j + 1 else cnt j

theorem CntAt.bump {bc : Nat} {cnt : Nat → Int} {W : World} (h : CntAt bc cnt W) (d : Nat) : CntAt bc (bump cnt d) (W.setCell ⟨bc, d, none⟩ (.int .u64 (cnt d + 1))) := by
  intro j hj
  obtain ⟨hc, hf⟩ := h j hj
  refine ⟨?_, by rw [World.frozen?_setCell]; exact hf⟩
  by_cases e : j = d
  · subst e
    rw [World.cell?_setCell_same _ _ _ hc]; simp [Qxb6614430aFmt.bump]
  · rw [World.cell?_setCell_other _ _ _ _ (fun e2 => by have := congrArg Addr.off e2; simp at this; omega), hc]; simp [Qxb6614430aFmt.bump, e]

theorem CntAt.other {bc : Nat} {cnt : Nat → Int} {W : World} (h : CntAt bc cnt W) (a : Addr) (v : Value) (hne : a.block ≠ bc) : CntAt bc cnt (W.setCell a v) := by
  intro j hj
  obtain ⟨hc, hf⟩ := h j hj
  exact ⟨by rw [World.cell?_setCell_other _ _ _ _ (fun e2 => hne (by rw [e2])), hc], by rw [World.frozen?_setCell]; exact hf⟩

/-- What the closure of missingCents looks at. -/
structure CutVars (B br bg bf bp bc bs rb : Nat) (S A : Int) (W : World) (g f p : Int) (sh : Nat) (cnt : Nat → Int) : Prop where
  r : W.cell? ⟨br, 0, none⟩ = some (.pointer (some ⟨rb, 0, none⟩))
  g : W.cell? ⟨bg, 0, none⟩ = some (.int .u64 g)
  f : W.cell? ⟨bf, 0, none⟩ = some (.int .u64 f)
  p : W.cell? ⟨bp, 0, none⟩ = some (.int .u64 p)
  s : W.cell? ⟨bs, 0, none⟩ = some (.int .i64 sh)
  S : W.cell? ⟨rb, 0, none⟩ = some (.int .u64 S)
  A : W.cell? ⟨rb, 1, none⟩ = some (.int .u64 A)
  gf : W.frozen? ⟨bg, 0, none⟩ = false
  ff : W.frozen? ⟨bf, 0, none⟩ = false
  pf : W.frozen? ⟨bp, 0, none⟩ = false
  sf : W.frozen? ⟨bs, 0, none⟩ = false
  c : CntAt bc cnt W
  gr : bg ≠ br
  gF : bg ≠ bf
  gp : bg ≠ bp
  gs : bg ≠ bs
  gR : bg ≠ rb
  gc : bg ≠ bc
  cr : bc ≠ br
  cF : bc ≠ bf
  cp : bc ≠ bp
  cs : bc ≠ bs
  cR : bc ≠ rb
  Bg : B ≤ bg
  Bc : B ≤ bc

theorem set_far {W : World} {a b : Addr} {v : Value} (h : a.block ≠ b.block) : (W.setCell a v).cell? b = W.cell? b := World.cell?_setCell_other _ _ _ _ (fun e => h (by rw [e]))

theorem CutVars.setG {B br bg bf bp bc bs rb : Nat} {S A : Int} {W : World} {g f p : Int} {sh : Nat} {cnt : Nat → Int} (h : CutVars B br bg bf bp bc bs rb S A W g f p sh cnt) (g' : Int) :
    CutVars B br bg bf bp bc bs rb S A (W.setCell ⟨bg, 0, none⟩ (.int .u64 g')) g' f p sh cnt where
  r := by rw [set_far h.gr]; exact h.r
  g := World.cell?_setCell_same _ _ _ h.g
  f := by rw [set_far h.gF]; exact h.f
  p := by rw [set_far h.gp]; exact h.p
  s := by rw [set_far h.gs]; exact h.s
  S := by rw [set_far h.gR]; exact h.S
  A := by rw [set_far h.gR]; exact h.A
  gf := by rw [World.frozen?_setCell]; exact h.gf
  ff := by rw [World.frozen?_setCell]; exact h.ff
  pf := by rw [World.frozen?_setCell]; exact h.pf
  sf := by rw [World.frozen?_setCell]; exact h.sf
  c := h.c.other _ _ h.gc
  gr := h.gr
  gF := h.gF
  gp := h.gp
  gs := h.gs
  gR := h.gR
  gc := h.gc
  cr := h.cr
  cF := h.cF
  cp := h.cp
  cs := h.cs
  cR := h.cR
  Bg := h.Bg
  Bc := h.Bc

theorem CutVars.setC {B br bg bf bp bc bs rb : Nat} {S A : Int} {W : World} {g f p : Int} {sh : Nat} {cnt : Nat → Int} (h : CutVars B br bg bf bp bc bs rb S A W g f p sh cnt) (d : Nat) :
    CutVars B br bg bf bp bc bs rb S A (W.setCell ⟨bc, d, none⟩ (.int .u64 (cnt d + 1))) g f p sh (bump cnt d) where
  r := by rw [set_far h.cr]; exact h.r
  g := by rw [set_far (Ne.symm h.gc)]; exact h.g
  f := by rw [set_far h.cF]; exact h.f
  p := by rw [set_far h.cp]; exact h.p
  s := by rw [set_far h.cs]; exact h.s
  S := by rw [set_far h.cR]; exact h.S
  A := by rw [set_far h.cR]; exact h.A
  gf := by rw [World.frozen?_setCell]; exact h.gf
  ff := by rw [World.frozen?_setCell]; exact h.ff
  pf := by rw [World.frozen?_setCell]; exact h.pf
  sf := by rw [World.frozen?_setCell]; exact h.sf
  c := h.c.bump d
  gr := h.gr
  gF := h.gF
  gp := h.gp
  gs := h.gs
  gR := h.gR
  gc := h.gc
  cr := h.cr
  cF := h.cF
  cp := h.cp
  cs := h.cs
  cR := h.cR
  Bg := h.Bg
  Bc := h.Bc

theorem CutVars.drewN {B br bg bf bp bc bs rb : Nat} {S A : Int} {W : World} {g f p : Int} {sh : Nat} {cnt : Nat → Int} (h : CutVars B br bg bf bp bc bs rb S A W g f p sh cnt) (n : Nat) :
    CutVars B br bg bf bp bc bs rb S A (W.drewN n) g f p sh cnt where
  r := by rw [World.cell?_drewN]; exact h.r
  g := by rw [World.cell?_drewN]; exact h.g
  f := by rw [World.cell?_drewN]; exact h.f
  p := by rw [World.cell?_drewN]; exact h.p
  s := by rw [World.cell?_drewN]; exact h.s
  S := by rw [World.cell?_drewN]; exact h.S
  A := by rw [World.cell?_drewN]; exact h.A
  gf := by rw [World.frozen?_drewN]; exact h.gf
  ff := by rw [World.frozen?_drewN]; exact h.ff
  pf := by rw [World.frozen?_drewN]; exact h.pf
  sf := by rw [World.frozen?_drewN]; exact h.sf
  c := fun j hj => by rw [World.cell?_drewN, World.frozen?_drewN]; exact h.c j hj
  gr := h.gr
  gF := h.gF
  gp := h.gp
  gs := h.gs
  gR := h.gR
  gc := h.gc
  cr := h.cr
  cF := h.cF
  cp := h.cp
  cs := h.cs
  cR := h.cR
  Bg := h.Bg
  Bc := h.Bc

set_option maxHeartbeats 800000 in
theorem each22 (B br bg bf bp bc bs rb : Nat) (S A : Int) (W : World) (g f p : Int) (sh : Nat) (cnt : Nat → Int) (x : Int) (hit : Bool) (d : Nat)
    (h : CutVars B br bg bf bp bc bs rb S A W g f p sh cnt) (hx0 : 0 ≤ x) (hx : x ≤ 9223372036854775807) (hA0 : 0 ≤ A) (hA : A ≤ 9223372036854775807) (hS1 : S ≤ 18446744073709551615) (hxS : x ≤ S) (hAS : A < S)
    (hg0 : 0 ≤ g) (hg1 : g + x * A / S ≤ 18446744073709551615) (hs63 : sh ≤ 63) (hhit : (bits BinOp.and IntKind.u64 (x * A % S) f == p) = hit) (hdig : bits BinOp.and IntKind.u64 (x * A % S / 2 ^ sh) 65535 = (d : Int)) (hd : d < 65536)
    (hc0 : 0 ≤ cnt d) (hc1 : cnt d ≤ 65536) :
    Calls Tryf.prog 22 #[.int .i64 x, .pointer (some ⟨br, 0, none⟩), .pointer (some ⟨bg, 0, none⟩), .pointer (some ⟨bf, 0, none⟩), .pointer (some ⟨bp, 0, none⟩), .pointer (some ⟨bc, 0, none⟩), .pointer (some ⟨bs, 0, none⟩)] W fun e W' =>
      e = .returned (.tuple #[]) ∧ CutVars B br bg bf bp bc bs rb S A W' (g + x * A / S) f p sh (if hit then bump cnt d else cnt) ∧ Below B W W' := by
  have HD := divide_any rb x A S W hx0 hx hA0 hA hS1 hxS hAS h.S h.A
  have hp0 : 0 ≤ x * A / S := Int.ediv_nonneg (Int.mul_nonneg hx0 hA0) (by omega)
  have hq0 : 0 ≤ x * A % S := Int.emod_nonneg _ (by omega)
  have hq1 : x * A % S < S := Int.emod_lt_of_pos _ (by omega)
  obtain ⟨pt, hpt⟩ : ∃ a, a = x * A / S := ⟨_, rfl⟩
  obtain ⟨ct, hct⟩ : ∃ a, a = x * A % S := ⟨_, rfl⟩
  rw [← hpt, ← hct] at HD
  rw [← hpt] at hg1 hp0 ⊢
  rw [← hct] at hq0 hq1 hhit hdig
  clear hpt hct
  have r := h.r
  have HV : Hid (CutVars B br bg bf bp bc bs rb S A W g f p sh cnt) := h
  clear h
  go_enter Tryf.func22, Tryf.ntmps22
  go_wp2_with fail
  refine HD.mono ?_
  clear HD r
  rintro e W2 ⟨rfl, n, hW2⟩
  have h2 : CutVars B br bg bf bp bc bs rb S A W2 g f p sh cnt := by rw [hW2]; exact HV.out.drewN n
  have hb2 : Below B W W2 := by rw [hW2]; exact below_drewN (Below.refl B W) n
  clear hW2 HV
  have cg := h2.g; have gf := h2.gf; have cf := h2.f; have cp := h2.p; have cs := h2.s
  obtain ⟨cc, cfz⟩ := h2.c d hd
  have n1 := h2.gF; have n2 := h2.gp; have n3 := h2.gs; have n4 := h2.gc; have n5 := h2.gr
  have HV : Hid (CutVars B br bg bf bp bc bs rb S A W2 g f p sh cnt) := h2
  clear h2
  cases hit
  · go_wp2
    go_end0
    exact ⟨rfl, HV.out.setG _, Below.setCell (p := ⟨bg, 0, none⟩) hb2 HV.out.Bg _⟩
  · go_wp2
    go_end0
    exact ⟨rfl, (HV.out.setG _).setC d, Below.setCell (p := ⟨bc, d, none⟩) (Below.setCell (p := ⟨bg, 0, none⟩) hb2 HV.out.Bg _) HV.out.Bc _⟩
end Go.Proofs.Qxb6614430aFmt
