/-
  A []int64 that came in, opened.
-/
import Derived.Test.Qxb6614430aFmtSum
import Derived.ProofKit
import Derived.SliceStrings
namespace Go.Proofs.Qxb6614430aFmt
open Go.ChangeShapes Go.WideShapes Go.ChangeAt Go.RowKit Go.WideElems

theorem Tryf.cells2 : Tryf.prog.cellsOf 2 = 1 := by kernel_rfl

theorem wf_i64 {n : Int} (h : (Lit.int .i64 n).wf = true) : -9223372036854775808 ≤ n ∧ n ≤ 9223372036854775807 := by
  simp [Lit.wf, IntKind.min, IntKind.max, IntKind.signed, IntKind.bits] at h
  omega

theorem shares_open {H : Type} {enc : TypeId × Value → H} {W : World} {fuel : Nat} {pao : Option Addr} {plen pcap : Nat} {x : DataW H × List MemPlace} (h : DataW.trod enc Tryf.prog W 0 (fun _ => true) true fuel 22 [.slice pao plen pcap] = some x) :
    ∃ zs : List Int, zs.length = plen ∧ SharesIn W W.heap.size pao zs ∧ plen ≤ 9223372036854775807 := by
  rcases open_ints Tryf.underlying22 Tryf.underlying2 Tryf.cells2 h with ⟨hc, -⟩ | ⟨a, len, cap, zs, hc, -, hl, hm, hz, -, hcell, hw⟩
  · simp at hc
    obtain ⟨rfl, rfl, rfl⟩ := hc
    exact ⟨[], rfl, fun k y hy => by simp at hy, by omega⟩
  · simp at hc
    obtain ⟨rfl, rfl, rfl⟩ := hc
    simp at hz
    unfold maxLen at hm
    refine ⟨zs.take plen, by simp; omega, ?_, by omega⟩
    intro k y hy
    have hk : k < plen := by
      have := (List.getElem?_eq_some_iff.1 hy).1
      simp at this
      omega
    have hy2 : zs[k]? = some y := by rw [List.getElem?_take] at hy; simpa [hk] using hy
    obtain ⟨b, off, spot⟩ := a
    have hc0 := hcell 0 (by omega)
    have hspot : spot = none := by simpa [Addr.add] using World.cell?_spot hc0
    subst hspot
    have hck := hcell k (by omega)
    rw [add_plain] at hck
    have hg : zs.getD k 0 = y := by simp [List.getD, hy2]
    rw [hg] at hck
    have hlt := World.block_lt_of_cell? W _ hck
    exact ⟨b, off, rfl, hlt, hck, wf_i64 (hw y (List.mem_of_getElem? hy2))⟩

end Go.Proofs.Qxb6614430aFmt
