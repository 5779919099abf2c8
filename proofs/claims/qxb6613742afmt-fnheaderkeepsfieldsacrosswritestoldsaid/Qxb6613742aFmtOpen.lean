/-
  A map[string][]string that came in, opened: what the operations at one key give, in whatever later world; the slice at the key; a []byte that came in.
-/
import Derived.Test.Qxb6613742aFmtLaw
import Derived.ProofKit
import Derived.SliceStrings
namespace Go.Proofs.Qxb6613742aFmt
open Go.ChangeShapes Go.WideShapes Go.ChangeAt Go.RowKit Go.WideMaps Go.WideElems Go.Maps

theorem Tryf.cells9 : Tryf.prog.cellsOf 9 = 1 := by kernel_rfl
theorem Tryf.cells5 : Tryf.prog.cellsOf 5 = 1 := by kernel_rfl
theorem zero24 (w : World) : (zeroValue 24).run Tryf.prog w = .ok (.slice none 0 0) w := by kernel_rfl
theorem law9 : Keyed Tryf.prog 9 := string_keyed Tryf.underlying9

theorem one_key {es : List MapEntry} (h : es.Pairwise (fun a b => a.key ≠ b.key)) {a b : MapEntry} (ha : a ∈ es) (hb : b ∈ es) (e : a.key = b.key) : a = b := by
  obtain ⟨i, hi, rfl⟩ := List.mem_iff_getElem.1 ha
  obtain ⟨j, hj, rfl⟩ := List.mem_iff_getElem.1 hb
  rw [List.pairwise_iff_getElem] at h
  rcases Nat.lt_trichotomy i j with hij | hij | hij
  · exact absurd e (h i j hi hj hij)
  · subst hij; rfl
  · exact absurd e.symm (h j i hj hi hij)

theorem len_map (W : World) (b : Nat) (es : Array MapEntry) (clock : Nat) (hb : W.heap[b]? = some (.map es clock)) (ty : TypeId) : (Builtin.len_ #[22] ty #[.map (some b)]).run Tryf.prog W = .ok (.int .i64 es.size) W := by
  simp [Builtin.len_, run_underlying Tryf.underlying22, MapKept.run_getObj_map hb, goInt, Result.andThen]

section
variable {H : Type} {enc : TypeId × Value → H}

theorem elem_open {W : World} {n : Nat} {v : Value} {z : DataW H × List MemPlace} (h : elemAt enc Tryf.prog W 0 (fun _ => true) true n 24 v = some z) :
    ∃ ao len cap, v = .slice ao len cap ∧ VAt W v ∧ len ≤ 9223372036854775807 := by
  unfold elemAt at h
  split at h
  · rename_i hf
    rcases open_strings Tryf.underlying24 Tryf.underlying9 Tryf.cells9 h with ⟨hc, -⟩ | ⟨a, len, cap, ss, hc, -, hl, hm, hz, -, hcell, hws⟩
    · cases v <;> simp [Value.formed, Tryf.underlying24, Value.cells] at hf hc
      obtain ⟨rfl, rfl, rfl⟩ := hc
      exact ⟨none, 0, 0, rfl, Or.inl ⟨none, 0, rfl, fun _ => rfl⟩, by omega⟩
    · cases v <;> simp [Value.formed, Tryf.underlying24, Value.cells] at hf hc
      obtain ⟨rfl, rfl, rfl⟩ := hc
      simp at hz
      unfold maxLen at hm
      rename_i len cap
      refine ⟨some a, len, cap, rfl, ?_, by omega⟩
      by_cases h0 : len = 0
      · subst h0
        exact Or.inl ⟨some a, cap, rfl, fun e => by cases e⟩
      · obtain ⟨b, off, spot⟩ := a
        have hc0 := hcell 0 (by omega)
        have hspot : spot = none := by simpa [Addr.add] using World.cell?_spot hc0
        subst hspot
        rw [add_plain] at hc0
        have hlt := World.block_lt_of_cell? W _ hc0
        refine Or.inr ⟨b, off, cap, ss.take len, by simp; omega, hlt, by simp; omega, ?_⟩
        intro i s hs
        have hi : i < ss.length := by
          have := (List.getElem?_eq_some_iff.1 hs).1
          simp at this; omega
        have hi2 : i < len := by
          have := (List.getElem?_eq_some_iff.1 hs).1
          simp at this; omega
        have hc := hcell i hi
        rw [add_plain] at hc
        rw [List.getElem?_take, if_pos hi2] at hs
        have hd : ss.getD i ByteArray.empty = s := by simp [List.getD, hs]
        rw [hd] at hc
        refine ⟨hc, ?_⟩
        have := hws s (List.mem_of_getElem? hs)
        unfold maxLen at this
        exact this
  · cases h

theorem map_open {W : World} {fuel : Nat} {mo : Option Nat} {x : DataW H × List MemPlace} (key : ByteArray) (hks : key.size ≤ maxLen) (h : DataW.trod enc Tryf.prog W 0 (fun _ => true) true fuel 22 [.map mo] = some x) :
    ∃ ao len cap ok n, (∀ W', Below W.heap.size W W' → MapOk mo key (.slice ao len cap) ok n W') ∧ VAt W (.slice ao len cap) ∧ n ≤ 9223372036854775807 ∧ len ≤ 9223372036854775807 := by
  have hkey := keyOf_string_mk Tryf.underlying9 hks
  rcases open_map Tryf.underlying22 h with ⟨hcs, -⟩ | ⟨b, es, clock, n, -, hcs, hb, -, F, -⟩
  · simp at hcs
    subst hcs
    exact ⟨none, 0, 0, false, 0, fun W' _ => ⟨look_nil false law9 Tryf.underlying22 (zero24 W') hkey, look_nil true law9 Tryf.underlying22 (zero24 W') hkey, fun ty => len_nil Tryf.underlying22 ty⟩, Or.inl ⟨none, 0, rfl, fun _ => rfl⟩, by omega, by omega⟩
  · simp at hcs
    subst hcs
    have hblt : b < W.heap.size := by
      rcases Nat.lt_or_ge b W.heap.size with h1 | h1
      · exact h1
      · rw [Array.getElem?_eq_none h1] at hb; cases hb
    have hsz : es.size ≤ 9223372036854775807 := F.size
    obtain ⟨-, -, hpw⟩ := (MapKept.stamped_iff es clock).1 F.stamped
    by_cases hex : ∃ e0 ∈ es.toList, e0.key = .string key
    · obtain ⟨e0, hm0, hk0⟩ := hex
      obtain ⟨y0, hy0⟩ := F.reads e0 hm0
      obtain ⟨zv, hzv, -⟩ := rd_val hy0
      obtain ⟨ao, len, cap, hv, hV, hlen⟩ := elem_open hzv
      refine ⟨ao, len, cap, true, es.size, fun W' hB => ?_, hv ▸ hV, hsz, hlen⟩
      have hb' : W'.heap[b]? = some (.map es clock) := by rw [hB.block b hblt]; exact hb
      have look : ∀ c, (Instr.lookup 22 (.map (some b)) (.string key) c).run Tryf.prog W' = .ok (if c then .tuple #[.slice ao len cap, .bool true] else .slice ao len cap) W' := by
        intro c
        rcases fit_look c law9 Tryf.underlying22 (zero24 W') hb' F hkey with ⟨-, h2, -⟩ | ⟨e1, y, hm1, hk1, hrun, -⟩
        · exact absurd hk0 (h2 e0 hm0)
        · obtain rfl := one_key hpw hm1 hm0 (hk1.trans hk0.symm)
          rw [hrun, hv]
      exact ⟨look false, look true, len_map W' b es clock hb'⟩
    · refine ⟨none, 0, 0, false, es.size, fun W' hB => ?_, Or.inl ⟨none, 0, rfl, fun _ => rfl⟩, hsz, by omega⟩
      have hb' : W'.heap[b]? = some (.map es clock) := by rw [hB.block b hblt]; exact hb
      have look : ∀ c, (Instr.lookup 22 (.map (some b)) (.string key) c).run Tryf.prog W' = .ok (if c then .tuple #[.slice none 0 0, .bool false] else .slice none 0 0) W' := by
        intro c
        rcases fit_look c law9 Tryf.underlying22 (zero24 W') hb' F hkey with ⟨hrun, -, -⟩ | ⟨e1, y, hm1, hk1, -⟩
        · exact hrun
        · exact absurd ⟨e1, hm1, hk1⟩ hex
      exact ⟨look false, look true, len_map W' b es clock hb'⟩

theorem src_open {W : World} {fuel : Nat} {pao : Option Addr} {plen pcap : Nat} {x : DataW H × List MemPlace} (h : DataW.trod enc Tryf.prog W 0 (fun _ => true) true fuel 23 [.slice pao plen pcap] = some x) :
    (∀ W' b, Below W.heap.size W W' → W.heap.size ≤ b → plen ≤ 1048576 → SrcAt b (.slice pao plen pcap) W') ∧ plen ≤ 9223372036854775807 := by
  rcases open_ints Tryf.underlying23 Tryf.underlying5 Tryf.cells5 h with ⟨hc, -⟩ | ⟨a, len, cap, zs, hc, -, hl, hm, hz, -, hcell, -⟩
  · simp at hc
    obtain ⟨rfl, rfl, rfl⟩ := hc
    exact ⟨fun W' b _ _ _ => Or.inl ⟨none, 0, rfl⟩, by omega⟩
  · simp at hc
    obtain ⟨rfl, rfl, rfl⟩ := hc
    simp at hz
    unfold maxLen at hm
    refine ⟨fun W' b0 hB hb0 hlim => ?_, by omega⟩
    by_cases h0 : plen = 0
    · subst h0
      exact Or.inl ⟨some a, pcap, rfl⟩
    · obtain ⟨b, off, spot⟩ := a
      have hc0 := hcell 0 (by omega)
      have hspot : spot = none := by simpa [Addr.add] using World.cell?_spot hc0
      subst hspot
      rw [add_plain] at hc0
      have hlt := World.block_lt_of_cell? W _ hc0
      refine Or.inr ⟨b, off, plen, pcap, (zs.take plen).map (Value.int .u8), rfl, Nat.lt_of_lt_of_le hlt hb0, by simp; omega, hlim, by intro v hv; obtain ⟨q, -, rfl⟩ := List.mem_map.1 hv; rfl, ?_⟩
      intro i v hv
      have hi : i < plen ∧ i < zs.length := by
        have := (List.getElem?_eq_some_iff.1 hv).1
        simp at this; omega
      have hc := hcell i hi.2
      rw [add_plain] at hc
      rw [hB.cell (p := ⟨b, off + i, none⟩) hlt, hc]
      rw [List.getElem?_map, List.getElem?_take, if_pos hi.1] at hv
      simp [List.getElem?_eq_getElem hi.2] at hv
      simp [List.getD, List.getElem?_eq_getElem hi.2, hv]

end
end Go.Proofs.Qxb6613742aFmt
