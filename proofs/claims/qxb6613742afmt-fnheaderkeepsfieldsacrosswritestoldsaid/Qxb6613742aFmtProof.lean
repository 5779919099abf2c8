/-
  THE TOLD AND TIED CARD of FnHeaderKeepsFieldsAcrossWrites, proved.
-/
import Derived.Test.Qxb6613742aFmtCards
import Derived.Test.Qxb6613742aFmtTie
import Derived.Test.Qxb6613742aFmtOpen
import Derived.Stop.JoinedAt
import Derived.Stop.Texts
import Derived.Stop.ErrReads
import Derived.Stop.LaidErr
import Derived.Stop.JoinedTold
import Derived.SevenTiedAt
namespace Go.Proofs.Qxb6613742aFmt
open Go.ChangeShapes Go.WideShapes Go.ChangeAt Go.RowKit Go.Kit
open Go.ChangeMaps (open_string shut_string)
open Go.Extern.Stop Go.Stop Go.Extern

theorem Tryf.own : ownKnob Tryf.prog.godebug = none := by kernel_rfl
theorem Tryf.laidOut : laidOutB Tryf.pinned.checked.prog = true := by kernel_rfl
theorem Tryf.stopsAre : Tryf.pinned.checked.prog.stops = Rows.fnHeaderKeepsFieldsAcrossWritesRow.stops := by kernel_rfl
theorem Tryf.stopKnobsAre : Tryf.pinned.checked.prog.stopKnobs = [] := by kernel_rfl
theorem Tryf.quiet (os : Os) : Stop.quiet Tryf.pinned.checked.prog os := by
  intro k hk
  rw [Tryf.stopKnobsAre] at hk
  cases hk
theorem Tryf.star : "*" ++ "errors.errorString" = "*errors.errorString" := by decide
theorem Tryf.row53 (u : TypeId) (h : Tryf.prog.typeName? 3 u = some "*errors.errorString") : u = 53 :=
  typeName_ptr_named (nm := "errors.errorString") (by rw [Tryf.star]; kernel_rfl) (by kernel_rfl) (by decide) u (by rw [Tryf.star]; exact h)

set_option maxRecDepth 100000 in
set_option maxHeartbeats 1000000 in
theorem t_lifted (os : Os) (started : os.Started) (H : Type) (enc : TypeId × Value → H) :
    ReturnsInTold none {} Tryf.checked os 3 .any Input.okWide ((OpenSpec.ofChange Rows.fnHeaderKeepsFieldsAcrossWritesSpec).preRow enc Tryf.prog Tryf.f3 [] false Rows.fnHeaderKeepsFieldsAcrossWritesRow.laid) (fun F => ((OpenSpec.ofChange Rows.fnHeaderKeepsFieldsAcrossWritesSpec).at F).post enc Tryf.prog Tryf.f3 false true false false) (aloneAtReturn Tryf.prog) nothingAlways := by
  refine returnsInTold_of_row (C := Tryf.checked) (s := OpenSpec.ofChange Rows.fnHeaderKeepsFieldsAcrossWritesSpec) (by kernel_rfl) Tryf.own started (by kernel_rfl) Tryf.func3
    (OpenSpec.witness_stopped_at (enc := enc) (C := Tryf.checked) false
      { World.holding Tryf.prog os ⟨#[.cells #[.string ⟨#[104, 116, 116, 112, 58, 32, 114, 101, 113, 117, 101, 115, 116, 32, 109, 101, 116, 104, 111, 100, 32, 111, 114, 32, 114, 101, 115, 112, 111, 110, 115, 101, 32, 115, 116, 97, 116, 117, 115, 32, 99, 111, 100, 101, 32, 100, 111, 101, 115, 32, 110, 111, 116, 32, 97, 108, 108, 111, 119, 32, 98, 111, 100, 121]⟩] 74, .cells #[.string ⟨#[98, 121, 116, 101, 115, 46, 66, 117, 102, 102, 101, 114, 58, 32, 116, 111, 111, 32, 108, 97, 114, 103, 101]⟩] 74], #[], []⟩ with
        heap := ((World.holding Tryf.prog os ⟨#[.cells #[.string ⟨#[104, 116, 116, 112, 58, 32, 114, 101, 113, 117, 101, 115, 116, 32, 109, 101, 116, 104, 111, 100, 32, 111, 114, 32, 114, 101, 115, 112, 111, 110, 115, 101, 32, 115, 116, 97, 116, 117, 115, 32, 99, 111, 100, 101, 32, 100, 111, 101, 115, 32, 110, 111, 116, 32, 97, 108, 108, 111, 119, 32, 98, 111, 100, 121]⟩] 74, .cells #[.string ⟨#[98, 121, 116, 101, 115, 46, 66, 117, 102, 102, 101, 114, 58, 32, 116, 111, 111, 32, 108, 97, 114, 103, 101]⟩] 74], #[], []⟩).heap.modify 0 fun
          | .cells _ t frozen => .cells #[.iface 53 (.pointer (some ⟨(World.holding Tryf.prog default ⟨#[], #[], []⟩).heap.size, 0, none⟩))] t frozen
          | o => o).modify 1 fun
          | .cells _ t frozen => .cells #[.iface 53 (.pointer (some ⟨(World.holding Tryf.prog default ⟨#[], #[], []⟩).heap.size + 1, 0, none⟩))] t frozen
          | o => o }
      #[.map none, .string ⟨#[]⟩, .int .i64 0, .slice none 0 0] rfl (by kernel_rfl) (by kernel_rfl) (by kernel_rfl)
      (OpenSpec.preRow_of_B rfl 8 (by kernel_rfl) (by kernel_rfl) (laidMet_of_run (ps := [.cell 1 0, .cell ((World.holding Tryf.prog default ⟨#[], #[], []⟩).heap.size + 1) 0, .cell 0 0, .cell (World.holding Tryf.prog default ⟨#[], #[], []⟩).heap.size 0]) 8 (by kernel_rfl) (by kernel_rfl) (by kernel_rfl)))) ?_
  intro F W base args ds gs before _ hF hval0 hW _ _ _ hL0 _
  have hL : laidMet Tryf.prog Rows.fnHeaderKeepsFieldsAcrossWritesRow.laid W := hL0
  have hval : ∀ (j : Nat) t v, Tryf.f3.params[j]? = some t → args[j]? = some v → Value.okWide Tryf.prog W .any base t v := hval0
  have hW' := hW
  obtain ⟨p, q, hA0, hV, rfl, hfz, hnd⟩ := hW
  have hA : DataW.TrodAll enc Tryf.prog W 0 (fun _ => true) true Tryf.f3.params.toList args.toList ds p := hA0
  rw [Tryf.params3] at hA hval
  obtain ⟨v0, v1, v2, v3, d0, d1, d2, d3, p0, p1, p2, p3, rfl, rfl, rfl, h0, h1, h2, h3⟩ := trodAll_four hA
  obtain ⟨rfl, rfl⟩ := trodVars_none hV
  obtain ⟨mo, rfl⟩ := okWide_map Tryf.underlying22 (hval 0 22 v0 rfl rfl)
  obtain ⟨key, rfl, rfl, rfl, wk⟩ := open_string Tryf.underlying9 (hval 1 9 v1 rfl rfl) h1
  obtain ⟨s, rfl, rfl, rfl, ws⟩ := open_int Tryf.underlying3 (hval 2 3 v2 rfl rfl) h2
  obtain ⟨pao, plen, pcap, rfl⟩ := okWide_slice Tryf.underlying23 (hval 3 23 v3 rfl rfl)
  have h0k := h0
  have h3k := h3
  obtain ⟨fuel0, hf0⟩ := h0
  obtain ⟨fuel3, hf3⟩ := h3
  obtain ⟨ao, len, cap, ok, n, hM, hVv, hn, hlen⟩ := map_open key wk (by simpa [Value.cells] using hf0)
  obtain ⟨hP, hpl⟩ := src_open (by simpa [Value.cells] using hf3)
  obtain ⟨a0, s0, hv0, hc0, hs0, hz0⟩ := laid_sentinel (g := 0) hL.tail (by kernel_rfl) (by kernel_rfl) Tryf.underlying32 Tryf.row53 Tryf.underlying53 Tryf.underlying74 rfl rfl Tryf.underlying9 (by kernel_rfl) (by kernel_rfl)
  have hg0 : W.cell? ⟨0, 0, none⟩ = some (.iface 53 (.pointer (some a0))) := by simpa using World.var?_cell (g := 0) (by kernel_rfl) hv0 0
  clear hA0 hval0 hf0 hf3
  unfold maxLen at wk
  refine (law_any mo key s pao plen pcap ao len cap n ok 53 (.pointer (some a0)) W hM hVv hP hg0 (World.block_lt_of_cell? W _ hg0) wk hn hpl hlen).mono fun e W' ⟨he, hB⟩ => ?_
  subst he
  have hlt : ∀ x ∈ p0 ++ [] ++ [] ++ p3, x.block < W.heap.size := fun x hx => by simpa using hW'.lt x (by simpa using hx)
  refine ⟨_, rfl, _, _, _, [], p0 ++ ([] ++ ([] ++ p3)), [], hW', ?_, ?_, rfl, hB.frame _, fun h => by cases h⟩
  · exact trodAll_mk1 (shut_bool Tryf.underlying4 true)
  · refine trodAll_mk4 ?_ ?_ ?_ ?_
    · exact Below.trod Tryf.laidOut (by kernel_rfl) (of_decide_eq_true (by kernel_rfl)) h0k hB (fun x hx => hlt x (by simp [hx]))
    · exact shut_string Tryf.underlying9 wk
    · exact shut_int Tryf.underlying3 ws
    · exact Below.trod Tryf.laidOut (by kernel_rfl) (of_decide_eq_true (by kernel_rfl)) h3k hB (fun x hx => hlt x (by simp [hx]))

theorem fnHeaderKeeps_told : Rows.FnHeaderKeepsFieldsAcrossWritesToldSaid :=
  Claim7.holds_of_told_tied_any_at .later 3 Tryf.f3 _ [] [] _ _ _ _ _ (by kernel_rfl) rfl rfl rfl Tryf.laidOut (by kernel_rfl) rfl ⟨rfl, rfl, rfl, rfl, rfl, rfl, rfl⟩ rfl rfl (by kernel_rfl) (by kernel_rfl) Tryf.func3 (by kernel_rfl)
    (of_decide_eq_true (by kernel_rfl)) (of_decide_eq_true (by kernel_rfl)) Tryf.stopsAre.symm rfl Tryf.stopKnobsAre.symm (by kernel_rfl)
    (by kernel_rfl) (by kernel_rfl) (by kernel_rfl) (by kernel_rfl) (by kernel_rfl) (by kernel_rfl) (by kernel_rfl) (by kernel_rfl) (by kernel_rfl) rfl (by kernel_rfl) rfl rfl
    rfl rfl
    rfl (by kernel_rfl) (by kernel_rfl) (by kernel_rfl) (by decide) (by kernel_rfl) fnHeaderKeepsFieldsAcrossWrites_row_tie
    (OpenClaim.moreEntering_of (by kernel_rfl) (by kernel_rfl) (by kernel_rfl) (by kernel_rfl) (by kernel_rfl) (by kernel_rfl) (by kernel_rfl) (by kernel_rfl) (by kernel_rfl) (by kernel_rfl))
    ⟨_, WideRow.started_initial, Tryf.quiet _⟩
    (fun os started _ H enc _ => t_lifted os started H enc)

end Go.Proofs.Qxb6613742aFmt
