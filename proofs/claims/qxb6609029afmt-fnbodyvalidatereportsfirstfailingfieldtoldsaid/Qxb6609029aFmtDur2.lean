/-
  (time.Duration).String, second part: format under a second; String: some string comes back, nothing old has turned.
-/
import Derived.Test.Qxb6609029aFmtDur
import Derived.Lib.LazyBuf
import Derived.Laws.BytesArg
namespace Go.Proofs.Qxb6609029aFmt
open Go.RowKit

theorem Tryf.size5 (W : World) : (Go.sizeOf 5).run Tryf.prog W = .ok 1 W := by kernel_rfl

set_option maxHeartbeats 400000 in
theorem format_ns (b : Nat) (x : Int) (w : World) (hbuf : BufOk b w) (h1 : 1 ≤ x) (h2 : x < 1000) :
    Calls Tryf.prog 10 #[.int .i64 (-x), .pointer (some ⟨b, 0, none⟩)] w fun e w' => ∃ m : Nat, e = .returned (.int .i64 m) ∧ m ≤ 32 ∧ BufOk b w' ∧ Below b w w' ∧ w'.heap.size = w.heap.size := by
  obtain ⟨⟨y, hy⟩, hf⟩ := hbuf 31 (by omega)
  obtain ⟨⟨z, hz⟩, hg⟩ := hbuf 30 (by omega)
  have hw := neg_wrap x (by omega) (by omega)
  go_enter Tryf.func10, Tryf.ntmps10
  go_wp2_with fail
  refine (fmtFrac_any b 30 32 0 x _ ((hbuf.store _ _).store _ _) (by omega) (by omega) (by omega) (by omega)).mono ?_
  rintro e w1 ⟨m1, u1, rfl, hu0, hu1, hu2, hm1, hm1', hb1, hbel1, hs1⟩
  have hu3 : u1 < 1000 := by omega
  have HB1 : Hid (Below b w w1 ∧ w1.heap.size = w.heap.size) := ⟨(below_store (below_store (Below.refl b w))).trans hbel1, by rw [hs1]; simp⟩
  clear hu2 hbel1 hs1 hy hf hw hz hg
  have hsl := slice_to b m1 m1 rfl (by omega)
  go_wp2_with fail
  refine (fmtInt_any b m1 32 3 u1 _ hb1 (by omega) (by omega) (by omega) (by omega) (by omega) (by omega)).mono ?_
  rintro e w2 ⟨m2, rfl, hm2, hm2', hb2, hbel2, hs2⟩
  have HB2 : Hid (Below b w w2 ∧ w2.heap.size = w.heap.size) := ⟨HB1.out.1.trans hbel2, by rw [hs2, HB1.out.2]⟩
  clear hbel2 hs2 HB1 hsl
  obtain ⟨⟨y, hy⟩, hf⟩ := hb2 (m2 - 1) (by omega)
  go_wp2
  go_ret
  exact ⟨m2 - 1, by go_num, by omega, hb2.store _ _, below_store HB2.out.1, by simp [HB2.out.2]⟩

set_option maxHeartbeats 400000 in
theorem format_ms (b : Nat) (x : Int) (w : World) (hbuf : BufOk b w) (h1 : 1000000 ≤ x) (h2 : x < 1000000000) :
    Calls Tryf.prog 10 #[.int .i64 (-x), .pointer (some ⟨b, 0, none⟩)] w fun e w' => ∃ m : Nat, e = .returned (.int .i64 m) ∧ m ≤ 32 ∧ BufOk b w' ∧ Below b w w' ∧ w'.heap.size = w.heap.size := by
  obtain ⟨⟨y, hy⟩, hf⟩ := hbuf 31 (by omega)
  obtain ⟨⟨z, hz⟩, hg⟩ := hbuf 30 (by omega)
  have hw := neg_wrap x (by omega) (by omega)
  go_enter Tryf.func10, Tryf.ntmps10
  go_wp2_with fail
  refine (fmtFrac_any b 30 32 6 x _ ((hbuf.store _ _).store _ _) (by omega) (by omega) (by omega) (by omega)).mono ?_
  rintro e w1 ⟨m1, u1, rfl, hu0, hu1, hu2, hm1, hm1', hb1, hbel1, hs1⟩
  have hu3 : u1 < 1000 := by omega
  have HB1 : Hid (Below b w w1 ∧ w1.heap.size = w.heap.size) := ⟨(below_store (below_store (Below.refl b w))).trans hbel1, by rw [hs1]; simp⟩
  clear hu2 hbel1 hs1 hy hf hw hz hg
  have hsl := slice_to b m1 m1 rfl (by omega)
  go_wp2_with fail
  refine (fmtInt_any b m1 32 3 u1 _ hb1 (by omega) (by omega) (by omega) (by omega) (by omega) (by omega)).mono ?_
  rintro e w2 ⟨m2, rfl, hm2, hm2', hb2, hbel2, hs2⟩
  have HB2 : Hid (Below b w w2 ∧ w2.heap.size = w.heap.size) := ⟨HB1.out.1.trans hbel2, by rw [hs2, HB1.out.2]⟩
  clear hbel2 hs2 HB1 hsl
  obtain ⟨⟨y, hy⟩, hf⟩ := hb2 (m2 - 1) (by omega)
  go_wp2
  go_ret
  exact ⟨m2 - 1, by go_num, by omega, hb2.store _ _, below_store HB2.out.1, by simp [HB2.out.2]⟩

theorem copy_mu (b : Nat) (w : World) (hbuf : BufOk b w) : (Builtin.copy_ #[42, 9] 3 #[.slice (some ⟨b, 29, none⟩) 3 3, .string ⟨#[194, 181]⟩]).run Tryf.prog w = .ok (.int .i64 2) ((w.setCell ⟨b, 29, none⟩ (.int .u8 194)).setCell ⟨b, 30, none⟩ (.int .u8 181)) := by
  have h := run_copy_string (P := Tryf.prog) w 42 9 3 5 b 29 3 3 ⟨#[194, 181]⟩ Tryf.underlying42 Tryf.size5 (by decide)
    (fun j hj => by obtain ⟨⟨x, hx⟩, _⟩ := hbuf (29 + j) (by have : (⟨#[194, 181]⟩ : ByteArray).size = 2 := rfl; omega); rw [hx]; rfl)
    (fun j hj => (hbuf (29 + j) (by have : (⟨#[194, 181]⟩ : ByteArray).size = 2 := rfl; omega)).2)
  exact h

set_option maxHeartbeats 400000 in
theorem format_us (b : Nat) (x : Int) (w : World) (hbuf : BufOk b w) (h1 : 1000 ≤ x) (h2 : x < 1000000) :
    Calls Tryf.prog 10 #[.int .i64 (-x), .pointer (some ⟨b, 0, none⟩)] w fun e w' => ∃ m : Nat, e = .returned (.int .i64 m) ∧ m ≤ 32 ∧ BufOk b w' ∧ Below b w w' ∧ w'.heap.size = w.heap.size := by
  obtain ⟨⟨y, hy⟩, hf⟩ := hbuf 31 (by omega)
  have hcp := copy_mu b _ (hbuf.store 31 115)
  have hw := neg_wrap x (by omega) (by omega)
  go_enter Tryf.func10, Tryf.ntmps10
  go_wp2_with fail
  refine (fmtFrac_any b 29 32 3 x _ (((hbuf.store _ _).store _ _).store _ _) (by omega) (by omega) (by omega) (by omega)).mono ?_
  rintro e w1 ⟨m1, u1, rfl, hu0, hu1, hu2, hm1, hm1', hb1, hbel1, hs1⟩
  have hu3 : u1 < 1000 := by omega
  have HB1 : Hid (Below b w w1 ∧ w1.heap.size = w.heap.size) := ⟨(below_store (below_store (below_store (Below.refl b w)))).trans hbel1, by rw [hs1]; simp⟩
  clear hu2 hbel1 hs1 hy hf hw hcp
  have hsl := slice_to b m1 m1 rfl (by omega)
  go_wp2_with fail
  refine (fmtInt_any b m1 32 3 u1 _ hb1 (by omega) (by omega) (by omega) (by omega) (by omega) (by omega)).mono ?_
  rintro e w2 ⟨m2, rfl, hm2, hm2', hb2, hbel2, hs2⟩
  have HB2 : Hid (Below b w w2 ∧ w2.heap.size = w.heap.size) := ⟨HB1.out.1.trans hbel2, by rw [hs2, HB1.out.2]⟩
  clear hbel2 hs2 HB1 hsl
  obtain ⟨⟨y, hy⟩, hf⟩ := hb2 (m2 - 1) (by omega)
  go_wp2
  go_ret
  exact ⟨m2 - 1, by go_num, by omega, hb2.store _ _, below_store HB2.out.1, by simp [HB2.out.2]⟩

theorem format_any (b : Nat) (d : Int) (w : World) (hbuf : BufOk b w) (h1 : d ≤ 0) (h2 : -d - 1 ≤ 9223372036854775807) :
    Calls Tryf.prog 10 #[.int .i64 d, .pointer (some ⟨b, 0, none⟩)] w fun e w' => ∃ m : Nat, e = .returned (.int .i64 m) ∧ m ≤ 32 ∧ BufOk b w' ∧ Below b w w' ∧ w'.heap.size = w.heap.size := by
  by_cases h0 : d = 0
  · subst h0; exact format_zero b w hbuf
  · obtain ⟨x, rfl⟩ : ∃ x, d = -x := ⟨-d, by omega⟩
    have h3 : 1 ≤ x := by omega
    by_cases c1 : x < 1000
    · exact format_ns b x w hbuf h3 c1
    · by_cases c2 : x < 1000000
      · exact format_us b x w hbuf (by omega) c2
      · by_cases c3 : x < 1000000000
        · exact format_ms b x w hbuf (by omega) c3
        · exact format_big b x w hbuf (by omega) (by omega)

theorem slice_from (b m : Nat) (hm : m ≤ 32) (W : World) : (Instr.sliceAt 39 (.pointer (some ⟨b, 0, none⟩)) (some (.int .i64 m)) none none).run Tryf.prog W = .ok (.slice (some (if m = 32 then ⟨b, 0, none⟩ else ⟨b, m, none⟩)) (32 - m) (32 - m)) W := by
  rw [run_sliceAt_array_l W 39 ⟨b, 0, none⟩ Tryf.elem39 .i64 (m : Int) (by omega) (by rw [Tryf.len39]; omega)]
  by_cases e : m = 32
  · subst e; go_simp
  · have e' : ¬ 32 = m := by omega
    go_simp

theorem bytes_at {b : Nat} {W : World} (hb : BufOk b W) : ∃ f : Nat → Int, ∀ j, j < 32 → W.cell? ⟨b, j, none⟩ = some (.int .u8 (f j)) := by
  have h : ∀ j, ∃ x : Int, j < 32 → W.cell? ⟨b, j, none⟩ = some (.int .u8 x) := by
    intro j
    by_cases hj : j < 32
    · obtain ⟨x, hx⟩ := (hb j hj).1
      exact ⟨x, fun _ => hx⟩
    · exact ⟨0, fun h => absurd h hj⟩
  exact ⟨fun j => (h j).choose, fun j hj => (h j).choose_spec hj⟩

theorem to_string (b m : Nat) (hm : m ≤ 32) (W : World) (hb : BufOk b W) : ∃ s : ByteArray, (convert 42 9 (.slice (some (if m = 32 then ⟨b, 0, none⟩ else ⟨b, m, none⟩)) (32 - m) (32 - m))).run Tryf.prog W = .ok (.string s) W := by
  obtain ⟨f, hf⟩ := bytes_at hb
  by_cases e : m = 32
  · subst e
    rw [if_pos rfl]
    exact ⟨_, run_convert_bytes_arg W 42 5 Tryf.underlying42 Tryf.underlying5 b 0 _ _ [] (by rfl) (by intro i hi; omega) 9 Tryf.underlying9⟩
  · rw [if_neg e]
    exact ⟨_, run_convert_bytes_arg W 42 5 Tryf.underlying42 Tryf.underlying5 b m _ _ ((List.range (32 - m)).map fun j => f (m + j)) (by simp) (by
      intro i hi
      rw [hf (m + i) (by omega)]
      simp [List.getD, hi]) 9 Tryf.underlying9⟩

theorem zeros_ok : ∀ j, j < 32 → (#[Value.int IntKind.u8 0, Value.int IntKind.u8 0, Value.int IntKind.u8 0, Value.int IntKind.u8 0,
          Value.int IntKind.u8 0, Value.int IntKind.u8 0, Value.int IntKind.u8 0, Value.int IntKind.u8 0,
          Value.int IntKind.u8 0, Value.int IntKind.u8 0, Value.int IntKind.u8 0, Value.int IntKind.u8 0,
          Value.int IntKind.u8 0, Value.int IntKind.u8 0, Value.int IntKind.u8 0, Value.int IntKind.u8 0,
          Value.int IntKind.u8 0, Value.int IntKind.u8 0, Value.int IntKind.u8 0, Value.int IntKind.u8 0,
          Value.int IntKind.u8 0, Value.int IntKind.u8 0, Value.int IntKind.u8 0, Value.int IntKind.u8 0,
          Value.int IntKind.u8 0, Value.int IntKind.u8 0, Value.int IntKind.u8 0, Value.int IntKind.u8 0,
          Value.int IntKind.u8 0, Value.int IntKind.u8 0, Value.int IntKind.u8 0, Value.int IntKind.u8 0] : Array Value)[j]? = some (.int .u8 0)
  | 0, _ | 1, _ | 2, _ | 3, _ | 4, _ | 5, _ | 6, _ | 7, _ | 8, _ | 9, _ | 10, _ | 11, _ | 12, _ | 13, _ | 14, _ | 15, _ | 16, _ | 17, _ | 18, _ | 19, _ | 20, _ | 21, _ | 22, _ | 23, _ | 24, _ | 25, _ | 26, _ | 27, _ | 28, _ | 29, _ | 30, _ | 31, _ => rfl
  | n + 32, h => absurd h (by omega)

theorem bufOk_new (w : World) (cs : Array Value) (t : TypeId) (h : ∀ j, j < 32 → cs[j]? = some (.int .u8 0)) : BufOk w.heap.size (w.alloc (.cells cs t)) := by
  intro j hj
  have hc := World.cell?_alloc_new w cs t j
  have hf := World.frozen?_alloc_new w cs t j
  refine ⟨⟨0, ?_⟩, ?_⟩
  · exact hc.trans (h j hj)
  · exact hf

set_option maxHeartbeats 400000 in
theorem string_any (d : Int) (w : World) (h1 : d ≤ 0) (h2 : -d - 1 ≤ 9223372036854775807) :
    Calls Tryf.prog 8 #[.int .i64 d] w fun e w' => ∃ s, e = .returned (.string s) ∧ Below w.heap.size w w' := by
  go_enter Tryf.func8, Tryf.ntmps8
  go_wp2_with fail
  refine (format_any w.heap.size d _ (bufOk_new w _ 39 zeros_ok) h1 h2).mono ?_
  rintro e w1 ⟨m, rfl, hm, hb, hbel, hs⟩
  have HB : Hid (Below w.heap.size w w1) := ((Below.refl w.heap.size w).alloc (Nat.le_refl _) _).trans hbel
  have hsl := slice_from w.heap.size m hm
  obtain ⟨s, hconv⟩ := to_string w.heap.size m hm w1 hb
  clear hbel hs hb
  go_wp2
  all_goals (go_ret; first | exact ⟨s, rfl, HB.out⟩ | exact ⟨⟨s, rfl⟩, HB.out⟩)

end Go.Proofs.Qxb6609029aFmt
