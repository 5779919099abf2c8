/-
  ZZBodyValidate (4) by one contract; the law (3) out of four calls of it.
-/
import Derived.Test.Qxb6609029aFmtWalk
namespace Go.Proofs.Qxb6609029aFmt
open Go.RowKit Go.Extern.Stop Go.Stop Go.Extern

theorem Tryf.assert22 (x : Value) (w : World) : (Instr.typeAssert (.iface 22 x) 24 22 true).run Tryf.prog w = .ok (.tuple #[x, .bool true]) w := by kernel_rfl
theorem Tryf.assert22n (w : World) : (Instr.typeAssert .nilIface 24 22 true).run Tryf.prog w = .ok (.tuple #[.pointer none, .bool false]) w := by kernel_rfl
theorem fB_list : fB.toList = [98, 111, 100, 121, 46, 109, 97, 120, 95, 98, 121, 116, 101, 115] := by kernel_rfl
theorem fE_list : fE.toList = [98, 111, 100, 121, 46, 109, 97, 120, 95, 101, 120, 112, 97, 110, 115, 105, 111, 110] := by kernel_rfl
theorem fT_list : fT.toList = [98, 111, 100, 121, 46, 114, 101, 97, 100, 95, 116, 105, 109, 101, 111, 117, 116] := by kernel_rfl
attribute [local go_sem] Tryf.assert22 Tryf.assert22n fB_list fE_list fT_list

/-- Which field is refused first. -/
def fieldOf (mb me rt : Int) : Option ByteArray := if mb < 1 ∨ 1073741823 < mb then some fB else if me < 1 then some fE else if rt ≤ 0 then some fT else none

/-- What ZZBodyValidate hands back, in the world w. -/
def Out (o : Option ByteArray) (w : World) (p i : Value) : Prop :=
  match o with
  | none => p = .pointer none ∧ i = .nilIface
  | some f => ∃ k, p = .pointer (some ⟨k, 0, none⟩) ∧ i = .iface 22 (.pointer (some ⟨k, 0, none⟩)) ∧ k < w.heap.size ∧ w.cell? ⟨k, 0, none⟩ = some (.string f)

theorem Out.later {o : Option ByteArray} {w w' : World} {p i : Value} (h : Out o w p i) (hb : Below w.heap.size w w') : Out o w' p i := by
  cases o with
  | none => exact h
  | some f =>
    obtain ⟨k, hp, hi, hk, hc⟩ := h
    exact ⟨k, hp, hi, Nat.lt_of_lt_of_le hk hb.size, by rw [hb.cell (p := ⟨k, 0, none⟩) hk]; exact hc⟩

set_option maxHeartbeats 400000 in
theorem bv_any (F : Interp) (mb me rt : Int) (w : World) (hF : F.answers w.tape) (hmin : -rt - 1 ≤ 9223372036854775807) :
    Calls Tryf.prog 4 #[.int .i64 mb, .int .i64 me, .int .i64 rt] w fun e w' => ∃ p i, e = .returned (.tuple #[p, i]) ∧ Out (fieldOf mb me rt) w' p i ∧ Below w.heap.size w w' := by
  have hF1 : F.answers (w.alloc (.cells #[.int .i64 mb, .int .i64 me, .int .i64 rt] 35)).tape := hF
  have c0 : (w.alloc (.cells #[.int .i64 mb, .int .i64 me, .int .i64 rt] 35)).cell? ⟨w.heap.size, 0, none⟩ = some (.int .i64 mb) := by go_simp
  have c1 : (w.alloc (.cells #[.int .i64 mb, .int .i64 me, .int .i64 rt] 35)).cell? ⟨w.heap.size, 1, none⟩ = some (.int .i64 me) := by go_simp
  have c2 : (w.alloc (.cells #[.int .i64 mb, .int .i64 me, .int .i64 rt] 35)).cell? ⟨w.heap.size, 2, none⟩ = some (.int .i64 rt) := by go_simp
  have hbel0 : Below w.heap.size w (w.alloc (.cells #[.int .i64 mb, .int .i64 me, .int .i64 rt] 35)) := (Below.refl w.heap.size w).alloc (Nat.le_refl _) _
  have core : Calls Tryf.prog 6 #[.pointer (some ⟨w.heap.size, 0, none⟩)] (w.alloc (.cells #[.int .i64 mb, .int .i64 me, .int .i64 rt] 35)) fun e w' =>
      (fieldOf mb me rt = none ∧ e = .returned .nilIface ∧ Below w.heap.size w w') ∨
      (∃ f k, fieldOf mb me rt = some f ∧ e = .returned (.iface 22 (.pointer (some ⟨k, 0, none⟩))) ∧ k < w'.heap.size ∧ w'.cell? ⟨k, 0, none⟩ = some (.string f) ∧ Below w.heap.size w w') := by
    by_cases hB : mb < 1 ∨ 1073741823 < mb
    · refine (validate_b F _ mb _ hF1 c0 hB).mono ?_
      rintro e w' ⟨k, rfl, hk, hc, hb⟩
      exact Or.inr ⟨fB, k, by simp [fieldOf, hB], rfl, hk, hc, hbel0.trans (hb.mono (by simp))⟩
    · by_cases hE : me < 1
      · refine (validate_e F _ mb me _ hF1 c0 c1 (by omega) (by omega) hE).mono ?_
        rintro e w' ⟨k, rfl, hk, hc, hb⟩
        exact Or.inr ⟨fE, k, by simp [fieldOf, hB, hE], rfl, hk, hc, hbel0.trans (hb.mono (by simp))⟩
      · by_cases hT : rt ≤ 0
        · refine (validate_t F _ mb me rt _ hF1 c0 c1 c2 (by omega) (by omega) (by omega) hT hmin).mono ?_
          rintro e w' ⟨k, rfl, hk, hc, hb⟩
          exact Or.inr ⟨fT, k, by simp [fieldOf, hB, hE, hT], rfl, hk, hc, hbel0.trans (hb.mono (by simp))⟩
        · refine (validate_ok _ mb me rt _ c0 c1 c2 (by omega) (by omega) (by omega) (by omega)).mono ?_
          rintro e w' ⟨rfl, rfl⟩
          exact Or.inl ⟨by simp [fieldOf, hB, hE, hT], rfl, hbel0⟩
  clear c0 c1 c2 hF1 hF hbel0 hmin
  have HC := core
  clear core
  go_enter Tryf.func4, Tryf.ntmps4
  go_wp2_with fail
  refine HC.mono ?_
  clear HC
  rintro e w' (⟨hf, rfl, hb⟩ | ⟨f, k, hf, rfl, hk, hc, hb⟩)
  · have HF : Hid (fieldOf mb me rt = none) := hf
    clear hf
    go_wp2
    go_ret2
    exact ⟨_, _, rfl, by rw [HF.out]; exact ⟨rfl, rfl⟩, hb⟩
  · have HF : Hid (fieldOf mb me rt = some f) := hf
    clear hf
    go_wp2
    go_ret2
    exact ⟨_, _, rfl, by rw [HF.out]; exact ⟨k, rfl, rfl, hk, hc⟩, hb⟩

set_option maxHeartbeats 1000000 in
theorem law_any (F : Interp) (mb me rt : Int) (w : World) (hF : F.answers w.tape) (hmin : -rt - 1 ≤ 9223372036854775807) :
    Calls Tryf.prog 3 #[.int .i64 mb, .int .i64 me, .int .i64 rt] w fun e w' => e = .returned (.bool true) ∧ Below w.heap.size w w' := by
  go_enter Tryf.func3, Tryf.ntmps3
  go_wp2_with fail
  refine (bv_any F mb me rt _ hF hmin).mono ?_
  rintro e w1 ⟨pA, iA, rfl, oA, hb1⟩
  have hF1 : F.answers w1.tape := by rw [hb1.tape]; exact hF
  go_wp2_with fail
  refine (bv_any F mb 1 1 _ hF1 (by omega)).mono ?_
  rintro e w2 ⟨pB, iB, rfl, oB, hb2⟩
  have hF2 : F.answers w2.tape := by rw [hb2.tape]; exact hF1
  go_wp2_with fail
  refine (bv_any F 1 me 1 _ hF2 (by omega)).mono ?_
  rintro e w3 ⟨pE, iE, rfl, oE, hb3⟩
  have hF3 : F.answers w3.tape := by rw [hb3.tape]; exact hF2
  go_wp2_with fail
  refine (bv_any F 1 1 rt _ hF3 hmin).mono ?_
  rintro e w4 ⟨pT, iT, rfl, oT, hb4⟩
  have oA' := ((oA.later hb2).later hb3).later hb4
  have oB' := (oB.later hb3).later hb4
  have oE' := oE.later hb4
  have HB : Hid (Below w.heap.size w w4) := ((hb1.trans (hb2.mono hb1.size)).trans (hb3.mono (Nat.le_trans hb1.size hb2.size))).trans (hb4.mono (Nat.le_trans (Nat.le_trans hb1.size hb2.size) hb3.size))
  clear oA oB oE hb1 hb2 hb3 hb4 hF hF1 hF2 hF3 hmin
  rcases (show (mb < 1) ∨ (1073741823 < mb) ∨ (1 ≤ mb ∧ mb ≤ 1073741823) by omega) with hB | hB | ⟨hB0, hB1⟩
  · by_cases hE : me < 1
    · by_cases hT : rt ≤ 0
      · have eB : fieldOf mb 1 1 = some fB := by unfold fieldOf; rw [if_pos (by omega)]
        have eE : fieldOf 1 me 1 = some fE := by unfold fieldOf; rw [if_neg (by omega), if_pos (by omega)]
        have eT : fieldOf 1 1 rt = some fT := by unfold fieldOf; rw [if_neg (by omega), if_neg (by omega), if_pos (by omega)]
        have eA : fieldOf mb me rt = some fB := by unfold fieldOf; rw [if_pos (by omega)]
        rw [eA] at oA'; rw [eB] at oB'; rw [eE] at oE'; rw [eT] at oT; clear eA eB eE eT
        obtain ⟨kA, rfl, rfl, -, hcA⟩ := oA'
        obtain ⟨kB, rfl, rfl, -, hcB⟩ := oB'
        obtain ⟨kE, rfl, rfl, -, hcE⟩ := oE'
        obtain ⟨kT, rfl, rfl, -, hcT⟩ := oT
        go_wp2
        go_ret
        exact ⟨rfl, HB.out⟩
      · have eB : fieldOf mb 1 1 = some fB := by unfold fieldOf; rw [if_pos (by omega)]
        have eE : fieldOf 1 me 1 = some fE := by unfold fieldOf; rw [if_neg (by omega), if_pos (by omega)]
        have eT : fieldOf 1 1 rt = none := by unfold fieldOf; rw [if_neg (by omega), if_neg (by omega), if_neg (by omega)]
        have eA : fieldOf mb me rt = some fB := by unfold fieldOf; rw [if_pos (by omega)]
        rw [eA] at oA'; rw [eB] at oB'; rw [eE] at oE'; rw [eT] at oT; clear eA eB eE eT
        obtain ⟨kA, rfl, rfl, -, hcA⟩ := oA'
        obtain ⟨kB, rfl, rfl, -, hcB⟩ := oB'
        obtain ⟨kE, rfl, rfl, -, hcE⟩ := oE'
        obtain ⟨rfl, rfl⟩ := oT
        go_wp2
        go_ret
        exact ⟨rfl, HB.out⟩
    · by_cases hT : rt ≤ 0
      · have eB : fieldOf mb 1 1 = some fB := by unfold fieldOf; rw [if_pos (by omega)]
        have eE : fieldOf 1 me 1 = none := by unfold fieldOf; rw [if_neg (by omega), if_neg (by omega), if_neg (by omega)]
        have eT : fieldOf 1 1 rt = some fT := by unfold fieldOf; rw [if_neg (by omega), if_neg (by omega), if_pos (by omega)]
        have eA : fieldOf mb me rt = some fB := by unfold fieldOf; rw [if_pos (by omega)]
        rw [eA] at oA'; rw [eB] at oB'; rw [eE] at oE'; rw [eT] at oT; clear eA eB eE eT
        obtain ⟨kA, rfl, rfl, -, hcA⟩ := oA'
        obtain ⟨kB, rfl, rfl, -, hcB⟩ := oB'
        obtain ⟨rfl, rfl⟩ := oE'
        obtain ⟨kT, rfl, rfl, -, hcT⟩ := oT
        go_wp2
        go_ret
        exact ⟨rfl, HB.out⟩
      · have eB : fieldOf mb 1 1 = some fB := by unfold fieldOf; rw [if_pos (by omega)]
        have eE : fieldOf 1 me 1 = none := by unfold fieldOf; rw [if_neg (by omega), if_neg (by omega), if_neg (by omega)]
        have eT : fieldOf 1 1 rt = none := by unfold fieldOf; rw [if_neg (by omega), if_neg (by omega), if_neg (by omega)]
        have eA : fieldOf mb me rt = some fB := by unfold fieldOf; rw [if_pos (by omega)]
        rw [eA] at oA'; rw [eB] at oB'; rw [eE] at oE'; rw [eT] at oT; clear eA eB eE eT
        obtain ⟨kA, rfl, rfl, -, hcA⟩ := oA'
        obtain ⟨kB, rfl, rfl, -, hcB⟩ := oB'
        obtain ⟨rfl, rfl⟩ := oE'
        obtain ⟨rfl, rfl⟩ := oT
        go_wp2
        go_ret
        exact ⟨rfl, HB.out⟩
  · by_cases hE : me < 1
    · by_cases hT : rt ≤ 0
      · have eB : fieldOf mb 1 1 = some fB := by unfold fieldOf; rw [if_pos (by omega)]
        have eE : fieldOf 1 me 1 = some fE := by unfold fieldOf; rw [if_neg (by omega), if_pos (by omega)]
        have eT : fieldOf 1 1 rt = some fT := by unfold fieldOf; rw [if_neg (by omega), if_neg (by omega), if_pos (by omega)]
        have eA : fieldOf mb me rt = some fB := by unfold fieldOf; rw [if_pos (by omega)]
        rw [eA] at oA'; rw [eB] at oB'; rw [eE] at oE'; rw [eT] at oT; clear eA eB eE eT
        obtain ⟨kA, rfl, rfl, -, hcA⟩ := oA'
        obtain ⟨kB, rfl, rfl, -, hcB⟩ := oB'
        obtain ⟨kE, rfl, rfl, -, hcE⟩ := oE'
        obtain ⟨kT, rfl, rfl, -, hcT⟩ := oT
        go_wp2
        go_ret
        exact ⟨rfl, HB.out⟩
      · have eB : fieldOf mb 1 1 = some fB := by unfold fieldOf; rw [if_pos (by omega)]
        have eE : fieldOf 1 me 1 = some fE := by unfold fieldOf; rw [if_neg (by omega), if_pos (by omega)]
        have eT : fieldOf 1 1 rt = none := by unfold fieldOf; rw [if_neg (by omega), if_neg (by omega), if_neg (by omega)]
        have eA : fieldOf mb me rt = some fB := by unfold fieldOf; rw [if_pos (by omega)]
        rw [eA] at oA'; rw [eB] at oB'; rw [eE] at oE'; rw [eT] at oT; clear eA eB eE eT
        obtain ⟨kA, rfl, rfl, -, hcA⟩ := oA'
        obtain ⟨kB, rfl, rfl, -, hcB⟩ := oB'
        obtain ⟨kE, rfl, rfl, -, hcE⟩ := oE'
        obtain ⟨rfl, rfl⟩ := oT
        go_wp2
        go_ret
        exact ⟨rfl, HB.out⟩
    · by_cases hT : rt ≤ 0
      · have eB : fieldOf mb 1 1 = some fB := by unfold fieldOf; rw [if_pos (by omega)]
        have eE : fieldOf 1 me 1 = none := by unfold fieldOf; rw [if_neg (by omega), if_neg (by omega), if_neg (by omega)]
        have eT : fieldOf 1 1 rt = some fT := by unfold fieldOf; rw [if_neg (by omega), if_neg (by omega), if_pos (by omega)]
        have eA : fieldOf mb me rt = some fB := by unfold fieldOf; rw [if_pos (by omega)]
        rw [eA] at oA'; rw [eB] at oB'; rw [eE] at oE'; rw [eT] at oT; clear eA eB eE eT
        obtain ⟨kA, rfl, rfl, -, hcA⟩ := oA'
        obtain ⟨kB, rfl, rfl, -, hcB⟩ := oB'
        obtain ⟨rfl, rfl⟩ := oE'
        obtain ⟨kT, rfl, rfl, -, hcT⟩ := oT
        go_wp2
        go_ret
        exact ⟨rfl, HB.out⟩
      · have eB : fieldOf mb 1 1 = some fB := by unfold fieldOf; rw [if_pos (by omega)]
        have eE : fieldOf 1 me 1 = none := by unfold fieldOf; rw [if_neg (by omega), if_neg (by omega), if_neg (by omega)]
        have eT : fieldOf 1 1 rt = none := by unfold fieldOf; rw [if_neg (by omega), if_neg (by omega), if_neg (by omega)]
        have eA : fieldOf mb me rt = some fB := by unfold fieldOf; rw [if_pos (by omega)]
        rw [eA] at oA'; rw [eB] at oB'; rw [eE] at oE'; rw [eT] at oT; clear eA eB eE eT
        obtain ⟨kA, rfl, rfl, -, hcA⟩ := oA'
        obtain ⟨kB, rfl, rfl, -, hcB⟩ := oB'
        obtain ⟨rfl, rfl⟩ := oE'
        obtain ⟨rfl, rfl⟩ := oT
        go_wp2
        go_ret
        exact ⟨rfl, HB.out⟩
  · by_cases hE : me < 1
    · by_cases hT : rt ≤ 0
      · have eB : fieldOf mb 1 1 = none := by unfold fieldOf; rw [if_neg (by omega), if_neg (by omega), if_neg (by omega)]
        have eE : fieldOf 1 me 1 = some fE := by unfold fieldOf; rw [if_neg (by omega), if_pos (by omega)]
        have eT : fieldOf 1 1 rt = some fT := by unfold fieldOf; rw [if_neg (by omega), if_neg (by omega), if_pos (by omega)]
        have eA : fieldOf mb me rt = some fE := by unfold fieldOf; rw [if_neg (by omega), if_pos (by omega)]
        rw [eA] at oA'; rw [eB] at oB'; rw [eE] at oE'; rw [eT] at oT; clear eA eB eE eT
        obtain ⟨kA, rfl, rfl, -, hcA⟩ := oA'
        obtain ⟨rfl, rfl⟩ := oB'
        obtain ⟨kE, rfl, rfl, -, hcE⟩ := oE'
        obtain ⟨kT, rfl, rfl, -, hcT⟩ := oT
        go_wp2
        go_ret
        exact ⟨rfl, HB.out⟩
      · have eB : fieldOf mb 1 1 = none := by unfold fieldOf; rw [if_neg (by omega), if_neg (by omega), if_neg (by omega)]
        have eE : fieldOf 1 me 1 = some fE := by unfold fieldOf; rw [if_neg (by omega), if_pos (by omega)]
        have eT : fieldOf 1 1 rt = none := by unfold fieldOf; rw [if_neg (by omega), if_neg (by omega), if_neg (by omega)]
        have eA : fieldOf mb me rt = some fE := by unfold fieldOf; rw [if_neg (by omega), if_pos (by omega)]
        rw [eA] at oA'; rw [eB] at oB'; rw [eE] at oE'; rw [eT] at oT; clear eA eB eE eT
        obtain ⟨kA, rfl, rfl, -, hcA⟩ := oA'
        obtain ⟨rfl, rfl⟩ := oB'
        obtain ⟨kE, rfl, rfl, -, hcE⟩ := oE'
        obtain ⟨rfl, rfl⟩ := oT
        go_wp2
        go_ret
        exact ⟨rfl, HB.out⟩
    · by_cases hT : rt ≤ 0
      · have eB : fieldOf mb 1 1 = none := by unfold fieldOf; rw [if_neg (by omega), if_neg (by omega), if_neg (by omega)]
        have eE : fieldOf 1 me 1 = none := by unfold fieldOf; rw [if_neg (by omega), if_neg (by omega), if_neg (by omega)]
        have eT : fieldOf 1 1 rt = some fT := by unfold fieldOf; rw [if_neg (by omega), if_neg (by omega), if_pos (by omega)]
        have eA : fieldOf mb me rt = some fT := by unfold fieldOf; rw [if_neg (by omega), if_neg (by omega), if_pos (by omega)]
        rw [eA] at oA'; rw [eB] at oB'; rw [eE] at oE'; rw [eT] at oT; clear eA eB eE eT
        obtain ⟨kA, rfl, rfl, -, hcA⟩ := oA'
        obtain ⟨rfl, rfl⟩ := oB'
        obtain ⟨rfl, rfl⟩ := oE'
        obtain ⟨kT, rfl, rfl, -, hcT⟩ := oT
        go_wp2
        go_ret
        exact ⟨rfl, HB.out⟩
      · have eB : fieldOf mb 1 1 = none := by unfold fieldOf; rw [if_neg (by omega), if_neg (by omega), if_neg (by omega)]
        have eE : fieldOf 1 me 1 = none := by unfold fieldOf; rw [if_neg (by omega), if_neg (by omega), if_neg (by omega)]
        have eT : fieldOf 1 1 rt = none := by unfold fieldOf; rw [if_neg (by omega), if_neg (by omega), if_neg (by omega)]
        have eA : fieldOf mb me rt = none := by unfold fieldOf; rw [if_neg (by omega), if_neg (by omega), if_neg (by omega)]
        rw [eA] at oA'; rw [eB] at oB'; rw [eE] at oE'; rw [eT] at oT; clear eA eB eE eT
        obtain ⟨rfl, rfl⟩ := oA'
        obtain ⟨rfl, rfl⟩ := oB'
        obtain ⟨rfl, rfl⟩ := oE'
        obtain ⟨rfl, rfl⟩ := oT
        go_wp2
        go_ret
        exact ⟨rfl, HB.out⟩

end Go.Proofs.Qxb6609029aFmt
