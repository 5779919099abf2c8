/-
  The walks of seat b6609029aF: (*Body).validate (6), ZZBodyValidate (4), and the law (3).
-/
import Derived.Test.Qxb6609029aFmtDur2
import Derived.Stop.Walk2
namespace Go.Proofs.Qxb6609029aFmt
open Go.RowKit Go.Extern.Stop Go.Stop Go.Extern
attribute [local go_sem] Tryf.call7 Tryf.guard Tryf.fmtA2 Tryf.fmtB1 Tryf.fmtC1 Tryf.act32_100 Tryf.op32_100 Tryf.act3_100 Tryf.op3_100 Tryf.act33_115 Tryf.isString33 Tryf.str33

def fB : ByteArray := ⟨#[98, 111, 100, 121, 46, 109, 97, 120, 95, 98, 121, 116, 101, 115]⟩
def fE : ByteArray := ⟨#[98, 111, 100, 121, 46, 109, 97, 120, 95, 101, 120, 112, 97, 110, 115, 105, 111, 110]⟩
def fT : ByteArray := ⟨#[98, 111, 100, 121, 46, 114, 101, 97, 100, 95, 116, 105, 109, 101, 111, 117, 116]⟩

set_option maxHeartbeats 400000 in
theorem validate_ok (b : Nat) (mb me rt : Int) (w : World) (h0 : w.cell? ⟨b, 0, none⟩ = some (.int .i64 mb)) (h1 : w.cell? ⟨b, 1, none⟩ = some (.int .i64 me)) (h2 : w.cell? ⟨b, 2, none⟩ = some (.int .i64 rt))
    (hb0 : 1 ≤ mb) (hb1 : mb ≤ 1073741823) (he : 1 ≤ me) (ht : 0 < rt) :
    Calls Tryf.prog 6 #[.pointer (some ⟨b, 0, none⟩)] w fun e w' => e = .returned .nilIface ∧ w' = w := by
  go_enter Tryf.func6, Tryf.ntmps6
  go_wp2
  go_ret
  exact ⟨rfl, rfl⟩

set_option maxHeartbeats 800000 in
theorem validate_b (F : Interp) (b : Nat) (mb : Int) (w : World) (hF : F.answers w.tape) (h0 : w.cell? ⟨b, 0, none⟩ = some (.int .i64 mb)) (hbad : mb < 1 ∨ 1073741823 < mb) :
    Calls Tryf.prog 6 #[.pointer (some ⟨b, 0, none⟩)] w fun e w' => ∃ k, e = .returned (.iface 22 (.pointer (some ⟨k, 0, none⟩))) ∧ k < w'.heap.size ∧ w'.cell? ⟨k, 0, none⟩ = some (.string fB) ∧ Below w.heap.size w w' := by
  have hF' := answers_open hF
  rcases hbad with hbad | hbad
  all_goals
    go_enter Tryf.func6, Tryf.ntmps6
    go_wp2
    apply rows_value Tryf.nextTurns
    case hr => go_simp; exact ⟨rfl, rfl⟩
    case h =>
      go_wp2
      go_ret
      exact ⟨w.heap.size + 1, rfl, by simp, by go_simp; rfl, (((Below.refl w.heap.size w).alloc (Nat.le_refl _) _).alloc (by simp) _).drew⟩

set_option maxHeartbeats 800000 in
theorem validate_e (F : Interp) (b : Nat) (mb me : Int) (w : World) (hF : F.answers w.tape) (h0 : w.cell? ⟨b, 0, none⟩ = some (.int .i64 mb)) (h1 : w.cell? ⟨b, 1, none⟩ = some (.int .i64 me)) (hb0 : 1 ≤ mb) (hb1 : mb ≤ 1073741823) (hbad : me < 1) :
    Calls Tryf.prog 6 #[.pointer (some ⟨b, 0, none⟩)] w fun e w' => ∃ k, e = .returned (.iface 22 (.pointer (some ⟨k, 0, none⟩))) ∧ k < w'.heap.size ∧ w'.cell? ⟨k, 0, none⟩ = some (.string fE) ∧ Below w.heap.size w w' := by
  have hF' := answers_open hF
  go_enter Tryf.func6, Tryf.ntmps6
  go_wp2
  apply rows_value Tryf.nextTurns
  case hr => go_simp; exact ⟨rfl, rfl⟩
  case h =>
    go_wp2
    go_ret
    exact ⟨w.heap.size + 1, rfl, by simp, by go_simp; rfl, (((Below.refl w.heap.size w).alloc (Nat.le_refl _) _).alloc (by simp) _).drew⟩

set_option maxHeartbeats 800000 in
theorem validate_t (F : Interp) (b : Nat) (mb me rt : Int) (w : World) (hF : F.answers w.tape) (h0 : w.cell? ⟨b, 0, none⟩ = some (.int .i64 mb)) (h1 : w.cell? ⟨b, 1, none⟩ = some (.int .i64 me)) (h2 : w.cell? ⟨b, 2, none⟩ = some (.int .i64 rt)) (hb0 : 1 ≤ mb) (hb1 : mb ≤ 1073741823) (he : 1 ≤ me) (hbad : rt ≤ 0) (hmin : -rt - 1 ≤ 9223372036854775807) :
    Calls Tryf.prog 6 #[.pointer (some ⟨b, 0, none⟩)] w fun e w' => ∃ k, e = .returned (.iface 22 (.pointer (some ⟨k, 0, none⟩))) ∧ k < w'.heap.size ∧ w'.cell? ⟨k, 0, none⟩ = some (.string fT) ∧ Below w.heap.size w w' := by
  have hF' := answers_open hF
  go_enter Tryf.func6, Tryf.ntmps6
  go_wp2
  apply rows_call Tryf.nextTurns
  case hr => go_simp; exact ⟨⟨rfl, rfl, rfl⟩, rfl⟩
  case hi => exact Tryf.invokeString33 _ _
  case hc =>
    refine (string_any rt _ hbad hmin).mono ?_
    rintro e w3 ⟨s, rfl, hx⟩
    have hF3 := answers_open (show F.answers w3.tape by rw [hx.tape]; exact hF)
    have hc3 : w3.cell? ⟨w.heap.size, 0, none⟩ = some (.iface 33 (.int .i64 rt)) := by rw [hx.cell (by simp)]; go_simp
    have HX : Hid (Below w.heap.size w w3) := ((Below.refl w.heap.size w).alloc (Nat.le_refl _) _).trans (hx.mono (by simp))
    clear hx
    apply rows_value Tryf.nextReturned
    case hr => go_simp; exact ⟨rfl, rfl⟩
    case h =>
      go_wp2
      go_ret
      exact ⟨w3.heap.size, rfl, by simp, by go_simp; rfl, ((HX.out.alloc HX.out.size _)).drew⟩

end Go.Proofs.Qxb6609029aFmt
