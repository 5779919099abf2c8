/-
  lastMissingCut (9): it finds the least and the ties that missingCents has found.
-/
import Derived.Test.Qxb6614430aFmtCopy
import Derived.Deep.QuietTactic
import Derived.BigQuiet
namespace Go.Proofs.Qxb6614430aFmt
open Go.RowKit

/-- How many are cut at least c. -/
def atl (A S c : Int) (l : List Int) : Int := (l.countP fun x => decide (c ≤ rem A S x) : Nat)
theorem atl_bd (A S c : Int) (l : List Int) : 0 ≤ atl A S c l ∧ atl A S c l ≤ l.length := by
  unfold atl
  have := List.countP_le_length (p := fun x => decide (c ≤ rem A S x)) (l := l)
  omega
theorem atl_snoc (A S c : Int) (l : List Int) (x : Int) : atl A S c (l ++ [x]) = atl A S c l + (if c ≤ rem A S x then 1 else 0) := by
  unfold atl
  rw [List.countP_append, List.countP_singleton]
  by_cases h : c ≤ rem A S x <;> simp [h]
theorem atl_ge (A S c : Int) (l : List Int) : atl A S c l = ge A S l 0 c := by rw [ge_zero_exp]; rfl

theorem ge_anti (A S : Int) (zs : List Int) (u v : Int) (h : u ≤ v) : ge A S zs 0 v ≤ ge A S zs 0 u := by
  rw [ge_zero_exp, ge_zero_exp]
  have : zs.countP (fun x => decide (v ≤ rem A S x)) ≤ zs.countP (fun x => decide (u ≤ rem A S x)) := by
    apply List.countP_mono_left
    intro x _ hx
    simp only [decide_eq_true_eq] at hx ⊢
    omega
  omega

/-- Only one cut is that of the last missing cent. -/
theorem only_one {A S : Int} {zs : List Int} {M c d : Int} (hc1 : more A S c zs < M) (hc2 : M ≤ atl A S c zs) (hd1 : more A S d zs < M) (hd2 : M ≤ atl A S d zs) : c = d := by
  rw [more_ge] at hc1 hd1
  rw [atl_ge] at hc2 hd2
  rcases (show c = d ∨ c < d ∨ d < c by omega) with h | h | h
  · exact h
  · have := ge_anti A S zs (c + 1) d (by omega)
    omega
  · have := ge_anti A S zs (d + 1) c (by omega)
    omega

/-- The j-th cut; the first k cuts are laid. -/
def cutTo (A S : Int) (zs : List Int) (k j : Nat) : Int := if j < k then rem A S (zs.getD j 0) else 0

/-- What stands through the loops. -/
structure Hold (w : World) (pb : Nat) (ao : Option Addr) (zs : List Int) (p : Nat → Int) (W : World) : Prop where
  sh : SharesIn W pb ao zs
  row : RowAt pb zs.length p W
  bel : Below w.heap.size w W
  lo : w.heap.size ≤ pb

theorem Hold.drewN {w : World} {pb : Nat} {ao : Option Addr} {zs : List Int} {p : Nat → Int} {W : World} (h : Hold w pb ao zs p W) (n : Nat) : Hold w pb ao zs p (W.drewN n) := ⟨h.sh, h.row, ⟨h.bel.os, h.bel.tape, h.bel.output, h.bel.size, h.bel.block⟩, h.lo⟩

theorem Hold.put {w : World} {pb : Nat} {ao : Option Addr} {zs : List Int} {W : World} {A S : Int} {k : Nat} (h : Hold w pb ao zs (cutTo A S zs k) W) (v : Int) (hv : rem A S (zs.getD k 0) = v) :
    Hold w pb ao zs (cutTo A S zs (k + 1)) (W.setCell ⟨pb, k, none⟩ (.int .u64 v)) := by
  refine ⟨?_, h.row.put k v (by simp [cutTo]; exact hv) (fun j hj => ?_), Below.setCell (p := ⟨pb, k, none⟩) h.bel h.lo _, h.lo⟩
  · intro i x hx
    obtain ⟨sb, so, e, hlt, hc, r⟩ := h.sh i x hx
    exact ⟨sb, so, e, hlt, by rw [set_far (by show pb ≠ sb; omega)]; exact hc, r⟩
  · simp only [cutTo]
    by_cases h1 : j < k
    · rw [if_pos (by omega), if_pos h1]
    · rw [if_neg (by omega), if_neg h1]

set_option maxRecDepth 4000 in
set_option maxHeartbeats 4000000 in
theorem last_any (ao : Option Addr) (cap : Nat) (zs : List Int) (S A least ties : Int) (w : World) (hl : zs.length ≤ 4096) (hsh : SharesIn w w.heap.size ao zs) (hg : Good zs S) (hA0 : 0 ≤ A) (hA1 : A ≤ 9223372036854775807) (hAS : A < S) (hR : Rat A S zs least ties) :
    Calls Tryf.prog 9 #[.slice ao zs.length cap, .int .u64 A, .int .u64 S] w fun e w' => e = .returned (.tuple #[.int .u64 least, .int .u64 ties]) ∧ Below w.heap.size w w' := by
  obtain ⟨i1, hj, hy0, hy1, hy2⟩ := info_parts Tryf.info29
  have HG : Hid (Good zs S) := hg
  have hS1 : S ≤ 18446744073709551615 := hg.2.2.2.2.2.2
  have HR : Hid (Rat A S zs least ties) := hR
  obtain ⟨M, hM⟩ : ∃ M, M = A - partSum A S zs := ⟨_, rfl⟩
  have hmb := missing_bd A S zs (by omega) hg.2.2.2.1
  have HM : Hid (M = A - partSum A S zs) := hM
  have hM0 : 0 ≤ M := by omega
  have hM1 : M ≤ 4096 := by omega
  have hlen : zs.length ≤ 1048576 := by omega
  have HS : Hid (SharesIn w w.heap.size ao zs) := hsh
  clear hsh hg hR hM
  go_enter Tryf.func9, Tryf.ntmps9
  go_wp2_with (first | (at_make; refine wpList_make_full _ rfl _ _ 36 rfl w.heap.size 29 i1 _ 1 Tryf.underlying36 hj hy0 hy1 .i64 .i64 _ _ zs.length rfl rfl rfl rfl (by rw [hy2]; omega) (by unfold maxLen; omega) (Nat.le_refl _) ?_; intro w5 hown hgrow))
  have hB5 : Below w.heap.size w w5 := (Below.refl _ _).grown hgrow (Nat.le_refl _) (fun k hk => by cases hk)
  have HK0 : Hold w w.heap.size ao zs (cutTo A S zs 0) w5 := ⟨HS.later hB5, row_new hown, hB5, Nat.le_refl _⟩
  clear hown hgrow hB5 HS hj hy0 hy1 hy2
  generalize hpb : w.heap.size = pb at HK0 ⊢
  go_loopw [11, 10] (fun j t wr => ∃ k : Nat, j = .int .i64 k ∧ k ≤ zs.length ∧ t = .int .u64 (partSum A S (zs.take k)) ∧ Hold w pb ao zs (cutTo A S zs k) wr) (fun j _ _ => zs.length - (intOf j).toNat)
  case atStart => exact ⟨0, rfl, by omega, rfl, HK0⟩
  case round =>
    obtain ⟨k, rfl, hk, rfl, HK⟩ := hrel
    clear HK0
    by_cases hlt : k < zs.length
    · have hx := List.getElem?_eq_getElem hlt
      have hmem : zs[k] ∈ zs := List.getElem_mem hlt
      obtain ⟨x, hxe⟩ : ∃ x, x = zs[k] := ⟨_, rfl⟩
      rw [← hxe] at hx hmem
      obtain ⟨sb, so, rfl, -, hc, -, hx1⟩ := HK.sh k x hx
      obtain ⟨hx0, hxS⟩ := HG.2.2.2.2.1 x hmem
      have hcell := (HK.row k hlt).1
      have hfz := (HK.row k hlt).2
      obtain ⟨c0, hc0⟩ : ∃ c0, c0 = cutTo A S zs k k := ⟨_, rfl⟩
      rw [← hc0] at hcell
      have hts : partSum A S (zs.take (k + 1)) = partSum A S (zs.take k) + x * A / S := by rw [take_snoc zs k hlt, partSum_snoc, hxe]
      have htl := partSum_take_le A S zs hA0 (by omega) (fun x hx => (HG.2.2.2.2.1 x hx).1) (k + 1)
      have ht0 := partSum_nonneg A S (zs.take k) (fun y hy => Int.ediv_nonneg (Int.mul_nonneg (HG.2.2.2.2.1 y (List.mem_of_mem_take hy)).1 hA0) (by omega))
      have hq : x * A < S * 18446744073709551616 := by
        have h1 : x * A ≤ S * A := Int.mul_le_mul_of_nonneg_right hxS hA0
        have h2 : S * A < S * 18446744073709551616 := Int.mul_lt_mul_of_pos_left (by omega) (by omega)
        omega
      have HL := long_any x A S wr hx0 (by omega) hA0 (by omega) (by omega) hS1 hq
      obtain ⟨q, hqe⟩ : ∃ q, q = x * A / S := ⟨_, rfl⟩
      obtain ⟨r, hre⟩ : ∃ r, r = x * A % S := ⟨_, rfl⟩
      have hq0 : 0 ≤ q := by rw [hqe]; exact Int.ediv_nonneg (Int.mul_nonneg hx0 hA0) (by omega)
      have hrr : rem A S (zs.getD k 0) = r := by rw [hre]; simp [List.getD, hx, rem]
      rw [← hqe, ← hre] at HL
      rw [← hqe] at hts
      obtain ⟨t, ht⟩ : ∃ t, t = partSum A S (zs.take k) := ⟨_, rfl⟩
      rw [← ht] at hts ht0 ⊢
      have hwt : IntKind.u64.wrap (t + q) = t + q := by rw [IntKind.wrap_u64]; omega
      have HH : Hid (Hold w pb (some ⟨sb, so, none⟩) zs (cutTo A S zs k) wr ∧ rem A S (zs.getD k 0) = r ∧ partSum A S (zs.take (k + 1)) = t + q) := ⟨HK, hrr, hts⟩
      clear HK hts ht hre hqe hrr hc0 hxe hx hmem hq htl
      go_wp2_with (first | (go_at_call 11; refine HL.mono ?_; clear HL; rintro e w6 ⟨rfl, hw6⟩; obtain rfl := hw6.symm))
      go_roundw
      case rel => exact ⟨k + 1, by go_num, by omega, by rw [HH.2.2], HH.1.put r HH.2.1⟩
      case measure => simp [intOf] <;> omega
    · have hk' : k = zs.length := by omega
      subst hk'
      rw [List.take_length]
      clear hlt
      have hgn := partSum_nonneg A S zs (fun y hy => Int.ediv_nonneg (Int.mul_nonneg (HG.2.2.2.2.1 y hy).1 hA0) (by omega))
      obtain ⟨G, hG⟩ : ∃ G, G = partSum A S zs := ⟨_, rfl⟩
      have hMG : A - G = M := by rw [hG]; exact HM.symm
      rw [← hG] at hmb hgn ⊢
      have HGp : Hid (G = partSum A S zs) := hG
      clear hG
      rcases HR with ⟨h1, h2, h3⟩ | ⟨h1, h2, h3, h4⟩ | ⟨h1, h2, h3, h4, h5, h6⟩
      · have b1 : (M == 0) = true := by simp; omega
        have b2 : (S == 1) = true := by simp [h1]
        subst h2
        subst h3
        go_wp2
        go_ret2
        exact ⟨rfl, HK.bel⟩
      · have b1 : (M == 0) = true := by simp; rw [HM]; exact h2
        have b2 : (S == 1) = false := by simp [h1]
        subst h3
        subst h4
        go_wp2
        go_ret2
        exact ⟨rfl, HK.bel⟩
      · have b1 : (M == 0) = false := by
          have : M = A - partSum A S zs := HM
          simp
          omega
        have e1 := more_ge A S least zs
        have e2 := seen_more A S least zs
        have e3 := atl_ge A S least zs
        have HM2 : M = A - partSum A S zs := HM
        rw [← HM2] at h1 h5 h6
        have hex : ∃ x ∈ zs, rem A S x = least := by
          have hpos : 0 < zs.countP (fun x => decide (rem A S x = least)) := by
            unfold seen at e2
            omega
          obtain ⟨x, hx, hx2⟩ := List.countP_pos_iff.1 hpos
          exact ⟨x, hx, by simpa using hx2⟩
        have HX : Hid ((∃ x ∈ zs, rem A S x = least) ∧ more A S least zs < M ∧ M ≤ atl A S least zs ∧ ties = M - more A S least zs) := ⟨hex, by omega, by omega, by omega⟩
        clear e1 e2 e3 HM2 hex h5 h6
        go_wp2
        go_loopw [15] (fun j wr => ∃ k : Nat, j = .int .i64 k ∧ k ≤ zs.length ∧ (∀ i x, i < k → zs[i]? = some x → rem A S x ≠ least) ∧ Hold w pb ao zs (cutTo A S zs zs.length) wr) (fun j _ => zs.length - (intOf j).toNat)
        case atStart => exact ⟨0, rfl, by omega, fun i x hi => by omega, HK⟩
        case round =>
          clear HK
          obtain ⟨k, rfl, hk, hno, HK⟩ := hrel
          have HN : Hid (∀ i x, i < k → zs[i]? = some x → rem A S x ≠ least) := hno
          clear hno
          by_cases hlt : k < zs.length
          · obtain ⟨x, hxe⟩ : ∃ x, x = zs[k] := ⟨_, rfl⟩
            have hx : zs[k]? = some x := by rw [hxe]; exact List.getElem?_eq_getElem hlt
            obtain ⟨c, hc⟩ : ∃ c, c = rem A S x := ⟨_, rfl⟩
            have hcc : cutTo A S zs zs.length k = c := by
              have hgd : zs.getD k 0 = x := by simp [List.getD, hx]
              rw [cutTo, if_pos hlt, hgd, hc]
            have hc0 : 0 ≤ c := by rw [hc]; exact Int.emod_nonneg _ (by omega)
            have hc1 : c < S := by rw [hc]; exact Int.emod_lt_of_pos _ (by omega)
            have HCX : Hid (zs[k]? = some x ∧ c = rem A S x ∧ cutTo A S zs zs.length k = c) := ⟨hx, hc, hcc⟩
            clear hxe hx hc hcc
            go_wp2
            go_loopw [18, 16, 17] (fun i a b wr => ∃ m : Nat, i = .int .i64 m ∧ m ≤ zs.length ∧ a = .int .u64 (more A S c (zs.take m)) ∧ b = .int .u64 (atl A S c (zs.take m)) ∧ Hold w pb ao zs (cutTo A S zs zs.length) wr) (fun i _ _ _ => zs.length - (intOf i).toNat)
            case atStart => exact ⟨0, rfl, by omega, by simp [more], by simp [atl], HK⟩
            case round =>
              clear HK
              obtain ⟨m, rfl, hm, rfl, rfl, HK⟩ := hrel
              by_cases hmlt : m < zs.length
              · obtain ⟨y, hye⟩ : ∃ y, y = zs[m] := ⟨_, rfl⟩
                have hy : zs[m]? = some y := by rw [hye]; exact List.getElem?_eq_getElem hmlt
                obtain ⟨d, hd⟩ : ∃ d, d = rem A S y := ⟨_, rfl⟩
                have hdd : cutTo A S zs zs.length m = d := by
                  have hgd : zs.getD m 0 = y := by simp [List.getD, hy]
                  rw [cutTo, if_pos hmlt, hgd, hd]
                have hd0 : 0 ≤ d := by rw [hd]; exact Int.emod_nonneg _ (by omega)
                have hd1 : d < S := by rw [hd]; exact Int.emod_lt_of_pos _ (by omega)
                have ck := (HK.row k hlt).1
                have cm := (HK.row m hmlt).1
                rw [HCX.2.2] at ck
                rw [hdd] at cm
                have hmo : more A S c (zs.take (m + 1)) = more A S c (zs.take m) + (if c < d then 1 else 0) := by rw [take_snoc zs m hmlt, more_snoc, ← hye, ← hd]
                have hat : atl A S c (zs.take (m + 1)) = atl A S c (zs.take m) + (if c ≤ d then 1 else 0) := by rw [take_snoc zs m hmlt, atl_snoc, ← hye, ← hd]
                have htk : (zs.take m).length ≤ m := List.length_take_le _ _
                have hb1 := more_bd A S c (zs.take m)
                have hb2 := atl_bd A S c (zs.take m)
                obtain ⟨a, ha⟩ : ∃ a, a = more A S c (zs.take m) := ⟨_, rfl⟩
                obtain ⟨b, hb⟩ : ∃ b, b = atl A S c (zs.take m) := ⟨_, rfl⟩
                rw [← ha] at hmo hb1 ⊢
                rw [← hb] at hat hb2 ⊢
                obtain ⟨b11, b12⟩ := hb1
                obtain ⟨b21, b22⟩ := hb2
                have b13 : a ≤ 4096 := by omega
                have b23 : b ≤ 4096 := by omega
                have HH : Hid (Hold w pb ao zs (cutTo A S zs zs.length) wr ∧ more A S c (zs.take (m + 1)) = a + (if c < d then 1 else 0) ∧ atl A S c (zs.take (m + 1)) = b + (if c ≤ d then 1 else 0)) := ⟨HK, hmo, hat⟩
                clear HK hmo hat ha hb hdd hd hy hye htk b12 b22
                have i1 : (0 : Int) ≤ (k : Int) := by omega
                have i2 : (k : Int) < (zs.length : Int) := by omega
                have j1 : (0 : Int) ≤ (m : Int) := by omega
                have j2 : (m : Int) < (zs.length : Int) := by omega
                rcases (show c < d ∨ c = d ∨ d < c by omega) with hcd | hcd | hcd
                · have g1 : decide (c ≤ d) = true := by simp; omega
                  have g2 : decide (c < d) = true := by simp; omega
                  go_wp2_with fail
                  go_quiet (fail)
                  go_wp2_with fail
                  go_quiet (fail)
                  go_wp2
                  go_roundw
                  case rel => exact ⟨m + 1, by go_num, by omega, by rw [HH.2.1, if_pos hcd], by rw [HH.2.2, if_pos (by omega)], HH.1.drewN _⟩
                  case measure => simp [intOf] <;> omega
                · have g1 : decide (c ≤ d) = true := by simp; omega
                  have g2 : decide (c < d) = false := by simp; omega
                  go_wp2_with fail
                  go_quiet (fail)
                  go_wp2_with fail
                  go_quiet (fail)
                  go_wp2
                  go_roundw
                  case rel => exact ⟨m + 1, by go_num, by omega, by rw [HH.2.1, if_neg (by omega)]; simp, by rw [HH.2.2, if_pos (by omega)], HH.1.drewN _⟩
                  case measure => simp [intOf] <;> omega
                · have g1 : decide (c ≤ d) = false := by simp; omega
                  have g2 : decide (c < d) = false := by simp; omega
                  go_wp2_with fail
                  go_quiet (fail)
                  go_wp2_with fail
                  go_quiet (fail)
                  go_wp2
                  go_roundw
                  case rel => exact ⟨m + 1, by go_num, by omega, by rw [HH.2.1, if_neg (by omega)]; simp, by rw [HH.2.2, if_neg (by omega)]; simp, HH.1.drewN _⟩
                  case measure => simp [intOf] <;> omega
              · have hm' : m = zs.length := by omega
                subst hm'
                rw [List.take_length]
                clear hmlt
                have ck := (HK.row k hlt).1
                rw [HCX.2.2] at ck
                have hb1 := more_bd A S c zs
                have hb2 := atl_bd A S c zs
                have hon : more A S c zs < M → M ≤ atl A S c zs → c = least := fun u v => only_one u v HX.2.1 HX.2.2.1
                have hle : c = least → more A S c zs < M ∧ M ≤ atl A S c zs ∧ ties = M - more A S c zs := fun u => by rw [u]; exact ⟨HX.2.1, HX.2.2.1, HX.2.2.2⟩
                obtain ⟨a, ha⟩ : ∃ a, a = more A S c zs := ⟨_, rfl⟩
                obtain ⟨b, hb⟩ : ∃ b, b = atl A S c zs := ⟨_, rfl⟩
                rw [← ha] at hb1 hon hle ⊢
                rw [← hb] at hb2 hon hle ⊢
                clear ha hb
                obtain ⟨b11, b12⟩ := hb1
                obtain ⟨b21, b22⟩ := hb2
                have HK2 : Hid (Hold w pb ao zs (cutTo A S zs zs.length) wr) := HK
                clear HK
                by_cases hcl : c = least
                · obtain ⟨l1, l2, l3⟩ := hle hcl
                  have HE : Hid (c = least ∧ ties = M - a) := ⟨hcl, l3⟩
                  clear hle hon hcl l3
                  go_wp2
                  go_ret2
                  exact ⟨by rw [← HE.1, HE.2]; rfl, HK2.bel⟩
                · have HE : Hid (c ≠ least) := hcl
                  by_cases ham : a < M
                  · have hmb2 : ¬ M ≤ b := fun h => hcl (hon ham h)
                    clear hle hon hcl
                    go_wp2
                    go_roundw
                    case rel =>
                      refine ⟨k + 1, by go_num, by omega, ?_, HK2⟩
                      intro i z hi hz
                      rcases (show i < k ∨ i = k by omega) with h | h
                      · exact HN i z h hz
                      · subst h
                        rw [HCX.1] at hz
                        cases hz
                        rw [← HCX.2.1]; exact HE
                    case measure => simp [intOf] <;> omega
                  · clear hle hon hcl
                    go_wp2
                    go_roundw
                    case rel =>
                      refine ⟨k + 1, by go_num, by omega, ?_, HK2⟩
                      intro i z hi hz
                      rcases (show i < k ∨ i = k by omega) with h | h
                      · exact HN i z h hz
                      · subst h
                        rw [HCX.1] at hz
                        cases hz
                        rw [← HCX.2.1]; exact HE
                    case measure => simp [intOf] <;> omega
          · exfalso
            obtain ⟨x, hx, hx2⟩ := HX.1
            obtain ⟨i, hi, rfl⟩ := List.getElem_of_mem hx
            exact HN i _ (by omega) (List.getElem?_eq_getElem hi) hx2

end Go.Proofs.Qxb6614430aFmt
