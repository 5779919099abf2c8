/-
  DERIVED: THE SHELF's CONTRACTS AT THIS DUMP, IN PLAIN WORDS (tools/lay-plain.mjs out of 'TryfShelf.lean', which tools/lay-shelf.mjs wrote): THE SAME DECLARATIONS UNDER THE SAME NAMES: 'import', 'namespace', 'open', 'def', 'theorem' AND NOTHING ELSE: no command of the shelf's: FOR A HAND-IN. Each laying: the table of numbers ('.._ren') and one theorem, a field a fact of the dump's own or the kernel's comparison; each contract: ONE APPLICATION.
-/
import Derived.Shelf.LaysM
import Derived.Shelf.Bytes.GrowSliceCatch
import Derived.Shelf.Bytes.GrowSlice
import Derived.Shelf.Bytes.LenAt
import Derived.Shelf.Bytes.TryGrowAt
import Derived.Shelf.Bytes.GrowRow0At
import Derived.Shelf.Bytes.GrowRowAt
import Derived.Shelf.Bytes.GrowNilAt
import Derived.Shelf.Bytes.GrowAt
import Derived.Shelf.Bytes.WriteAt
import Derived.Test.Qxb6613742aFmtProg
namespace Go.Proofs
open Go.Shelf
def Tryf.laysM251_ren : Go.Shelf.Ren := ⟨fun | 251 => 14 | n => n, fun | 130 => 47 | 3 => 3 | 4 => 4 | 0 => 0 | 93 => 42 | 37 => 23 | 91 => 40 | 5 => 5 | n => n, fun | n => n⟩
theorem Tryf.laysM251 : Go.Proofs.LaysM.n251 Tryf.prog Tryf.laysM251_ren := {
  mixed := by kernel_rfl
  f251 := Tryf.func14.trans (congrArg some (by kernel_rfl))
  t0 := Tryf.underlying0
  a0 := Tryf.isAgg0
  z0 := Tryf.sizeOf0
  v0 := Tryf.zeroValue0
  t3 := Tryf.underlying3
  a3 := Tryf.isAgg3
  z3 := Tryf.sizeOf3
  v3 := Tryf.zeroValue3
  t4 := Tryf.underlying4
  a4 := Tryf.isAgg4
  z4 := Tryf.sizeOf4
  v4 := Tryf.zeroValue4
  t37 := Tryf.underlying23
  a37 := Tryf.isAgg23
  z37 := Tryf.sizeOf23
  v37 := Tryf.zeroValue23
  t93 := Tryf.underlying42
  a93 := Tryf.isAgg42
  z93 := Tryf.sizeOf42
  v93 := Tryf.zeroValue42
  t130 := Tryf.underlying47
  a130 := Tryf.isAgg47
  z130 := Tryf.sizeOf47
  v130 := Tryf.zeroValue47
  t5 := Tryf.underlying5
  a5 := Tryf.isAgg5
  z5 := Tryf.sizeOf5
  v5 := Tryf.zeroValue5
  t91 := Tryf.underlying40
  a91 := Tryf.isAgg40
  z91 := Tryf.sizeOf40
  v91 := Tryf.zeroValue40
  i0 := by kernel_rfl
  i3 := by kernel_rfl
  i4 := by kernel_rfl
  i5 := by kernel_rfl
  i37 := by kernel_rfl
  i91 := by kernel_rfl
  i93 := by kernel_rfl
  i130 := by kernel_rfl }
open Go.RowKit in
/-- (*bytes.Buffer).tryGrowByReslice: "tryGrowByReslice is an inlineable version of grow for the fast-case where the internal buffer only needs to be resliced. It returns the index where bytes should be written and whether it succeeded.": THERE IS ROOM: 'buf' is resliced to l + n. (LAID: no walk: one application.) -/
theorem Tryf.Buffer_tryGrow_room_at (b q : Nat) (ao : Option Addr) (l cap n : Nat) (w : World) (c0 : w.cell? ⟨b, q, none⟩ = some (.slice ao l cap)) (f0 : w.frozen? ⟨b, q, none⟩ = false) (hlc : l ≤ cap) (hcap : cap ≤ maxLen) (hn : n ≤ cap - l) :
    Calls Tryf.prog 14 #[.pointer (some ⟨b, q, none⟩), .int .i64 n] w fun e w' => e = .returned (.tuple #[.int .i64 l, .bool true]) ∧ w' = w.setCell ⟨b, q, none⟩ (.slice ao (l + n) cap) := Any.Buffer_tryGrow_room_at Tryf.laysM251 b q ao l cap n w c0 f0 hlc hcap hn
open Go.RowKit in
/-- .. THERE IS NONE: nothing turns. (LAID: no walk: one application.) -/
theorem Tryf.Buffer_tryGrow_none_at (b q : Nat) (ao : Option Addr) (l cap n : Nat) (w : World) (c0 : w.cell? ⟨b, q, none⟩ = some (.slice ao l cap)) (hlc : l ≤ cap) (hcap : cap ≤ maxLen) (hn : cap - l < n) :
    Calls Tryf.prog 14 #[.pointer (some ⟨b, q, none⟩), .int .i64 n] w fun e w' => e = .returned (.tuple #[.int .i64 0, .bool false]) ∧ w' = w := Any.Buffer_tryGrow_none_at Tryf.laysM251 b q ao l cap n w c0 hlc hcap hn
def Tryf.laysM180_ren : Go.Shelf.Ren := ⟨fun | 180 => 11 | 251 => 14 | 252 => 15 | 181 => 16 | 184 => 17 | 290 => 18 | 324 => 19 | n => n, fun | 130 => 47 | 37 => 23 | 3 => 3 | 75 => 32 | 0 => 0 | 93 => 42 | 91 => 40 | 131 => 48 | 4 => 4 | 20 => 20 | 5 => 5 | 80 => 56 | 9 => 9 | n => n, fun | 14 => 1 | n => n⟩
theorem Tryf.laysM180 : Go.Proofs.LaysM.n180 Tryf.prog Tryf.laysM180_ren := {
  mixed := by kernel_rfl
  f180 := Tryf.func11.trans (congrArg some (by kernel_rfl))
  f181 := Tryf.func16.trans (congrArg some (by kernel_rfl))
  f184 := Tryf.func17.trans (congrArg some (by kernel_rfl))
  f251 := Tryf.func14.trans (congrArg some (by kernel_rfl))
  f252 := Tryf.func15.trans (congrArg some (by kernel_rfl))
  f290 := Tryf.func18.trans (congrArg some (by kernel_rfl))
  f324 := Tryf.func19.trans (congrArg some (by kernel_rfl))
  t0 := Tryf.underlying0
  a0 := Tryf.isAgg0
  z0 := Tryf.sizeOf0
  v0 := Tryf.zeroValue0
  t3 := Tryf.underlying3
  a3 := Tryf.isAgg3
  z3 := Tryf.sizeOf3
  v3 := Tryf.zeroValue3
  t4 := Tryf.underlying4
  a4 := Tryf.isAgg4
  z4 := Tryf.sizeOf4
  v4 := Tryf.zeroValue4
  t20 := Tryf.underlying20
  a20 := Tryf.isAgg20
  z20 := Tryf.sizeOf20
  v20 := Tryf.zeroValue20
  t37 := Tryf.underlying23
  a37 := Tryf.isAgg23
  z37 := Tryf.sizeOf23
  v37 := Tryf.zeroValue23
  t75 := Tryf.underlying32
  a75 := Tryf.isAgg32
  z75 := Tryf.sizeOf32
  v75 := Tryf.zeroValue32
  t91 := Tryf.underlying40
  a91 := Tryf.isAgg40
  z91 := Tryf.sizeOf40
  v91 := Tryf.zeroValue40
  t93 := Tryf.underlying42
  a93 := Tryf.isAgg42
  z93 := Tryf.sizeOf42
  v93 := Tryf.zeroValue42
  t130 := Tryf.underlying47
  a130 := Tryf.isAgg47
  z130 := Tryf.sizeOf47
  v130 := Tryf.zeroValue47
  t131 := Tryf.underlying48
  a131 := Tryf.isAgg48
  z131 := Tryf.sizeOf48
  v131 := Tryf.zeroValue48
  g14 := by kernel_rfl
  t5 := Tryf.underlying5
  a5 := Tryf.isAgg5
  z5 := Tryf.sizeOf5
  v5 := Tryf.zeroValue5
  t9 := Tryf.underlying9
  a9 := Tryf.isAgg9
  z9 := Tryf.sizeOf9
  v9 := Tryf.zeroValue9
  t80 := Tryf.underlying56
  a80 := Tryf.isAgg56
  z80 := Tryf.sizeOf56
  v80 := Tryf.zeroValue56
  i0 := by kernel_rfl
  i3 := by kernel_rfl
  i4 := by kernel_rfl
  i5 := by kernel_rfl
  i9 := by kernel_rfl
  i20 := by kernel_rfl
  i37 := by kernel_rfl
  i75 := by kernel_rfl
  i80 := by kernel_rfl
  i91 := by kernel_rfl
  i93 := by kernel_rfl
  i130 := by kernel_rfl
  i131 := by kernel_rfl
  m14 := by kernel_rfl }
open Go.RowKit in
/-- (*bytes.Buffer).Write: "Write appends the contents of p to the buffer, growing the buffer as needed. The return value n is the length of p; err is always nil." (LAID: no walk: one application.) -/
theorem Tryf.Buffer_Write_at (T : TypeId) (R : Nat → Option Value) (B b q : Nat) (bs cs : List Value) (a : Addr) (n c : Nat) (w : World) (h : LibA.IsBuffer T R 5 B b q bs w) (hBw : B ≤ w.heap.size) (h1 : ∀ v ∈ bs, v.oneCell' = true) (hn : cs.length = n) (hab : a.block ≠ b) (hsrc : ∀ j v, cs[j]? = some v → w.cell? (a.add j) = some v) (h1c : ∀ v ∈ cs, v.oneCell' = true) (hlim : bs.length + n ≤ 140737488355328) :
    Calls Tryf.prog 11 #[.pointer (some ⟨b, q, none⟩), .slice (some a) n c] w fun e w' => e = .returned (.tuple #[.int .i64 n, .nilIface]) ∧ LibA.IsBuffer T R 5 B b q (bs ++ cs) w' ∧ Below B w w' ∧ Lib.OthersKept 5 (some b) w w' := Any.Buffer_Write_at Tryf.laysM180 T R B b q bs cs a n c w h hBw h1 hn hab hsrc h1c hlim
end Go.Proofs
