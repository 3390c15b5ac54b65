/-
  DERIVED: THE SHELF's CONTRACTS AT THIS DUMP, IN PLAIN WORDS (tools/lay-plain.mjs out of 'Qxb6616658aFmtShelf.lean', which tools/lay-shelf.mjs wrote): THE SAME DECLARATIONS UNDER THE SAME NAMES: 'import', 'namespace', 'open', 'def', 'theorem' AND NOTHING ELSE: no command of the shelf's: FOR A HAND-IN. Each laying: the table of numbers ('.._ren') and one theorem, a field a fact of the dump's own or the kernel's comparison; each contract: ONE APPLICATION.
-/
import Derived.Shelf.LaysM
import Derived.Shelf.Bytes.Bytes
import Derived.Shelf.Bytes.WriteAny
import Derived.Test.Qxb6616658aFmtProg
namespace Go.Proofs
open Go.Shelf
def Tryf.laysM183_ren : Go.Shelf.Ren := ⟨fun | 183 => 33 | n => n, fun | 130 => 45 | 37 => 22 | 0 => 0 | 93 => 71 | 3 => 3 | 5 => 5 | 91 => 69 | n => n, fun | n => n⟩
theorem Tryf.laysM183 : Go.Proofs.LaysM.n183 Tryf.prog Tryf.laysM183_ren := {
  mixed := by kernel_rfl
  f183 := Tryf.func33.trans (congrArg some (by kernel_rfl))
  t0 := Tryf.underlying0
  a0 := Tryf.isAgg0
  z0 := Tryf.sizeOf0
  v0 := Tryf.zeroValue0
  t3 := Tryf.underlying3
  a3 := Tryf.isAgg3
  z3 := Tryf.sizeOf3
  v3 := Tryf.zeroValue3
  t37 := Tryf.underlying22
  a37 := Tryf.isAgg22
  z37 := Tryf.sizeOf22
  v37 := Tryf.zeroValue22
  t93 := Tryf.underlying71
  a93 := Tryf.isAgg71
  z93 := Tryf.sizeOf71
  v93 := Tryf.zeroValue71
  t130 := Tryf.underlying45
  a130 := Tryf.isAgg45
  z130 := Tryf.sizeOf45
  v130 := Tryf.zeroValue45
  t5 := Tryf.underlying5
  a5 := Tryf.isAgg5
  z5 := Tryf.sizeOf5
  v5 := Tryf.zeroValue5
  t91 := Tryf.underlying69
  a91 := Tryf.isAgg69
  z91 := Tryf.sizeOf69
  v91 := Tryf.zeroValue69
  i0 := by kernel_rfl
  i3 := by kernel_rfl
  i5 := by kernel_rfl
  i37 := by kernel_rfl
  i91 := by kernel_rfl
  i93 := by kernel_rfl
  i130 := by kernel_rfl }
open Go.RowKit in
theorem Tryf.Buffer_Bytes (B b : Nat) (bs : List Value) (w : World) (h : Lib.IsBuffer 71 5 B b bs w) :
    Calls Tryf.prog 33 #[.pointer (some ⟨b, 0, none⟩)] w fun e w' => ∃ v, e = .returned v ∧ w'.ownsRow B 5 1 v bs.length bs ∧ ∃ n, w' = w.drewN n := Any.Buffer_Bytes Tryf.laysM183 B b bs w h
def Tryf.laysM180_ren : Go.Shelf.Ren := ⟨fun | 180 => 65 | 251 => 67 | 252 => 68 | 181 => 69 | 184 => 63 | 290 => 70 | 324 => 71 | n => n, fun | 130 => 45 | 37 => 22 | 3 => 3 | 75 => 30 | 0 => 0 | 93 => 71 | 91 => 69 | 131 => 138 | 4 => 4 | 20 => 20 | 5 => 5 | 80 => 120 | 9 => 9 | n => n, fun | 14 => 5 | n => n⟩
theorem Tryf.laysM180 : Go.Proofs.LaysM.n180 Tryf.prog Tryf.laysM180_ren := {
  mixed := by kernel_rfl
  f180 := Tryf.func65.trans (congrArg some (by kernel_rfl))
  f181 := Tryf.func69.trans (congrArg some (by kernel_rfl))
  f184 := Tryf.func63.trans (congrArg some (by kernel_rfl))
  f251 := Tryf.func67.trans (congrArg some (by kernel_rfl))
  f252 := Tryf.func68.trans (congrArg some (by kernel_rfl))
  f290 := Tryf.func70.trans (congrArg some (by kernel_rfl))
  f324 := Tryf.func71.trans (congrArg some (by kernel_rfl))
  t0 := Tryf.underlying0
  a0 := Tryf.isAgg0
  z0 := Tryf.sizeOf0
  v0 := Tryf.zeroValue0
  t3 := Tryf.underlying3
  a3 := Tryf.isAgg3
  z3 := Tryf.sizeOf3
  v3 := Tryf.zeroValue3
  t4 := Tryf.underlying4
  a4 := Tryf.isAgg4
  z4 := Tryf.sizeOf4
  v4 := Tryf.zeroValue4
  t20 := Tryf.underlying20
  a20 := Tryf.isAgg20
  z20 := Tryf.sizeOf20
  v20 := Tryf.zeroValue20
  t37 := Tryf.underlying22
  a37 := Tryf.isAgg22
  z37 := Tryf.sizeOf22
  v37 := Tryf.zeroValue22
  t75 := Tryf.underlying30
  a75 := Tryf.isAgg30
  z75 := Tryf.sizeOf30
  v75 := Tryf.zeroValue30
  t91 := Tryf.underlying69
  a91 := Tryf.isAgg69
  z91 := Tryf.sizeOf69
  v91 := Tryf.zeroValue69
  t93 := Tryf.underlying71
  a93 := Tryf.isAgg71
  z93 := Tryf.sizeOf71
  v93 := Tryf.zeroValue71
  t130 := Tryf.underlying45
  a130 := Tryf.isAgg45
  z130 := Tryf.sizeOf45
  v130 := Tryf.zeroValue45
  t131 := Tryf.underlying138
  a131 := Tryf.isAgg138
  z131 := Tryf.sizeOf138
  v131 := Tryf.zeroValue138
  g14 := by kernel_rfl
  t5 := Tryf.underlying5
  a5 := Tryf.isAgg5
  z5 := Tryf.sizeOf5
  v5 := Tryf.zeroValue5
  t9 := Tryf.underlying9
  a9 := Tryf.isAgg9
  z9 := Tryf.sizeOf9
  v9 := Tryf.zeroValue9
  t80 := Tryf.underlying120
  a80 := Tryf.isAgg120
  z80 := Tryf.sizeOf120
  v80 := Tryf.zeroValue120
  i0 := by kernel_rfl
  i3 := by kernel_rfl
  i4 := by kernel_rfl
  i5 := by kernel_rfl
  i9 := by kernel_rfl
  i20 := by kernel_rfl
  i37 := by kernel_rfl
  i75 := by kernel_rfl
  i80 := by kernel_rfl
  i91 := by kernel_rfl
  i93 := by kernel_rfl
  i130 := by kernel_rfl
  i131 := by kernel_rfl
  m14 := by kernel_rfl }
open Go.RowKit in
theorem Tryf.Buffer_Write_any (B b : Nat) (bs cs : List Value) (a : Addr) (n c : Nat) (w : World) (h : Lib.IsBuffer 71 5 B b bs w) (hBw : B ≤ w.heap.size) (h1 : ∀ v ∈ bs, v.oneCell' = true) (hn : cs.length = n) (hab : a.block ≠ b) (hsrc : ∀ j v, cs[j]? = some v → w.cell? (a.add j) = some v) (h1c : ∀ v ∈ cs, v.oneCell' = true) (hlim : bs.length + n ≤ 140737488355328) :
    Calls Tryf.prog 65 #[.pointer (some ⟨b, 0, none⟩), .slice (some a) n c] w fun e w' => e = .returned (.tuple #[.int .i64 n, .nilIface]) ∧ Lib.IsBuffer 71 5 B b (bs ++ cs) w' ∧ Below B w w' ∧ Lib.OthersKept 5 (some b) w w' := Any.Buffer_Write_any Tryf.laysM180 B b bs cs a n c w h hBw h1 hn hab hsrc h1c hlim
end Go.Proofs
