/-
  Contracts of the library that the kit has proved once, laid at this translation (the kit's lay-shelf and lay-plain wrote these declarations; plain2tpl.py put names for the numbers).
-/
import Derived.Shelf.LaysM
import Derived.Shelf.Bytes.String
import Derived.Shelf.Bytes.WriteAny
import Derived.Test.YtkhoifaakidfcaaProg
namespace Go.Proofs
open Go.Shelf
def Try.laysM182_ren : Go.Shelf.Ren := ⟨fun | 182 => 24 | n => n, fun | 130 => 42 | 9 => 9 | 4 => 4 | 0 => 0 | 93 => 38 | 37 => 22 | 3 => 3 | 91 => 36 | 5 => 5 | n => n, fun | n => n⟩
theorem Try.laysM182 : Go.Proofs.LaysM.n182 Try.prog Try.laysM182_ren := {
  mixed := by kernel_rfl
  f182 := Try.func24.trans (congrArg some (by kernel_rfl))
  t0 := Try.underlying0
  a0 := Try.isAgg0
  z0 := Try.sizeOf0
  v0 := Try.zeroValue0
  t3 := Try.underlying3
  a3 := Try.isAgg3
  z3 := Try.sizeOf3
  v3 := Try.zeroValue3
  t4 := Try.underlying4
  a4 := Try.isAgg4
  z4 := Try.sizeOf4
  v4 := Try.zeroValue4
  t9 := Try.underlying9
  a9 := Try.isAgg9
  z9 := Try.sizeOf9
  v9 := Try.zeroValue9
  t37 := Try.underlying22
  a37 := Try.isAgg22
  z37 := Try.sizeOf22
  v37 := Try.zeroValue22
  t93 := Try.underlying38
  a93 := Try.isAgg38
  z93 := Try.sizeOf38
  v93 := Try.zeroValue38
  t130 := Try.underlying42
  a130 := Try.isAgg42
  z130 := Try.sizeOf42
  v130 := Try.zeroValue42
  t5 := Try.underlying5
  a5 := Try.isAgg5
  z5 := Try.sizeOf5
  v5 := Try.zeroValue5
  t91 := Try.underlying36
  a91 := Try.isAgg36
  z91 := Try.sizeOf36
  v91 := Try.zeroValue36
  i0 := by kernel_rfl
  i3 := by kernel_rfl
  i4 := by kernel_rfl
  i5 := by kernel_rfl
  i9 := by kernel_rfl
  i37 := by kernel_rfl
  i91 := by kernel_rfl
  i93 := by kernel_rfl
  i130 := by kernel_rfl }
open Go.RowKit in
theorem Try.Buffer_String (B b : Nat) (l : List UInt8) (w : World) (h : Lib.IsBuffer 38 5 B b (Lib.byteCells l) w) :
    Calls Try.prog 24 #[.pointer (some ⟨b, 0, none⟩)] w fun e w' => e = .returned (.string ⟨l.toArray⟩) ∧ ∃ n, w' = w.drewN n := Any.Buffer_String Try.laysM182 B b l w h
def Try.laysM180_ren : Go.Shelf.Ren := ⟨fun | 180 => 54 | 251 => 55 | 252 => 56 | 181 => 57 | 184 => 53 | 290 => 58 | 324 => 59 | n => n, fun | 130 => 42 | 37 => 22 | 3 => 3 | 75 => 44 | 0 => 0 | 93 => 38 | 91 => 36 | 131 => 85 | 4 => 4 | 20 => 20 | 5 => 5 | 80 => 48 | 9 => 9 | n => n, fun | 14 => 1 | n => n⟩
theorem Try.laysM180 : Go.Proofs.LaysM.n180 Try.prog Try.laysM180_ren := {
  mixed := by kernel_rfl
  f180 := Try.func54.trans (congrArg some (by kernel_rfl))
  f181 := Try.func57.trans (congrArg some (by kernel_rfl))
  f184 := Try.func53.trans (congrArg some (by kernel_rfl))
  f251 := Try.func55.trans (congrArg some (by kernel_rfl))
  f252 := Try.func56.trans (congrArg some (by kernel_rfl))
  f290 := Try.func58.trans (congrArg some (by kernel_rfl))
  f324 := Try.func59.trans (congrArg some (by kernel_rfl))
  t0 := Try.underlying0
  a0 := Try.isAgg0
  z0 := Try.sizeOf0
  v0 := Try.zeroValue0
  t3 := Try.underlying3
  a3 := Try.isAgg3
  z3 := Try.sizeOf3
  v3 := Try.zeroValue3
  t4 := Try.underlying4
  a4 := Try.isAgg4
  z4 := Try.sizeOf4
  v4 := Try.zeroValue4
  t20 := Try.underlying20
  a20 := Try.isAgg20
  z20 := Try.sizeOf20
  v20 := Try.zeroValue20
  t37 := Try.underlying22
  a37 := Try.isAgg22
  z37 := Try.sizeOf22
  v37 := Try.zeroValue22
  t75 := Try.underlying44
  a75 := Try.isAgg44
  z75 := Try.sizeOf44
  v75 := Try.zeroValue44
  t91 := Try.underlying36
  a91 := Try.isAgg36
  z91 := Try.sizeOf36
  v91 := Try.zeroValue36
  t93 := Try.underlying38
  a93 := Try.isAgg38
  z93 := Try.sizeOf38
  v93 := Try.zeroValue38
  t130 := Try.underlying42
  a130 := Try.isAgg42
  z130 := Try.sizeOf42
  v130 := Try.zeroValue42
  t131 := Try.underlying85
  a131 := Try.isAgg85
  z131 := Try.sizeOf85
  v131 := Try.zeroValue85
  g14 := by kernel_rfl
  t5 := Try.underlying5
  a5 := Try.isAgg5
  z5 := Try.sizeOf5
  v5 := Try.zeroValue5
  t9 := Try.underlying9
  a9 := Try.isAgg9
  z9 := Try.sizeOf9
  v9 := Try.zeroValue9
  t80 := Try.underlying48
  a80 := Try.isAgg48
  z80 := Try.sizeOf48
  v80 := Try.zeroValue48
  i0 := by kernel_rfl
  i3 := by kernel_rfl
  i4 := by kernel_rfl
  i5 := by kernel_rfl
  i9 := by kernel_rfl
  i20 := by kernel_rfl
  i37 := by kernel_rfl
  i75 := by kernel_rfl
  i80 := by kernel_rfl
  i91 := by kernel_rfl
  i93 := by kernel_rfl
  i130 := by kernel_rfl
  i131 := by kernel_rfl
  m14 := by kernel_rfl }
open Go.RowKit in
theorem Try.Buffer_Write_any (B b : Nat) (bs cs : List Value) (a : Addr) (n c : Nat) (w : World) (h : Lib.IsBuffer 38 5 B b bs w) (hBw : B ≤ w.heap.size) (h1 : ∀ v ∈ bs, v.oneCell' = true) (hn : cs.length = n) (hab : a.block ≠ b) (hsrc : ∀ j v, cs[j]? = some v → w.cell? (a.add j) = some v) (h1c : ∀ v ∈ cs, v.oneCell' = true) (hlim : bs.length + n ≤ 140737488355328) :
    Calls Try.prog 54 #[.pointer (some ⟨b, 0, none⟩), .slice (some a) n c] w fun e w' => e = .returned (.tuple #[.int .i64 n, .nilIface]) ∧ Lib.IsBuffer 38 5 B b (bs ++ cs) w' ∧ Below B w w' ∧ Lib.OthersKept 5 (some b) w w' := Any.Buffer_Write_any Try.laysM180 B b bs cs a n c w h hBw h1 hn hab hsrc h1c hlim
end Go.Proofs
