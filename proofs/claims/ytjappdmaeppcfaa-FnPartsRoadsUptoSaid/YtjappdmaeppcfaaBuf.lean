/-
  Contracts of the library that the kit has proved once, laid at this translation (the kit's lay-shelf and lay-plain wrote these declarations; plain2tpl.py put names for the numbers).
-/
import Derived.Shelf.LaysM
import Derived.Shelf.Bytes.String
import Derived.Shelf.Bytes.WriteAny
import Derived.Test.YtjappdmaeppcfaaProg
namespace Go.Proofs
open Go.Shelf
def Try.laysM182_ren : Go.Shelf.Ren := ⟨fun | 182 => 13 | n => n, fun | 130 => 40 | 9 => 9 | 4 => 4 | 0 => 0 | 93 => 36 | 37 => 24 | 3 => 3 | 91 => 34 | 5 => 5 | n => n, fun | n => n⟩
theorem Try.laysM182 : Go.Proofs.LaysM.n182 Try.prog Try.laysM182_ren := {
  mixed := by kernel_rfl
  f182 := Try.func13.trans (congrArg some (by kernel_rfl))
  t0 := Try.underlying0
  a0 := Try.isAgg0
  z0 := Try.sizeOf0
  v0 := Try.zeroValue0
  t3 := Try.underlying3
  a3 := Try.isAgg3
  z3 := Try.sizeOf3
  v3 := Try.zeroValue3
  t4 := Try.underlying4
  a4 := Try.isAgg4
  z4 := Try.sizeOf4
  v4 := Try.zeroValue4
  t9 := Try.underlying9
  a9 := Try.isAgg9
  z9 := Try.sizeOf9
  v9 := Try.zeroValue9
  t37 := Try.underlying24
  a37 := Try.isAgg24
  z37 := Try.sizeOf24
  v37 := Try.zeroValue24
  t93 := Try.underlying36
  a93 := Try.isAgg36
  z93 := Try.sizeOf36
  v93 := Try.zeroValue36
  t130 := Try.underlying40
  a130 := Try.isAgg40
  z130 := Try.sizeOf40
  v130 := Try.zeroValue40
  t5 := Try.underlying5
  a5 := Try.isAgg5
  z5 := Try.sizeOf5
  v5 := Try.zeroValue5
  t91 := Try.underlying34
  a91 := Try.isAgg34
  z91 := Try.sizeOf34
  v91 := Try.zeroValue34
  i0 := by kernel_rfl
  i3 := by kernel_rfl
  i4 := by kernel_rfl
  i5 := by kernel_rfl
  i9 := by kernel_rfl
  i37 := by kernel_rfl
  i91 := by kernel_rfl
  i93 := by kernel_rfl
  i130 := by kernel_rfl }
open Go.RowKit in
theorem Try.Buffer_String (B b : Nat) (l : List UInt8) (w : World) (h : Lib.IsBuffer 36 5 B b (Lib.byteCells l) w) :
    Calls Try.prog 13 #[.pointer (some ⟨b, 0, none⟩)] w fun e w' => e = .returned (.string ⟨l.toArray⟩) ∧ ∃ n, w' = w.drewN n := Any.Buffer_String Try.laysM182 B b l w h
def Try.laysM180_ren : Go.Shelf.Ren := ⟨fun | 180 => 36 | 251 => 37 | 252 => 38 | 181 => 39 | 184 => 35 | 290 => 40 | 324 => 41 | n => n, fun | 130 => 40 | 37 => 24 | 3 => 3 | 75 => 42 | 0 => 0 | 93 => 36 | 91 => 34 | 131 => 73 | 4 => 4 | 20 => 20 | 5 => 5 | 80 => 45 | 9 => 9 | n => n, fun | 14 => 0 | n => n⟩
theorem Try.laysM180 : Go.Proofs.LaysM.n180 Try.prog Try.laysM180_ren := {
  mixed := by kernel_rfl
  f180 := Try.func36.trans (congrArg some (by kernel_rfl))
  f181 := Try.func39.trans (congrArg some (by kernel_rfl))
  f184 := Try.func35.trans (congrArg some (by kernel_rfl))
  f251 := Try.func37.trans (congrArg some (by kernel_rfl))
  f252 := Try.func38.trans (congrArg some (by kernel_rfl))
  f290 := Try.func40.trans (congrArg some (by kernel_rfl))
  f324 := Try.func41.trans (congrArg some (by kernel_rfl))
  t0 := Try.underlying0
  a0 := Try.isAgg0
  z0 := Try.sizeOf0
  v0 := Try.zeroValue0
  t3 := Try.underlying3
  a3 := Try.isAgg3
  z3 := Try.sizeOf3
  v3 := Try.zeroValue3
  t4 := Try.underlying4
  a4 := Try.isAgg4
  z4 := Try.sizeOf4
  v4 := Try.zeroValue4
  t20 := Try.underlying20
  a20 := Try.isAgg20
  z20 := Try.sizeOf20
  v20 := Try.zeroValue20
  t37 := Try.underlying24
  a37 := Try.isAgg24
  z37 := Try.sizeOf24
  v37 := Try.zeroValue24
  t75 := Try.underlying42
  a75 := Try.isAgg42
  z75 := Try.sizeOf42
  v75 := Try.zeroValue42
  t91 := Try.underlying34
  a91 := Try.isAgg34
  z91 := Try.sizeOf34
  v91 := Try.zeroValue34
  t93 := Try.underlying36
  a93 := Try.isAgg36
  z93 := Try.sizeOf36
  v93 := Try.zeroValue36
  t130 := Try.underlying40
  a130 := Try.isAgg40
  z130 := Try.sizeOf40
  v130 := Try.zeroValue40
  t131 := Try.underlying73
  a131 := Try.isAgg73
  z131 := Try.sizeOf73
  v131 := Try.zeroValue73
  g14 := by kernel_rfl
  t5 := Try.underlying5
  a5 := Try.isAgg5
  z5 := Try.sizeOf5
  v5 := Try.zeroValue5
  t9 := Try.underlying9
  a9 := Try.isAgg9
  z9 := Try.sizeOf9
  v9 := Try.zeroValue9
  t80 := Try.underlying45
  a80 := Try.isAgg45
  z80 := Try.sizeOf45
  v80 := Try.zeroValue45
  i0 := by kernel_rfl
  i3 := by kernel_rfl
  i4 := by kernel_rfl
  i5 := by kernel_rfl
  i9 := by kernel_rfl
  i20 := by kernel_rfl
  i37 := by kernel_rfl
  i75 := by kernel_rfl
  i80 := by kernel_rfl
  i91 := by kernel_rfl
  i93 := by kernel_rfl
  i130 := by kernel_rfl
  i131 := by kernel_rfl
  m14 := by kernel_rfl }
open Go.RowKit in
theorem Try.Buffer_Write_any (B b : Nat) (bs cs : List Value) (a : Addr) (n c : Nat) (w : World) (h : Lib.IsBuffer 36 5 B b bs w) (hBw : B ≤ w.heap.size) (h1 : ∀ v ∈ bs, v.oneCell' = true) (hn : cs.length = n) (hab : a.block ≠ b) (hsrc : ∀ j v, cs[j]? = some v → w.cell? (a.add j) = some v) (h1c : ∀ v ∈ cs, v.oneCell' = true) (hlim : bs.length + n ≤ 140737488355328) :
    Calls Try.prog 36 #[.pointer (some ⟨b, 0, none⟩), .slice (some a) n c] w fun e w' => e = .returned (.tuple #[.int .i64 n, .nilIface]) ∧ Lib.IsBuffer 36 5 B b (bs ++ cs) w' ∧ Below B w w' ∧ Lib.OthersKept 5 (some b) w w' := Any.Buffer_Write_any Try.laysM180 B b bs cs a n c w h hBw h1 hn hab hsrc h1c hlim
end Go.Proofs
