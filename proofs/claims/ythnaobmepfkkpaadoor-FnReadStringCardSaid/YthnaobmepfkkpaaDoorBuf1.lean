/- bytes.Buffer's WriteByte and String at this program: the shelf's contracts, laid in plain words. (The numbers are those of seat 2.) -/
import Derived.Shelf.Bytes.BufferK
import Derived.Shelf.Bytes.String
import Derived.Test.YthnaobmepfkkpaaDoorHuf1
namespace Go.Proofs.YthnaobmepfkkpaaDoor
open Go.Shelf
def lays179_ren : Go.Shelf.Ren := ⟨fun | 179 => 41 | 251 => 43 | 252 => 44 | 181 => 40 | 184 => 45 | 290 => 46 | 324 => 47 | n => n, fun | 130 => 90 | 5 => 5 | 75 => 54 | 0 => 0 | 93 => 94 | 91 => 92 | 3 => 3 | 131 => 47 | 4 => 4 | 37 => 23 | 20 => 20 | 80 => 96 | 9 => 9 | n => n, fun | 14 => 7 | n => n⟩
theorem lays179 : Go.Proofs.LaysM.n179 Tryd.prog lays179_ren := {
  mixed := by kernel_rfl
  f179 := Tryd.func41.trans (congrArg some (by kernel_rfl))
  f181 := Tryd.func40.trans (congrArg some (by kernel_rfl))
  f184 := Tryd.func45.trans (congrArg some (by kernel_rfl))
  f251 := Tryd.func43.trans (congrArg some (by kernel_rfl))
  f252 := Tryd.func44.trans (congrArg some (by kernel_rfl))
  f290 := Tryd.func46.trans (congrArg some (by kernel_rfl))
  f324 := Tryd.func47.trans (congrArg some (by kernel_rfl))
  t0 := Tryd.underlying0
  a0 := Tryd.isAgg0
  z0 := Tryd.sizeOf0
  v0 := Tryd.zeroValue0
  t3 := Tryd.underlying3
  a3 := Tryd.isAgg3
  z3 := Tryd.sizeOf3
  v3 := Tryd.zeroValue3
  t4 := Tryd.underlying4
  a4 := Tryd.isAgg4
  z4 := Tryd.sizeOf4
  v4 := Tryd.zeroValue4
  t5 := Tryd.underlying5
  a5 := Tryd.isAgg5
  z5 := Tryd.sizeOf5
  v5 := Tryd.zeroValue5
  t20 := Tryd.underlying20
  a20 := Tryd.isAgg20
  z20 := Tryd.sizeOf20
  v20 := Tryd.zeroValue20
  t37 := Tryd.underlying23
  a37 := Tryd.isAgg23
  z37 := Tryd.sizeOf23
  v37 := Tryd.zeroValue23
  t75 := Tryd.underlying54
  a75 := Tryd.isAgg54
  z75 := Tryd.sizeOf54
  v75 := Tryd.zeroValue54
  t91 := Tryd.underlying92
  a91 := Tryd.isAgg92
  z91 := Tryd.sizeOf92
  v91 := Tryd.zeroValue92
  t93 := Tryd.underlying94
  a93 := Tryd.isAgg94
  z93 := Tryd.sizeOf94
  v93 := Tryd.zeroValue94
  t130 := Tryd.underlying90
  a130 := Tryd.isAgg90
  z130 := Tryd.sizeOf90
  v130 := Tryd.zeroValue90
  t131 := Tryd.underlying47
  a131 := Tryd.isAgg47
  z131 := Tryd.sizeOf47
  v131 := Tryd.zeroValue47
  g14 := by kernel_rfl
  t9 := Tryd.underlying9
  a9 := Tryd.isAgg9
  z9 := Tryd.sizeOf9
  v9 := Tryd.zeroValue9
  t80 := Tryd.underlying96
  a80 := Tryd.isAgg96
  z80 := Tryd.sizeOf96
  v80 := Tryd.zeroValue96
  i0 := by kernel_rfl
  i3 := by kernel_rfl
  i4 := by kernel_rfl
  i5 := by kernel_rfl
  i9 := by kernel_rfl
  i20 := by kernel_rfl
  i37 := by kernel_rfl
  i75 := by kernel_rfl
  i80 := by kernel_rfl
  i91 := by kernel_rfl
  i93 := by kernel_rfl
  i130 := by kernel_rfl
  i131 := by kernel_rfl
  m14 := by kernel_rfl }
def lays182_ren : Go.Shelf.Ren := ⟨fun | 182 => 38 | n => n, fun | 130 => 90 | 9 => 9 | 4 => 4 | 0 => 0 | 93 => 94 | 37 => 23 | 3 => 3 | 91 => 92 | 5 => 5 | n => n, fun | n => n⟩
theorem lays182 : Go.Proofs.LaysM.n182 Tryd.prog lays182_ren := {
  mixed := by kernel_rfl
  f182 := Tryd.func38.trans (congrArg some (by kernel_rfl))
  t0 := Tryd.underlying0
  a0 := Tryd.isAgg0
  z0 := Tryd.sizeOf0
  v0 := Tryd.zeroValue0
  t3 := Tryd.underlying3
  a3 := Tryd.isAgg3
  z3 := Tryd.sizeOf3
  v3 := Tryd.zeroValue3
  t4 := Tryd.underlying4
  a4 := Tryd.isAgg4
  z4 := Tryd.sizeOf4
  v4 := Tryd.zeroValue4
  t9 := Tryd.underlying9
  a9 := Tryd.isAgg9
  z9 := Tryd.sizeOf9
  v9 := Tryd.zeroValue9
  t37 := Tryd.underlying23
  a37 := Tryd.isAgg23
  z37 := Tryd.sizeOf23
  v37 := Tryd.zeroValue23
  t93 := Tryd.underlying94
  a93 := Tryd.isAgg94
  z93 := Tryd.sizeOf94
  v93 := Tryd.zeroValue94
  t130 := Tryd.underlying90
  a130 := Tryd.isAgg90
  z130 := Tryd.sizeOf90
  v130 := Tryd.zeroValue90
  t5 := Tryd.underlying5
  a5 := Tryd.isAgg5
  z5 := Tryd.sizeOf5
  v5 := Tryd.zeroValue5
  t91 := Tryd.underlying92
  a91 := Tryd.isAgg92
  z91 := Tryd.sizeOf92
  v91 := Tryd.zeroValue92
  i0 := by kernel_rfl
  i3 := by kernel_rfl
  i4 := by kernel_rfl
  i5 := by kernel_rfl
  i9 := by kernel_rfl
  i37 := by kernel_rfl
  i91 := by kernel_rfl
  i93 := by kernel_rfl
  i130 := by kernel_rfl }

open Go Go.RowKit
/-- A byte is written: everything else stands but for rows of bytes. -/
theorem buf_put {B b : Nat} {bs : List Value} {c : Int} {w : World} (h : Lib.IsBuffer 94 5 B b bs w) (hBw : B ≤ w.heap.size) (h1 : ∀ v ∈ bs, v.oneCell' = true) (hlim : bs.length + 1 ≤ 140737488355328) :
    Calls Tryd.prog 41 #[.pointer (some ⟨b, 0, none⟩), .int .u8 c] w fun e w' => e = .returned .nilIface ∧ Lib.IsBuffer 94 5 B b (bs ++ [.int .u8 c]) w' ∧ Below B w w' ∧ Lib.OthersKept 5 (some b) w w' :=
  Any.Buffer_WriteByte_k lays179 B b bs c w h hBw h1 hlim
theorem buf_str {B b : Nat} {l : List UInt8} {w : World} (h : Lib.IsBuffer 94 5 B b (Lib.byteCells l) w) :
    Calls Tryd.prog 38 #[.pointer (some ⟨b, 0, none⟩)] w fun e w' => e = .returned (.string ⟨l.toArray⟩) ∧ ∃ n, w' = w.drewN n :=
  Any.Buffer_String lays182 B b l w h
end Go.Proofs.YthnaobmepfkkpaaDoor
