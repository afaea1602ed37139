/- The library's contracts of WriteByte and Bytes of a buffer, at this program: laid by the tool lay-plain.mjs of the kit. No conditions beyond those written at each theorem. -/
import Derived.Shelf.Bytes.WriteByteKept
import Derived.Shelf.Bytes.Bytes
import Derived.Test.YtkkplbfbhmlnoaaDoorProg
namespace Go.Proofs.YtkkplbfbhmlnoaaDoor
open Go.Shelf Go.RowKit
def lays179_ren : Go.Shelf.Ren := ⟨fun | 179 => 83 | 251 => 85 | 252 => 86 | 181 => 87 | 184 => 81 | 290 => 88 | 324 => 89 | n => n, fun | 130 => 117 | 5 => 5 | 75 => 55 | 0 => 0 | 93 => 116 | 91 => 114 | 3 => 3 | 131 => 202 | 4 => 4 | 37 => 22 | 20 => 20 | 80 => 179 | 9 => 9 | n => n, fun | 14 => 3 | n => n⟩
theorem lays179 : Go.Proofs.LaysM.n179 Tryd.prog lays179_ren := {
  mixed := by kernel_rfl
  f179 := Tryd.func83.trans (congrArg some (by kernel_rfl))
  f181 := Tryd.func87.trans (congrArg some (by kernel_rfl))
  f184 := Tryd.func81.trans (congrArg some (by kernel_rfl))
  f251 := Tryd.func85.trans (congrArg some (by kernel_rfl))
  f252 := Tryd.func86.trans (congrArg some (by kernel_rfl))
  f290 := Tryd.func88.trans (congrArg some (by kernel_rfl))
  f324 := Tryd.func89.trans (congrArg some (by kernel_rfl))
  t0 := Tryd.underlying0
  a0 := Tryd.isAgg0
  z0 := Tryd.sizeOf0
  v0 := Tryd.zeroValue0
  t3 := Tryd.underlying3
  a3 := Tryd.isAgg3
  z3 := Tryd.sizeOf3
  v3 := Tryd.zeroValue3
  t4 := Tryd.underlying4
  a4 := Tryd.isAgg4
  z4 := Tryd.sizeOf4
  v4 := Tryd.zeroValue4
  t5 := Tryd.underlying5
  a5 := Tryd.isAgg5
  z5 := Tryd.sizeOf5
  v5 := Tryd.zeroValue5
  t20 := Tryd.underlying20
  a20 := Tryd.isAgg20
  z20 := Tryd.sizeOf20
  v20 := Tryd.zeroValue20
  t37 := Tryd.underlying22
  a37 := Tryd.isAgg22
  z37 := Tryd.sizeOf22
  v37 := Tryd.zeroValue22
  t75 := Tryd.underlying55
  a75 := Tryd.isAgg55
  z75 := Tryd.sizeOf55
  v75 := Tryd.zeroValue55
  t91 := Tryd.underlying114
  a91 := Tryd.isAgg114
  z91 := Tryd.sizeOf114
  v91 := Tryd.zeroValue114
  t93 := Tryd.underlying116
  a93 := Tryd.isAgg116
  z93 := Tryd.sizeOf116
  v93 := Tryd.zeroValue116
  t130 := Tryd.underlying117
  a130 := Tryd.isAgg117
  z130 := Tryd.sizeOf117
  v130 := Tryd.zeroValue117
  t131 := Tryd.underlying202
  a131 := Tryd.isAgg202
  z131 := Tryd.sizeOf202
  v131 := Tryd.zeroValue202
  g14 := by kernel_rfl
  t9 := Tryd.underlying9
  a9 := Tryd.isAgg9
  z9 := Tryd.sizeOf9
  v9 := Tryd.zeroValue9
  t80 := Tryd.underlying179
  a80 := Tryd.isAgg179
  z80 := Tryd.sizeOf179
  v80 := Tryd.zeroValue179
  i0 := by kernel_rfl
  i3 := by kernel_rfl
  i4 := by kernel_rfl
  i5 := by kernel_rfl
  i9 := by kernel_rfl
  i20 := by kernel_rfl
  i37 := by kernel_rfl
  i75 := by kernel_rfl
  i80 := by kernel_rfl
  i91 := by kernel_rfl
  i93 := by kernel_rfl
  i130 := by kernel_rfl
  i131 := by kernel_rfl
  m14 := by kernel_rfl }
def lays183_ren : Go.Shelf.Ren := ⟨fun | 183 => 35 | n => n, fun | 130 => 117 | 37 => 22 | 0 => 0 | 93 => 116 | 3 => 3 | 5 => 5 | 91 => 114 | n => n, fun | n => n⟩
theorem lays183 : Go.Proofs.LaysM.n183 Tryd.prog lays183_ren := {
  mixed := by kernel_rfl
  f183 := Tryd.func35.trans (congrArg some (by kernel_rfl))
  t0 := Tryd.underlying0
  a0 := Tryd.isAgg0
  z0 := Tryd.sizeOf0
  v0 := Tryd.zeroValue0
  t3 := Tryd.underlying3
  a3 := Tryd.isAgg3
  z3 := Tryd.sizeOf3
  v3 := Tryd.zeroValue3
  t37 := Tryd.underlying22
  a37 := Tryd.isAgg22
  z37 := Tryd.sizeOf22
  v37 := Tryd.zeroValue22
  t93 := Tryd.underlying116
  a93 := Tryd.isAgg116
  z93 := Tryd.sizeOf116
  v93 := Tryd.zeroValue116
  t130 := Tryd.underlying117
  a130 := Tryd.isAgg117
  z130 := Tryd.sizeOf117
  v130 := Tryd.zeroValue117
  t5 := Tryd.underlying5
  a5 := Tryd.isAgg5
  z5 := Tryd.sizeOf5
  v5 := Tryd.zeroValue5
  t91 := Tryd.underlying114
  a91 := Tryd.isAgg114
  z91 := Tryd.sizeOf114
  v91 := Tryd.zeroValue114
  i0 := by kernel_rfl
  i3 := by kernel_rfl
  i5 := by kernel_rfl
  i37 := by kernel_rfl
  i91 := by kernel_rfl
  i93 := by kernel_rfl
  i130 := by kernel_rfl }

theorem writeByte_laid (B b : Nat) (bs : List Value) (c : Int) (w : World) (h : Lib.IsBuffer 116 5 B b bs w) (hBw : B ≤ w.heap.size) (h1 : ∀ v ∈ bs, v.oneCell' = true) (hlim : bs.length + 1 ≤ 140737488355328) :
    Calls Tryd.prog 83 #[.pointer (some ⟨b, 0, none⟩), .int .u8 c] w fun e w' => e = .returned .nilIface ∧ Lib.IsBuffer 116 5 B b (bs ++ [.int .u8 c]) w' ∧ Below B w w' ∧ Lib.OthersKept 5 (some b) w w' :=
  Any.Buffer_WriteByte_kept lays179 B b bs c w h hBw h1 hlim
theorem bytes_laid (B b : Nat) (bs : List Value) (w : World) (h : Lib.IsBuffer 116 5 B b bs w) :
    Calls Tryd.prog 35 #[.pointer (some ⟨b, 0, none⟩)] w fun e w' => ∃ v, e = .returned v ∧ w'.ownsRow B 5 1 v bs.length bs ∧ ∃ n, w' = w.drewN n :=
  Any.Buffer_Bytes lays183 B b bs w h
end Go.Proofs.YtkkplbfbhmlnoaaDoor
