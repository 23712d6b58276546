/-
  Seat b6602839aD: the library's contract on bytes.IndexByte, laid at this dump: plain text out of the kit's tool lay-plain.
-/
import Derived.Shelf.Bytes.IndexByte
import Derived.Ground.NamesProg
import Derived.Test.Qxb6602839aDoorProg
namespace Go.Proofs
open Go.Shelf
def Tryd.lays187_ren : Go.Shelf.Ren := ⟨fun | 187 => 33 | 255 => 48 | n => n, fun | 37 => 22 | 5 => 5 | 3 => 3 | n => n, fun | n => n⟩
theorem Tryd.lays187 : Go.Proofs.Lays.n187 Tryd.prog Tryd.lays187_ren := {
  mixed := by kernel_rfl
  f187 := Tryd.func33.trans (congrArg some (by kernel_rfl))
  f255 := Tryd.func48.trans (congrArg some (by kernel_rfl))
  t3 := Tryd.underlying3
  a3 := Tryd.isAgg3
  z3 := Tryd.sizeOf3
  v3 := Tryd.zeroValue3
  t5 := Tryd.underlying5
  a5 := Tryd.isAgg5
  z5 := Tryd.sizeOf5
  v5 := Tryd.zeroValue5
  t37 := Tryd.underlying22
  a37 := Tryd.isAgg22
  z37 := Tryd.sizeOf22
  v37 := Tryd.zeroValue22 }
end Go.Proofs
