/- The shelf's contract of encoding/hex.DecodeString, laid at this seat by the kit's own tools (lay-shelf.mjs, lay-plain.mjs). -/
import Derived.Shelf.LaysM
import Derived.Ground.PaProg
import Derived.Shelf.Hex.Lens
import Derived.Shelf.Hex.Decode
import Derived.Shelf.Hex.DecodeOwns
import Derived.Test.YtflafpklphgbpaaGreatDoorProg
namespace Go.Proofs
open Go.Shelf
def Tryz.laysPah43_ren : Go.Shelf.Ren := ⟨fun | 43 => 45 | 42 => 69 | 44 => 70 | n => n, fun | 9 => 9 | 30 => 23 | 35 => 36 | 3 => 3 | 38 => 108 | 4 => 4 | 0 => 0 | 5 => 5 | 47 => 149 | 46 => 61 | 45 => 63 | n => n, fun | 0 => 8 | n => n⟩
theorem Tryz.laysPah43 : Go.Proofs.Lays.ph43 Tryz.prog Tryz.laysPah43_ren := {
  mixed := by kernel_rfl
  f42 := Tryz.func69.trans (congrArg some (by kernel_rfl))
  f43 := Tryz.func45.trans (congrArg some (by kernel_rfl))
  f44 := Tryz.func70.trans (congrArg some (by kernel_rfl))
  t0 := Tryz.underlying0
  a0 := Tryz.isAgg0
  z0 := Tryz.sizeOf0
  v0 := Tryz.zeroValue0
  t3 := Tryz.underlying3
  a3 := Tryz.isAgg3
  z3 := Tryz.sizeOf3
  v3 := Tryz.zeroValue3
  t4 := Tryz.underlying4
  a4 := Tryz.isAgg4
  z4 := Tryz.sizeOf4
  v4 := Tryz.zeroValue4
  t5 := Tryz.underlying5
  a5 := Tryz.isAgg5
  z5 := Tryz.sizeOf5
  v5 := Tryz.zeroValue5
  t9 := Tryz.underlying9
  a9 := Tryz.isAgg9
  z9 := Tryz.sizeOf9
  v9 := Tryz.zeroValue9
  t30 := Tryz.underlying23
  a30 := Tryz.isAgg23
  z30 := Tryz.sizeOf23
  v30 := Tryz.zeroValue23
  t35 := Tryz.underlying36
  a35 := Tryz.isAgg36
  z35 := Tryz.sizeOf36
  v35 := Tryz.zeroValue36
  t38 := Tryz.underlying108
  a38 := Tryz.isAgg108
  z38 := Tryz.sizeOf108
  v38 := Tryz.zeroValue108
  t45 := Tryz.underlying63
  a45 := Tryz.isAgg63
  z45 := Tryz.sizeOf63
  v45 := Tryz.zeroValue63
  t46 := Tryz.underlying61
  a46 := Tryz.isAgg61
  z46 := Tryz.sizeOf61
  v46 := Tryz.zeroValue61
  t47 := Tryz.underlying149
  a47 := Tryz.isAgg149
  z47 := Tryz.sizeOf149
  v47 := Tryz.zeroValue149
  g0 := by kernel_rfl
  info5 := by kernel_rfl }
open Go.RowKit Go.Lib in
theorem Tryz.hex_DecodeString_owns (s : ByteArray) (w : World) (ev : Value) (hE : w.cell? ⟨8, 0, none⟩ = some ev) (hbig : s.size ≤ 281474976710656) :
    Calls Tryz.prog 45 #[.string s] w fun e w' => ∃ v, e = .returned (.tuple #[v, Hx.errVal 149 ev (Hx.decode s.data.toList).2]) ∧
      w'.ownsRow w.heap.size 5 1 v (Hx.decode s.data.toList).1.length ((Hx.decode s.data.toList).1.map fun b => Value.int .u8 (b.toNat : Int)) ∧ Below w.heap.size w w' := Any.hex_DecodeString_owns Tryz.laysPah43 s w ev hE hbig
end Go.Proofs
