/- bits.Len64, from the shelf (laid by the kit's program, plain). -/
import Derived.Shelf.Small.Bits
import Derived.Test.YtgdpljjmnmapmaaGreatDoorProg
namespace Go.Proofs.YtgdpljjmnmapmaaGreatDoor
open Go.Shelf Go.Proofs
def shelf_lays129_ren : Go.Shelf.Ren := ⟨fun | 129 => 221 | n => n, fun | 53 => 140 | 3 => 3 | 4 => 4 | 46 => 32 | 5 => 5 | 9 => 9 | n => n, fun | n => n⟩
theorem shelf_lays129 : Go.Proofs.Lays.n129 Tryz.prog shelf_lays129_ren := {
  mixed := by kernel_rfl
  f129 := Tryz.func221.trans (congrArg some (by kernel_rfl))
  t3 := Tryz.underlying3
  a3 := Tryz.isAgg3
  z3 := Tryz.sizeOf3
  v3 := Tryz.zeroValue3
  t4 := Tryz.underlying4
  a4 := Tryz.isAgg4
  z4 := Tryz.sizeOf4
  v4 := Tryz.zeroValue4
  t5 := Tryz.underlying5
  a5 := Tryz.isAgg5
  z5 := Tryz.sizeOf5
  v5 := Tryz.zeroValue5
  t9 := Tryz.underlying9
  a9 := Tryz.isAgg9
  z9 := Tryz.sizeOf9
  v9 := Tryz.zeroValue9
  t46 := Tryz.underlying32
  a46 := Tryz.isAgg32
  z46 := Tryz.sizeOf32
  v46 := Tryz.zeroValue32
  t53 := Tryz.underlying140
  a53 := Tryz.isAgg140
  z53 := Tryz.sizeOf140
  v53 := Tryz.zeroValue140 }
theorem shelf_bits_Len64 (x : Int) (w : World) (h0 : 0 ≤ x) (h1 : x ≤ 18446744073709551615) :
    Calls Tryz.prog 221 #[.int .u64 x] w fun e w' => e = .returned (.int .i64 (Lib.bitLen x.toNat)) ∧ w' = w := Any.bits_Len64 shelf_lays129 x w h0 h1
end Go.Proofs.YtgdpljjmnmapmaaGreatDoor
