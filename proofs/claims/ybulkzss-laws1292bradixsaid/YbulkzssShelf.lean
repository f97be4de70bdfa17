/-
  The shelf's contract of math/bits.Len64 at this program, laid by the kit's tool for it, in plain words.
-/
import Derived.Shelf.Strconv.Itoa0
import Derived.Test.YbulkzssProg
namespace Go.Proofs.Ybulkzss.Sh
open Go.Shelf
def lays129_ren : Go.Shelf.Ren := ⟨fun | 129 => 11 | n => n, fun | 53 => 23 | 3 => 3 | 4 => 4 | 46 => 35 | 5 => 5 | 9 => 9 | n => n, fun | n => n⟩
theorem lays129 : Go.Proofs.Lays.n129 Yba.prog lays129_ren := {
  mixed := by kernel_rfl
  f129 := Yba.func11.trans (congrArg some (by kernel_rfl))
  t3 := Yba.underlying3
  a3 := Yba.isAgg3
  z3 := Yba.sizeOf3
  v3 := Yba.zeroValue3
  t4 := Yba.underlying4
  a4 := Yba.isAgg4
  z4 := Yba.sizeOf4
  v4 := Yba.zeroValue4
  t5 := Yba.underlying5
  a5 := Yba.isAgg5
  z5 := Yba.sizeOf5
  v5 := Yba.zeroValue5
  t9 := Yba.underlying9
  a9 := Yba.isAgg9
  z9 := Yba.sizeOf9
  v9 := Yba.zeroValue9
  t46 := Yba.underlying35
  a46 := Yba.isAgg35
  z46 := Yba.sizeOf35
  v46 := Yba.zeroValue35
  t53 := Yba.underlying23
  a53 := Yba.isAgg23
  z53 := Yba.sizeOf23
  v53 := Yba.zeroValue23 }
/-- bits.Len64 gives the number of bits that x takes; the world is as it was. -/
theorem bits_Len64 (x : Int) (w : World) (h0 : 0 ≤ x) (h1 : x ≤ 18446744073709551615) :
    Calls Yba.prog 11 #[.int .u64 x] w fun e w' => e = .returned (.int .i64 (Lib.bitLen x.toNat)) ∧ w' = w := Any.bits_Len64 lays129 x w h0 h1
end Go.Proofs.Ybulkzss.Sh
