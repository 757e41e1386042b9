/-
  math/bits.Len64's contract of the library's shelf, laid at this seat's translation (by the shelf's own tools lay-shelf.mjs and lay-plain.mjs); math/bits.Len over it.
-/
import Derived.Shelf.Strconv.Itoa0
import Derived.Test.Qxb6618238aRows
import Derived.WalkKit
import Derived.Lib.Walk
namespace Go.Proofs
open Go.Shelf
def Try.lays129_ren : Go.Shelf.Ren := ⟨fun | 129 => 31 | n => n, fun | 53 => 50 | 3 => 3 | 4 => 4 | 46 => 38 | 5 => 5 | 9 => 9 | n => n, fun | n => n⟩
theorem Try.lays129 : Go.Proofs.Lays.n129 Try.prog Try.lays129_ren := {
  mixed := by kernel_rfl
  f129 := Try.func31.trans (congrArg some (by kernel_rfl))
  t3 := Try.underlying3
  a3 := Try.isAgg3
  z3 := Try.sizeOf3
  v3 := Try.zeroValue3
  t4 := Try.underlying4
  a4 := Try.isAgg4
  z4 := Try.sizeOf4
  v4 := Try.zeroValue4
  t5 := Try.underlying5
  a5 := Try.isAgg5
  z5 := Try.sizeOf5
  v5 := Try.zeroValue5
  t9 := Try.underlying9
  a9 := Try.isAgg9
  z9 := Try.sizeOf9
  v9 := Try.zeroValue9
  t46 := Try.underlying38
  a46 := Try.isAgg38
  z46 := Try.sizeOf38
  v46 := Try.zeroValue38
  t53 := Try.underlying50
  a53 := Try.isAgg50
  z53 := Try.sizeOf50
  v53 := Try.zeroValue50 }
/-- bits.Len64: one application. -/
theorem Try.bits_Len64 (x : Int) (w : World) (h0 : 0 ≤ x) (h1 : x ≤ 18446744073709551615) :
    Calls Try.prog 31 #[.int .u64 x] w fun e w' => e = .returned (.int .i64 (Lib.bitLen x.toNat)) ∧ w' = w := Any.bits_Len64 Try.lays129 x w h0 h1

/-- bits.Len. -/
theorem Qxb6618238a.bits_Len_f (x : Int) (w : World) (h0 : 0 ≤ x) (h1 : x ≤ 18446744073709551615) :
    Calls Try.prog 20 #[.int .u64 x] w fun e w' => e = .returned (.int .i64 (Lib.bitLen x.toNat)) ∧ w' = w := by
  go_enter Try.func20, Try.ntmps20
  go_wp2_with (go_at_call 31; refine (Try.bits_Len64 x _ h0 h1).mono ?_; rintro e w' ⟨rfl, rfl⟩)
  go_ret
  exact ⟨rfl, rfl⟩
end Go.Proofs
