import Derived.Shelf.Small.Strs
import Derived.Test.Qxb6612537aProg
/-! The shelf's contract of strings.Compare, laid at this program by the kit's lay-shelf and lay-plain. -/
namespace Go.Proofs.Qxb6612537a.U
open Go.Shelf
def lays106_ren : Go.Shelf.Ren := ⟨fun | 106 => 48 | 213 => 59 | 265 => 71 | n => n, fun | 9 => 9 | 3 => 3 | n => n, fun | n => n⟩
theorem lays106 : Go.Proofs.Lays.n106 Try.prog lays106_ren := {
  mixed := by kernel_rfl
  f106 := Try.func48.trans (congrArg some (by kernel_rfl))
  f213 := Try.func59.trans (congrArg some (by kernel_rfl))
  f265 := Try.func71.trans (congrArg some (by kernel_rfl))
  t3 := Try.underlying3
  a3 := Try.isAgg3
  z3 := Try.sizeOf3
  v3 := Try.zeroValue3
  t9 := Try.underlying9
  a9 := Try.isAgg9
  z9 := Try.sizeOf9
  v9 := Try.zeroValue9 }
open Go.RowKit in
/-- strings.Compare. -/
theorem strings_Compare (a b : ByteArray) (w : World) :
    Calls Try.prog 48 #[.string a, .string b] w fun e w' => e = .returned (.int .i64 (Lib.compareBytes a.data.toList b.data.toList)) ∧ w' = w := Any.strings_Compare lays106 a b w
end Go.Proofs.Qxb6612537a.U
