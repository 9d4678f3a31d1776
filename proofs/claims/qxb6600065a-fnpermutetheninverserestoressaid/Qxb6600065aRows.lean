/-
  No cell of these rows narrows 'for every input' (looked for: loops, veiled, ifaces, maps, wideKeys, modest, calm, conditions, laid).
  DERIVED. THE GIVEN ROWS OF THIS SEAT. 6 by the template 'for every input the law returns true; each argument reads behind the call as it read before'; 0 by the template 'total and deterministic' (their statements: Qxb6600065aTotals.lean).
  GIVEN WITH THE SEED: the statements are not yours to turn. If you find one false, say at which input.
  Laid BY PROGRAM, IN A SANDBOX (cutbox-rows.mjs): the forced cells as the released guide's own fill.sh prints them over the translation 6767a11e696fd4af… (all of the seat's roots in one cut). By AI agents, Wed Nov 11 2026. No macro, syntax, notation, axiom, sorry.
-/
import Derived.Test.Qxb6600065aChecked
import GoSem.Claim
import GoSem.ClaimJoined
import GoSem.ClaimMapViews
import Derived.JoinedTies
import Derived.KernelRfl
namespace Go.Proofs.Qxb6600065a
/- THE CELL 'sum', in the pinned program and in every row, IS THE sha256 OF THE DUMP (.gsa) THAT Qxb6600065aProg.lean LOADS. Nothing in Lean hashes anything: it is a label: what it is worth is what the hold of that sum in a sandbox is worth. -/
noncomputable def Try.pinned : Pinned := { name := "qxb6600065a", sum := "6767a11e696fd4af3e2b73fd661fe5a83c4f1dd2a50db7ec98bac485947e0d43", checked := Try.checked }
namespace Rows
def none {H : Type} : Left H := { results := [], args := [] }

/-- 'zzlaws_pkg_register_b1.FnCodeLayoutRankBytesLeastToHoldHighestRank': WHATEVER THE INPUT: true; the input reads as it did. -/
def fnCodeLayoutRankBytesLeastToHoldHighestRankSpec : ChangeSpec := { name := "fnCodeLayoutRankBytesLeastToHoldHighestRank", fn := fun _ => fun
  | [d1, d2] => { results := [.lit (.bool true)], args := [d1, d2] }
  | _ => none }
def fnCodeLayoutRankBytesLeastToHoldHighestRankRow : OpenClaim := { program := "qxb6600065a", sum := "6767a11e696fd4af3e2b73fd661fe5a83c4f1dd2a50db7ec98bac485947e0d43", func := "example.com/zhaomu/zhaomu/zzlaws_pkg_register_b1.FnCodeLayoutRankBytesLeastToHoldHighestRank", spec := "fnCodeLayoutRankBytesLeastToHoldHighestRank", apart := false }
def FnCodeLayoutRankBytesLeastToHoldHighestRankSaid : Prop := fnCodeLayoutRankBytesLeastToHoldHighestRankRow.holds Try.pinned (OpenSpec.ofChange fnCodeLayoutRankBytesLeastToHoldHighestRankSpec)

/-- ITS FALSE NEIGHBOUR: 'it returns false'. Refute it at one input. -/
def fnCodeLayoutRankBytesLeastToHoldHighestRankWrong : ChangeSpec := { name := "fnCodeLayoutRankBytesLeastToHoldHighestRank", fn := fun _ => fun
  | [d1, d2] => { results := [.lit (.bool false)], args := [d1, d2] }
  | _ => none }
def FnCodeLayoutRankBytesLeastToHoldHighestRankWrongFalsely : Prop := fnCodeLayoutRankBytesLeastToHoldHighestRankRow.holds Try.pinned (OpenSpec.ofChange fnCodeLayoutRankBytesLeastToHoldHighestRankWrong)

/-- 'zzlaws_pkg_register_b1.FnCodeLayoutPartsFillTheKey': WHATEVER THE INPUT: true; the input reads as it did. -/
def fnCodeLayoutPartsFillTheKeySpec : ChangeSpec := { name := "fnCodeLayoutPartsFillTheKey", fn := fun _ => fun
  | [d1, d2] => { results := [.lit (.bool true)], args := [d1, d2] }
  | _ => none }
def fnCodeLayoutPartsFillTheKeyRow : OpenClaim := { program := "qxb6600065a", sum := "6767a11e696fd4af3e2b73fd661fe5a83c4f1dd2a50db7ec98bac485947e0d43", func := "example.com/zhaomu/zhaomu/zzlaws_pkg_register_b1.FnCodeLayoutPartsFillTheKey", spec := "fnCodeLayoutPartsFillTheKey", apart := false }
def FnCodeLayoutPartsFillTheKeySaid : Prop := fnCodeLayoutPartsFillTheKeyRow.holds Try.pinned (OpenSpec.ofChange fnCodeLayoutPartsFillTheKeySpec)

/-- ITS FALSE NEIGHBOUR: 'it returns false'. Refute it at one input. -/
def fnCodeLayoutPartsFillTheKeyWrong : ChangeSpec := { name := "fnCodeLayoutPartsFillTheKey", fn := fun _ => fun
  | [d1, d2] => { results := [.lit (.bool false)], args := [d1, d2] }
  | _ => none }
def FnCodeLayoutPartsFillTheKeyWrongFalsely : Prop := fnCodeLayoutPartsFillTheKeyRow.holds Try.pinned (OpenSpec.ofChange fnCodeLayoutPartsFillTheKeyWrong)

/-- 'zzlaws_pkg_register_b1.FnCodeLayoutMonotoneAndLotsCostFive': WHATEVER THE INPUT: true; the input reads as it did. -/
def fnCodeLayoutMonotoneAndLotsCostFiveSpec : ChangeSpec := { name := "fnCodeLayoutMonotoneAndLotsCostFive", fn := fun _ => fun
  | [d1, d2, d3] => { results := [.lit (.bool true)], args := [d1, d2, d3] }
  | _ => none }
def fnCodeLayoutMonotoneAndLotsCostFiveRow : OpenClaim := { program := "qxb6600065a", sum := "6767a11e696fd4af3e2b73fd661fe5a83c4f1dd2a50db7ec98bac485947e0d43", func := "example.com/zhaomu/zhaomu/zzlaws_pkg_register_b1.FnCodeLayoutMonotoneAndLotsCostFive", spec := "fnCodeLayoutMonotoneAndLotsCostFive", apart := false }
def FnCodeLayoutMonotoneAndLotsCostFiveSaid : Prop := fnCodeLayoutMonotoneAndLotsCostFiveRow.holds Try.pinned (OpenSpec.ofChange fnCodeLayoutMonotoneAndLotsCostFiveSpec)

/-- ITS FALSE NEIGHBOUR: 'it returns false'. Refute it at one input. -/
def fnCodeLayoutMonotoneAndLotsCostFiveWrong : ChangeSpec := { name := "fnCodeLayoutMonotoneAndLotsCostFive", fn := fun _ => fun
  | [d1, d2, d3] => { results := [.lit (.bool false)], args := [d1, d2, d3] }
  | _ => none }
def FnCodeLayoutMonotoneAndLotsCostFiveWrongFalsely : Prop := fnCodeLayoutMonotoneAndLotsCostFiveRow.holds Try.pinned (OpenSpec.ofChange fnCodeLayoutMonotoneAndLotsCostFiveWrong)

/-- 'zzlaws_pkg_register_b1.FnPermuteGathersEachHoldingFromItsPlace': WHATEVER THE INPUT: true; the input reads as it did. -/
def fnPermuteGathersEachHoldingFromItsPlaceSpec : ChangeSpec := { name := "fnPermuteGathersEachHoldingFromItsPlace", fn := fun _ => fun
  | [d1, d2] => { results := [.lit (.bool true)], args := [d1, d2] }
  | _ => none }
def fnPermuteGathersEachHoldingFromItsPlaceRow : OpenClaim := { program := "qxb6600065a", sum := "6767a11e696fd4af3e2b73fd661fe5a83c4f1dd2a50db7ec98bac485947e0d43", func := "example.com/zhaomu/zhaomu/zzlaws_pkg_register_b1.FnPermuteGathersEachHoldingFromItsPlace", spec := "fnPermuteGathersEachHoldingFromItsPlace", apart := false }
def FnPermuteGathersEachHoldingFromItsPlaceSaid : Prop := fnPermuteGathersEachHoldingFromItsPlaceRow.holds Try.pinned (OpenSpec.ofChange fnPermuteGathersEachHoldingFromItsPlaceSpec)

/-- ITS FALSE NEIGHBOUR: 'it returns false'. Refute it at one input. -/
def fnPermuteGathersEachHoldingFromItsPlaceWrong : ChangeSpec := { name := "fnPermuteGathersEachHoldingFromItsPlace", fn := fun _ => fun
  | [d1, d2] => { results := [.lit (.bool false)], args := [d1, d2] }
  | _ => none }
def FnPermuteGathersEachHoldingFromItsPlaceWrongFalsely : Prop := fnPermuteGathersEachHoldingFromItsPlaceRow.holds Try.pinned (OpenSpec.ofChange fnPermuteGathersEachHoldingFromItsPlaceWrong)

/-- 'zzlaws_pkg_register_b1.FnPermuteThenInverseRestores': WHATEVER THE INPUT: true; the input reads as it did. -/
def fnPermuteThenInverseRestoresSpec : ChangeSpec := { name := "fnPermuteThenInverseRestores", fn := fun _ => fun
  | [d1, d2] => { results := [.lit (.bool true)], args := [d1, d2] }
  | _ => none }
def fnPermuteThenInverseRestoresRow : OpenClaim := { program := "qxb6600065a", sum := "6767a11e696fd4af3e2b73fd661fe5a83c4f1dd2a50db7ec98bac485947e0d43", func := "example.com/zhaomu/zhaomu/zzlaws_pkg_register_b1.FnPermuteThenInverseRestores", spec := "fnPermuteThenInverseRestores", apart := false }
def FnPermuteThenInverseRestoresSaid : Prop := fnPermuteThenInverseRestoresRow.holds Try.pinned (OpenSpec.ofChange fnPermuteThenInverseRestoresSpec)

/-- ITS FALSE NEIGHBOUR: 'it returns false'. Refute it at one input. -/
def fnPermuteThenInverseRestoresWrong : ChangeSpec := { name := "fnPermuteThenInverseRestores", fn := fun _ => fun
  | [d1, d2] => { results := [.lit (.bool false)], args := [d1, d2] }
  | _ => none }
def FnPermuteThenInverseRestoresWrongFalsely : Prop := fnPermuteThenInverseRestoresRow.holds Try.pinned (OpenSpec.ofChange fnPermuteThenInverseRestoresWrong)

/-- 'zzlaws_pkg_register_b1.FnPermuteMarksKeysAndIsThenIdempotent': WHATEVER THE INPUT: true; the input reads as it did. -/
def fnPermuteMarksKeysAndIsThenIdempotentSpec : ChangeSpec := { name := "fnPermuteMarksKeysAndIsThenIdempotent", fn := fun _ => fun
  | [d1, d2] => { results := [.lit (.bool true)], args := [d1, d2] }
  | _ => none }
def fnPermuteMarksKeysAndIsThenIdempotentRow : OpenClaim := { program := "qxb6600065a", sum := "6767a11e696fd4af3e2b73fd661fe5a83c4f1dd2a50db7ec98bac485947e0d43", func := "example.com/zhaomu/zhaomu/zzlaws_pkg_register_b1.FnPermuteMarksKeysAndIsThenIdempotent", spec := "fnPermuteMarksKeysAndIsThenIdempotent", apart := false }
def FnPermuteMarksKeysAndIsThenIdempotentSaid : Prop := fnPermuteMarksKeysAndIsThenIdempotentRow.holds Try.pinned (OpenSpec.ofChange fnPermuteMarksKeysAndIsThenIdempotentSpec)

/-- ITS FALSE NEIGHBOUR: 'it returns false'. Refute it at one input. -/
def fnPermuteMarksKeysAndIsThenIdempotentWrong : ChangeSpec := { name := "fnPermuteMarksKeysAndIsThenIdempotent", fn := fun _ => fun
  | [d1, d2] => { results := [.lit (.bool false)], args := [d1, d2] }
  | _ => none }
def FnPermuteMarksKeysAndIsThenIdempotentWrongFalsely : Prop := fnPermuteMarksKeysAndIsThenIdempotentRow.holds Try.pinned (OpenSpec.ofChange fnPermuteMarksKeysAndIsThenIdempotentWrong)

end Rows
end Go.Proofs.Qxb6600065a
