/-
  No cell of these rows narrows 'for every input' (looked for: loops, veiled, ifaces, maps, wideKeys, modest, calm, conditions, laid).
  DERIVED. THE GIVEN ROWS OF THIS SEAT. 4 by the template 'for every input the law returns true; each argument reads behind the call as it read before'; 0 by the template 'total and deterministic' (their statements: Qxb6612537aTotals.lean).
  GIVEN WITH THE SEED: the statements are not yours to turn. If you find one false, say at which input.
  Laid BY PROGRAM, IN A SANDBOX (cutbox-rows.mjs): the forced cells as the released guide's own fill.sh prints them over the translation b830849bac2e1f3a… (all of the seat's roots in one cut). By AI agents, Wed Nov 11 2026. No macro, syntax, notation, axiom, sorry.
-/
import Derived.Test.Qxb6612537aChecked
import GoSem.Claim
import GoSem.ClaimJoined
import GoSem.ClaimMapViews
import Derived.JoinedTies
import Derived.KernelRfl
namespace Go.Proofs.Qxb6612537a
/- THE CELL 'sum', in the pinned program and in every row, IS THE sha256 OF THE DUMP (.gsa) THAT Qxb6612537aProg.lean LOADS. Nothing in Lean hashes anything: it is a label: what it is worth is what the hold of that sum in a sandbox is worth. -/
noncomputable def Try.pinned : Pinned := { name := "qxb6612537a", sum := "b830849bac2e1f3a4c4275041a117d640f0e87c95b2ad113dedffefa9535768c", checked := Try.checked }
namespace Rows
def none {H : Type} : Left H := { results := [], args := [] }

/-- 'zzlaws_pkg_lock_b1.FnGatherCollectsRelatedClaims': WHATEVER THE INPUT: true; the input reads as it did. -/
def fnGatherCollectsRelatedClaimsSpec : ChangeSpec := { name := "fnGatherCollectsRelatedClaims", fn := fun _ => fun
  | [d1, d2, d3] => { results := [.lit (.bool true)], args := [d1, d2, d3] }
  | _ => none }
def fnGatherCollectsRelatedClaimsRow : OpenClaim := { program := "qxb6612537a", sum := "b830849bac2e1f3a4c4275041a117d640f0e87c95b2ad113dedffefa9535768c", func := "example.com/lockwarden/lockwarden/zzlaws_pkg_lock_b1.FnGatherCollectsRelatedClaims", spec := "fnGatherCollectsRelatedClaims", inPlace := ["internal/bytealg.abigen_runtime_cmpstring"], unfollowed := true, recurses := true, apart := false }
def FnGatherCollectsRelatedClaimsSaid : Prop := fnGatherCollectsRelatedClaimsRow.holds Try.pinned (OpenSpec.ofChange fnGatherCollectsRelatedClaimsSpec)

/-- ITS FALSE NEIGHBOUR: 'it returns false'. Refute it at one input. -/
def fnGatherCollectsRelatedClaimsWrong : ChangeSpec := { name := "fnGatherCollectsRelatedClaims", fn := fun _ => fun
  | [d1, d2, d3] => { results := [.lit (.bool false)], args := [d1, d2, d3] }
  | _ => none }
def FnGatherCollectsRelatedClaimsWrongFalsely : Prop := fnGatherCollectsRelatedClaimsRow.holds Try.pinned (OpenSpec.ofChange fnGatherCollectsRelatedClaimsWrong)

/-- 'zzlaws_pkg_lock_b1.FnGatherReusedRoomForgetsEarlierName': WHATEVER THE INPUT: true; the input reads as it did. -/
def fnGatherReusedRoomForgetsEarlierNameSpec : ChangeSpec := { name := "fnGatherReusedRoomForgetsEarlierName", fn := fun _ => fun
  | [d1, d2, d3, d4] => { results := [.lit (.bool true)], args := [d1, d2, d3, d4] }
  | _ => none }
def fnGatherReusedRoomForgetsEarlierNameRow : OpenClaim := { program := "qxb6612537a", sum := "b830849bac2e1f3a4c4275041a117d640f0e87c95b2ad113dedffefa9535768c", func := "example.com/lockwarden/lockwarden/zzlaws_pkg_lock_b1.FnGatherReusedRoomForgetsEarlierName", spec := "fnGatherReusedRoomForgetsEarlierName", inPlace := ["internal/bytealg.abigen_runtime_cmpstring"], unfollowed := true, recurses := true, apart := false }
def FnGatherReusedRoomForgetsEarlierNameSaid : Prop := fnGatherReusedRoomForgetsEarlierNameRow.holds Try.pinned (OpenSpec.ofChange fnGatherReusedRoomForgetsEarlierNameSpec)

/-- ITS FALSE NEIGHBOUR: 'it returns false'. Refute it at one input. -/
def fnGatherReusedRoomForgetsEarlierNameWrong : ChangeSpec := { name := "fnGatherReusedRoomForgetsEarlierName", fn := fun _ => fun
  | [d1, d2, d3, d4] => { results := [.lit (.bool false)], args := [d1, d2, d3, d4] }
  | _ => none }
def FnGatherReusedRoomForgetsEarlierNameWrongFalsely : Prop := fnGatherReusedRoomForgetsEarlierNameRow.holds Try.pinned (OpenSpec.ofChange fnGatherReusedRoomForgetsEarlierNameWrong)

/-- 'zzlaws_pkg_lock_b1.FnPlaceOfFindsOrPlaces': WHATEVER THE INPUT: true; the input reads as it did. -/
def fnPlaceOfFindsOrPlacesSpec : ChangeSpec := { name := "fnPlaceOfFindsOrPlaces", fn := fun _ => fun
  | [d1, d2, d3] => { results := [.lit (.bool true)], args := [d1, d2, d3] }
  | _ => none }
def fnPlaceOfFindsOrPlacesRow : OpenClaim := { program := "qxb6612537a", sum := "b830849bac2e1f3a4c4275041a117d640f0e87c95b2ad113dedffefa9535768c", func := "example.com/lockwarden/lockwarden/zzlaws_pkg_lock_b1.FnPlaceOfFindsOrPlaces", spec := "fnPlaceOfFindsOrPlaces", apart := false }
def FnPlaceOfFindsOrPlacesSaid : Prop := fnPlaceOfFindsOrPlacesRow.holds Try.pinned (OpenSpec.ofChange fnPlaceOfFindsOrPlacesSpec)

/-- ITS FALSE NEIGHBOUR: 'it returns false'. Refute it at one input. -/
def fnPlaceOfFindsOrPlacesWrong : ChangeSpec := { name := "fnPlaceOfFindsOrPlaces", fn := fun _ => fun
  | [d1, d2, d3] => { results := [.lit (.bool false)], args := [d1, d2, d3] }
  | _ => none }
def FnPlaceOfFindsOrPlacesWrongFalsely : Prop := fnPlaceOfFindsOrPlacesRow.holds Try.pinned (OpenSpec.ofChange fnPlaceOfFindsOrPlacesWrong)

/-- 'zzlaws_pkg_lock_b1.FnPlaceOfPlaceKeepsLockOrder': WHATEVER THE INPUT: true; the input reads as it did. -/
def fnPlaceOfPlaceKeepsLockOrderSpec : ChangeSpec := { name := "fnPlaceOfPlaceKeepsLockOrder", fn := fun _ => fun
  | [d1, d2] => { results := [.lit (.bool true)], args := [d1, d2] }
  | _ => none }
def fnPlaceOfPlaceKeepsLockOrderRow : OpenClaim := { program := "qxb6612537a", sum := "b830849bac2e1f3a4c4275041a117d640f0e87c95b2ad113dedffefa9535768c", func := "example.com/lockwarden/lockwarden/zzlaws_pkg_lock_b1.FnPlaceOfPlaceKeepsLockOrder", spec := "fnPlaceOfPlaceKeepsLockOrder", apart := false }
def FnPlaceOfPlaceKeepsLockOrderSaid : Prop := fnPlaceOfPlaceKeepsLockOrderRow.holds Try.pinned (OpenSpec.ofChange fnPlaceOfPlaceKeepsLockOrderSpec)

/-- ITS FALSE NEIGHBOUR: 'it returns false'. Refute it at one input. -/
def fnPlaceOfPlaceKeepsLockOrderWrong : ChangeSpec := { name := "fnPlaceOfPlaceKeepsLockOrder", fn := fun _ => fun
  | [d1, d2] => { results := [.lit (.bool false)], args := [d1, d2] }
  | _ => none }
def FnPlaceOfPlaceKeepsLockOrderWrongFalsely : Prop := fnPlaceOfPlaceKeepsLockOrderRow.holds Try.pinned (OpenSpec.ofChange fnPlaceOfPlaceKeepsLockOrderWrong)

end Rows
end Go.Proofs.Qxb6612537a
