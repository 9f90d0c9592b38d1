/-
  No cell of these rows narrows 'for every input' (looked for: loops, veiled, ifaces, maps, wideKeys, modest, calm, conditions, laid).
  DERIVED. THE GIVEN ROWS OF THIS SEAT. 2 by the template 'for every input the law returns true; each argument reads behind the call as it read before'; 0 by the template 'total and deterministic' (their statements: Qxb6001653aTotals.lean).
  GIVEN WITH THE SEED: the statements are not yours to turn. If you find one false, say at which input.
  Laid BY PROGRAM, IN A SANDBOX (cutbox-rows.mjs): the forced cells as the released guide's own fill.sh prints them over the translation 5578bb2625bd68a1… (all of the seat's roots in one cut). By AI agents, Wed Nov 11 2026. No macro, syntax, notation, axiom, sorry.
-/
import Derived.Test.Qxb6001653aChecked
import GoSem.Claim
import GoSem.ClaimJoined
import GoSem.ClaimMapViews
import Derived.JoinedTies
import Derived.KernelRfl
namespace Go.Proofs.Qxb6001653a
/- THE CELL 'sum', in the pinned program and in every row, IS THE sha256 OF THE DUMP (.gsa) THAT Qxb6001653aProg.lean LOADS. Nothing in Lean hashes anything: it is a label: what it is worth is what the hold of that sum in a sandbox is worth. -/
noncomputable def Try.pinned : Pinned := { name := "qxb6001653a", sum := "5578bb2625bd68a195e2cf8fbe993259a58d96ca5482ca286d7ac58c5f505be5", checked := Try.checked }
namespace Rows
def none {H : Type} : Left H := { results := [], args := [] }

/-- 'zzlaws_pkg_store_b1.FnHeldWithinInjective': WHATEVER THE INPUT: true; the input reads as it did. -/
def fnHeldWithinInjectiveSpec : ChangeSpec := { name := "fnHeldWithinInjective", fn := fun _ => fun
  | [d1, d2] => { results := [.lit (.bool true)], args := [d1, d2] }
  | _ => none }
def fnHeldWithinInjectiveRow : OpenClaim := { program := "qxb6001653a", sum := "5578bb2625bd68a195e2cf8fbe993259a58d96ca5482ca286d7ac58c5f505be5", func := "example.com/usage-by-plan/usage-by-plan/zzlaws_pkg_store_b1.FnHeldWithinInjective", spec := "fnHeldWithinInjective", apart := false }
def FnHeldWithinInjectiveSaid : Prop := fnHeldWithinInjectiveRow.holds Try.pinned (OpenSpec.ofChange fnHeldWithinInjectiveSpec)

/-- ITS FALSE NEIGHBOUR: 'it returns false'. Refute it at one input. -/
def fnHeldWithinInjectiveWrong : ChangeSpec := { name := "fnHeldWithinInjective", fn := fun _ => fun
  | [d1, d2] => { results := [.lit (.bool false)], args := [d1, d2] }
  | _ => none }
def FnHeldWithinInjectiveWrongFalsely : Prop := fnHeldWithinInjectiveRow.holds Try.pinned (OpenSpec.ofChange fnHeldWithinInjectiveWrong)

/-- 'zzlaws_pkg_store_b1.FnHeldWithinSplicesCondAtOneFixedPlace': WHATEVER THE INPUT: true; the input reads as it did. -/
def fnHeldWithinSplicesCondAtOneFixedPlaceSpec : ChangeSpec := { name := "fnHeldWithinSplicesCondAtOneFixedPlace", fn := fun _ => fun
  | [d1, d2] => { results := [.lit (.bool true)], args := [d1, d2] }
  | _ => none }
def fnHeldWithinSplicesCondAtOneFixedPlaceRow : OpenClaim := { program := "qxb6001653a", sum := "5578bb2625bd68a195e2cf8fbe993259a58d96ca5482ca286d7ac58c5f505be5", func := "example.com/usage-by-plan/usage-by-plan/zzlaws_pkg_store_b1.FnHeldWithinSplicesCondAtOneFixedPlace", spec := "fnHeldWithinSplicesCondAtOneFixedPlace", apart := false }
def FnHeldWithinSplicesCondAtOneFixedPlaceSaid : Prop := fnHeldWithinSplicesCondAtOneFixedPlaceRow.holds Try.pinned (OpenSpec.ofChange fnHeldWithinSplicesCondAtOneFixedPlaceSpec)

/-- ITS FALSE NEIGHBOUR: 'it returns false'. Refute it at one input. -/
def fnHeldWithinSplicesCondAtOneFixedPlaceWrong : ChangeSpec := { name := "fnHeldWithinSplicesCondAtOneFixedPlace", fn := fun _ => fun
  | [d1, d2] => { results := [.lit (.bool false)], args := [d1, d2] }
  | _ => none }
def FnHeldWithinSplicesCondAtOneFixedPlaceWrongFalsely : Prop := fnHeldWithinSplicesCondAtOneFixedPlaceRow.holds Try.pinned (OpenSpec.ofChange fnHeldWithinSplicesCondAtOneFixedPlaceWrong)

end Rows
end Go.Proofs.Qxb6001653a
