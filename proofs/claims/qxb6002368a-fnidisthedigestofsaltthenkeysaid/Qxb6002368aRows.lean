/-
  No cell of these rows narrows 'for every input' (looked for: loops, veiled, ifaces, maps, wideKeys, modest, calm, conditions, laid).
  DERIVED. THE GIVEN ROWS OF THIS SEAT. 2 by the template 'for every input the law returns true; each argument reads behind the call as it read before'; 0 by the template 'total and deterministic' (their statements: Qxb6002368aTotals.lean).
  GIVEN WITH THE SEED: the statements are not yours to turn. If you find one false, say at which input.
  Laid BY PROGRAM, IN A SANDBOX (cutbox-rows.mjs): the forced cells as the released guide's own fill.sh prints them over the translation 19cbee4ee4470839… (all of the seat's roots in one cut). By AI agents, Wed Nov 11 2026. No macro, syntax, notation, axiom, sorry.
-/
import Derived.Test.Qxb6002368aChecked
import GoSem.Claim
import GoSem.ClaimJoined
import GoSem.ClaimMapViews
import Derived.JoinedTies
import Derived.KernelRfl
namespace Go.Proofs.Qxb6002368a
/- THE CELL 'sum', in the pinned program and in every row, IS THE sha256 OF THE DUMP (.gsa) THAT Qxb6002368aProg.lean LOADS. Nothing in Lean hashes anything: it is a label: what it is worth is what the hold of that sum in a sandbox is worth. -/
noncomputable def Try.pinned : Pinned := { name := "qxb6002368a", sum := "19cbee4ee4470839d768290033bfb4460dee70ed8a5ea4f38138ffff79e58d27", checked := Try.checked }
namespace Rows
def none {H : Type} : Left H := { results := [], args := [] }

/-- 'zzlaws_config_g1.FnIDDependsOnlyOnSaltThenKey': WHATEVER THE INPUT: true; the input reads as it did. -/
def fnIDDependsOnlyOnSaltThenKeySpec : ChangeSpec := { name := "fnIDDependsOnlyOnSaltThenKey", fn := fun _ => fun
  | [d1, d2, d3, d4] => { results := [.lit (.bool true)], args := [d1, d2, d3, d4] }
  | _ => none }
def fnIDDependsOnlyOnSaltThenKeyRow : OpenClaim := { program := "qxb6002368a", sum := "19cbee4ee4470839d768290033bfb4460dee70ed8a5ea4f38138ffff79e58d27", func := "example.com/keystile/keystile/zzlaws_config_g1.FnIDDependsOnlyOnSaltThenKey", spec := "fnIDDependsOnlyOnSaltThenKey", unfollowed := true, recurses := true, apart := false }
def FnIDDependsOnlyOnSaltThenKeySaid : Prop := fnIDDependsOnlyOnSaltThenKeyRow.holds Try.pinned (OpenSpec.ofChange fnIDDependsOnlyOnSaltThenKeySpec)

/-- ITS FALSE NEIGHBOUR: 'it returns false'. Refute it at one input. -/
def fnIDDependsOnlyOnSaltThenKeyWrong : ChangeSpec := { name := "fnIDDependsOnlyOnSaltThenKey", fn := fun _ => fun
  | [d1, d2, d3, d4] => { results := [.lit (.bool false)], args := [d1, d2, d3, d4] }
  | _ => none }
def FnIDDependsOnlyOnSaltThenKeyWrongFalsely : Prop := fnIDDependsOnlyOnSaltThenKeyRow.holds Try.pinned (OpenSpec.ofChange fnIDDependsOnlyOnSaltThenKeyWrong)

/-- 'zzlaws_config_g1.FnIDIsTheDigestOfSaltThenKey': WHATEVER THE INPUT: true; the input reads as it did. -/
def fnIDIsTheDigestOfSaltThenKeySpec : ChangeSpec := { name := "fnIDIsTheDigestOfSaltThenKey", fn := fun _ => fun
  | [d1, d2, d3] => { results := [.lit (.bool true)], args := [d1, d2, d3] }
  | _ => none }
def fnIDIsTheDigestOfSaltThenKeyRow : OpenClaim := { program := "qxb6002368a", sum := "19cbee4ee4470839d768290033bfb4460dee70ed8a5ea4f38138ffff79e58d27", func := "example.com/keystile/keystile/zzlaws_config_g1.FnIDIsTheDigestOfSaltThenKey", spec := "fnIDIsTheDigestOfSaltThenKey", unfollowed := true, recurses := true, apart := false }
def FnIDIsTheDigestOfSaltThenKeySaid : Prop := fnIDIsTheDigestOfSaltThenKeyRow.holds Try.pinned (OpenSpec.ofChange fnIDIsTheDigestOfSaltThenKeySpec)

/-- ITS FALSE NEIGHBOUR: 'it returns false'. Refute it at one input. -/
def fnIDIsTheDigestOfSaltThenKeyWrong : ChangeSpec := { name := "fnIDIsTheDigestOfSaltThenKey", fn := fun _ => fun
  | [d1, d2, d3] => { results := [.lit (.bool false)], args := [d1, d2, d3] }
  | _ => none }
def FnIDIsTheDigestOfSaltThenKeyWrongFalsely : Prop := fnIDIsTheDigestOfSaltThenKeyRow.holds Try.pinned (OpenSpec.ofChange fnIDIsTheDigestOfSaltThenKeyWrong)

end Rows
end Go.Proofs.Qxb6002368a
