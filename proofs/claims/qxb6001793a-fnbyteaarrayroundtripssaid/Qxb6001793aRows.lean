/-
  No cell of these rows narrows 'for every input' (looked for: loops, veiled, ifaces, maps, wideKeys, modest, calm, conditions, laid).
  DERIVED. THE GIVEN ROWS OF THIS SEAT. 5 by the template 'for every input the law returns true; each argument reads behind the call as it read before'; 0 by the template 'total and deterministic' (their statements: Qxb6001793aTotals.lean).
  GIVEN WITH THE SEED: the statements are not yours to turn. If you find one false, say at which input.
  Laid BY PROGRAM, IN A SANDBOX (cutbox-rows.mjs): the forced cells as the released guide's own fill.sh prints them over the translation 79100cac2731ab54… (all of the seat's roots in one cut). By AI agents, Wed Nov 11 2026. No macro, syntax, notation, axiom, sorry.
-/
import Derived.Test.Qxb6001793aChecked
import GoSem.Claim
import GoSem.ClaimJoined
import GoSem.ClaimMapViews
import Derived.JoinedTies
import Derived.KernelRfl
namespace Go.Proofs.Qxb6001793a
/- THE CELL 'sum', in the pinned program and in every row, IS THE sha256 OF THE DUMP (.gsa) THAT Qxb6001793aProg.lean LOADS. Nothing in Lean hashes anything: it is a label: what it is worth is what the hold of that sum in a sandbox is worth. -/
noncomputable def Try.pinned : Pinned := { name := "qxb6001793a", sum := "79100cac2731ab54fc12ce854c35988fc17d0c5bb13dc2180fdb41dfa40870a9", checked := Try.checked }
namespace Rows
def none {H : Type} : Left H := { results := [], args := [] }

/-- 'zzlaws_root_b1.FnIsBareKeySubstringsStayBare': WHATEVER THE INPUT: true; the input reads as it did. -/
def fnIsBareKeySubstringsStayBareSpec : ChangeSpec := { name := "fnIsBareKeySubstringsStayBare", fn := fun _ => fun
  | [d1, d2, d3] => { results := [.lit (.bool true)], args := [d1, d2, d3] }
  | _ => none }
def fnIsBareKeySubstringsStayBareRow : OpenClaim := { program := "qxb6001793a", sum := "79100cac2731ab54fc12ce854c35988fc17d0c5bb13dc2180fdb41dfa40870a9", func := "example.com/onceguard/onceguard/zzlaws_root_b1.FnIsBareKeySubstringsStayBare", spec := "fnIsBareKeySubstringsStayBare", inPlace := ["internal/bytealg.IndexByteString"], apart := false }
def FnIsBareKeySubstringsStayBareSaid : Prop := fnIsBareKeySubstringsStayBareRow.holds Try.pinned (OpenSpec.ofChange fnIsBareKeySubstringsStayBareSpec)

/-- ITS FALSE NEIGHBOUR: 'it returns false'. Refute it at one input. -/
def fnIsBareKeySubstringsStayBareWrong : ChangeSpec := { name := "fnIsBareKeySubstringsStayBare", fn := fun _ => fun
  | [d1, d2, d3] => { results := [.lit (.bool false)], args := [d1, d2, d3] }
  | _ => none }
def FnIsBareKeySubstringsStayBareWrongFalsely : Prop := fnIsBareKeySubstringsStayBareRow.holds Try.pinned (OpenSpec.ofChange fnIsBareKeySubstringsStayBareWrong)

/-- 'zzlaws_root_b1.FnIsBareKeyConcatUpToLimit': WHATEVER THE INPUT: true; the input reads as it did. -/
def fnIsBareKeyConcatUpToLimitSpec : ChangeSpec := { name := "fnIsBareKeyConcatUpToLimit", fn := fun _ => fun
  | [d1, d2] => { results := [.lit (.bool true)], args := [d1, d2] }
  | _ => none }
def fnIsBareKeyConcatUpToLimitRow : OpenClaim := { program := "qxb6001793a", sum := "79100cac2731ab54fc12ce854c35988fc17d0c5bb13dc2180fdb41dfa40870a9", func := "example.com/onceguard/onceguard/zzlaws_root_b1.FnIsBareKeyConcatUpToLimit", spec := "fnIsBareKeyConcatUpToLimit", inPlace := ["internal/bytealg.IndexByteString"], apart := false }
def FnIsBareKeyConcatUpToLimitSaid : Prop := fnIsBareKeyConcatUpToLimitRow.holds Try.pinned (OpenSpec.ofChange fnIsBareKeyConcatUpToLimitSpec)

/-- ITS FALSE NEIGHBOUR: 'it returns false'. Refute it at one input. -/
def fnIsBareKeyConcatUpToLimitWrong : ChangeSpec := { name := "fnIsBareKeyConcatUpToLimit", fn := fun _ => fun
  | [d1, d2] => { results := [.lit (.bool false)], args := [d1, d2] }
  | _ => none }
def FnIsBareKeyConcatUpToLimitWrongFalsely : Prop := fnIsBareKeyConcatUpToLimitRow.holds Try.pinned (OpenSpec.ofChange fnIsBareKeyConcatUpToLimitWrong)

/-- 'zzlaws_root_b1.FnByteaArrayRoundTrips': WHATEVER THE INPUT: true; the input reads as it did. -/
def fnByteaArrayRoundTripsSpec : ChangeSpec := { name := "fnByteaArrayRoundTrips", fn := fun _ => fun
  | [d] => { results := [.lit (.bool true)], args := [d] }
  | _ => none }
def fnByteaArrayRoundTripsRow : OpenClaim := { program := "qxb6001793a", sum := "79100cac2731ab54fc12ce854c35988fc17d0c5bb13dc2180fdb41dfa40870a9", func := "example.com/onceguard/onceguard/zzlaws_root_b1.FnByteaArrayRoundTrips", spec := "fnByteaArrayRoundTrips", inPlace := ["internal/abi.NoEscape"], apart := false }
def FnByteaArrayRoundTripsSaid : Prop := fnByteaArrayRoundTripsRow.holds Try.pinned (OpenSpec.ofChange fnByteaArrayRoundTripsSpec)

/-- ITS FALSE NEIGHBOUR: 'it returns false'. Refute it at one input. -/
def fnByteaArrayRoundTripsWrong : ChangeSpec := { name := "fnByteaArrayRoundTrips", fn := fun _ => fun
  | [d] => { results := [.lit (.bool false)], args := [d] }
  | _ => none }
def FnByteaArrayRoundTripsWrongFalsely : Prop := fnByteaArrayRoundTripsRow.holds Try.pinned (OpenSpec.ofChange fnByteaArrayRoundTripsWrong)

/-- 'zzlaws_root_b1.FnByteaArrayConcatenates': WHATEVER THE INPUT: true; the input reads as it did. -/
def fnByteaArrayConcatenatesSpec : ChangeSpec := { name := "fnByteaArrayConcatenates", fn := fun _ => fun
  | [d1, d2] => { results := [.lit (.bool true)], args := [d1, d2] }
  | _ => none }
def fnByteaArrayConcatenatesRow : OpenClaim := { program := "qxb6001793a", sum := "79100cac2731ab54fc12ce854c35988fc17d0c5bb13dc2180fdb41dfa40870a9", func := "example.com/onceguard/onceguard/zzlaws_root_b1.FnByteaArrayConcatenates", spec := "fnByteaArrayConcatenates", inPlace := ["internal/abi.NoEscape"], apart := false }
def FnByteaArrayConcatenatesSaid : Prop := fnByteaArrayConcatenatesRow.holds Try.pinned (OpenSpec.ofChange fnByteaArrayConcatenatesSpec)

/-- ITS FALSE NEIGHBOUR: 'it returns false'. Refute it at one input. -/
def fnByteaArrayConcatenatesWrong : ChangeSpec := { name := "fnByteaArrayConcatenates", fn := fun _ => fun
  | [d1, d2] => { results := [.lit (.bool false)], args := [d1, d2] }
  | _ => none }
def FnByteaArrayConcatenatesWrongFalsely : Prop := fnByteaArrayConcatenatesRow.holds Try.pinned (OpenSpec.ofChange fnByteaArrayConcatenatesWrong)

/-- 'zzlaws_root_b1.FnByteaArrayLengthAndAlphabet': WHATEVER THE INPUT: true; the input reads as it did. -/
def fnByteaArrayLengthAndAlphabetSpec : ChangeSpec := { name := "fnByteaArrayLengthAndAlphabet", fn := fun _ => fun
  | [d] => { results := [.lit (.bool true)], args := [d] }
  | _ => none }
def fnByteaArrayLengthAndAlphabetRow : OpenClaim := { program := "qxb6001793a", sum := "79100cac2731ab54fc12ce854c35988fc17d0c5bb13dc2180fdb41dfa40870a9", func := "example.com/onceguard/onceguard/zzlaws_root_b1.FnByteaArrayLengthAndAlphabet", spec := "fnByteaArrayLengthAndAlphabet", inPlace := ["internal/abi.NoEscape"], apart := false }
def FnByteaArrayLengthAndAlphabetSaid : Prop := fnByteaArrayLengthAndAlphabetRow.holds Try.pinned (OpenSpec.ofChange fnByteaArrayLengthAndAlphabetSpec)

/-- ITS FALSE NEIGHBOUR: 'it returns false'. Refute it at one input. -/
def fnByteaArrayLengthAndAlphabetWrong : ChangeSpec := { name := "fnByteaArrayLengthAndAlphabet", fn := fun _ => fun
  | [d] => { results := [.lit (.bool false)], args := [d] }
  | _ => none }
def FnByteaArrayLengthAndAlphabetWrongFalsely : Prop := fnByteaArrayLengthAndAlphabetRow.holds Try.pinned (OpenSpec.ofChange fnByteaArrayLengthAndAlphabetWrong)

end Rows
end Go.Proofs.Qxb6001793a
