/-
  No cell of these rows narrows 'for every input' (looked for: loops, veiled, ifaces, maps, wideKeys, modest, calm, conditions, laid).
  DERIVED. THE GIVEN ROWS OF THIS SEAT. 5 by the template 'for every input the law returns true; each argument reads behind the call as it read before'; 0 by the template 'total and deterministic' (their statements: Qxb6603070aModsTotals.lean).
  GIVEN WITH THE SEED: the statements are not yours to turn. If you find one false, say at which input.
  Laid BY PROGRAM, IN A SANDBOX (cutbox-rows.mjs): the forced cells as the released guide's own fill.sh prints them over the translation 8a7f94e2e5310fa8… (all of the seat's roots in one cut). By AI agents, Wed Nov 11 2026. No macro, syntax, notation, axiom, sorry.
-/
import Derived.Test.Qxb6603070aModsChecked
import GoSem.Claim
import GoSem.ClaimJoined
import GoSem.ClaimMapViews
import Derived.JoinedTies
import Derived.KernelRfl
namespace Go.Proofs.Qxb6603070aMods
/- THE CELL 'sum', in the pinned program and in every row, IS THE sha256 OF THE DUMP (.gsa) THAT Qxb6603070aModsProg.lean LOADS. Nothing in Lean hashes anything: it is a label: what it is worth is what the hold of that sum in a sandbox is worth. -/
noncomputable def Trym.pinned : Pinned := { name := "qxb6603070amods", sum := "8a7f94e2e5310fa81c9e73e50d26eb7951eb5e558696974b7eb5172107036aee", checked := Trym.checked }
namespace Rows
def none {H : Type} : Left H := { results := [], args := [] }

/-- 'zzlaws_internal_relay_b1.FnCommonIsSetIntersection': WHATEVER THE INPUT: true; the input reads as it did. -/
def fnCommonIsSetIntersectionSpec : ChangeSpec := { name := "fnCommonIsSetIntersection", fn := fun _ => fun
  | [d1, d2, d3, d4] => { results := [.lit (.bool true)], args := [d1, d2, d3, d4] }
  | _ => none }
def fnCommonIsSetIntersectionRow : OpenClaim := { program := "qxb6603070amods", sum := "8a7f94e2e5310fa81c9e73e50d26eb7951eb5e558696974b7eb5172107036aee", func := "example.com/cadis/cadis/zzlaws_internal_relay_b1.FnCommonIsSetIntersection", spec := "fnCommonIsSetIntersection", plainKeys := false, make := .lifted ["publicsums"], apart := false }
def FnCommonIsSetIntersectionSaid : Prop := fnCommonIsSetIntersectionRow.holds Trym.pinned (OpenSpec.ofChange fnCommonIsSetIntersectionSpec)

/-- ITS FALSE NEIGHBOUR: 'it returns false'. Refute it at one input. -/
def fnCommonIsSetIntersectionWrong : ChangeSpec := { name := "fnCommonIsSetIntersection", fn := fun _ => fun
  | [d1, d2, d3, d4] => { results := [.lit (.bool false)], args := [d1, d2, d3, d4] }
  | _ => none }
def FnCommonIsSetIntersectionWrongFalsely : Prop := fnCommonIsSetIntersectionRow.holds Trym.pinned (OpenSpec.ofChange fnCommonIsSetIntersectionWrong)

/-- 'zzlaws_internal_relay_b1.FnCommonSymmetric': WHATEVER THE INPUT: true; the input reads as it did. -/
def fnCommonSymmetricSpec : ChangeSpec := { name := "fnCommonSymmetric", fn := fun _ => fun
  | [d1, d2, d3, d4] => { results := [.lit (.bool true)], args := [d1, d2, d3, d4] }
  | _ => none }
def fnCommonSymmetricRow : OpenClaim := { program := "qxb6603070amods", sum := "8a7f94e2e5310fa81c9e73e50d26eb7951eb5e558696974b7eb5172107036aee", func := "example.com/cadis/cadis/zzlaws_internal_relay_b1.FnCommonSymmetric", spec := "fnCommonSymmetric", plainKeys := false, make := .lifted ["publicsums"], apart := false }
def FnCommonSymmetricSaid : Prop := fnCommonSymmetricRow.holds Trym.pinned (OpenSpec.ofChange fnCommonSymmetricSpec)

/-- ITS FALSE NEIGHBOUR: 'it returns false'. Refute it at one input. -/
def fnCommonSymmetricWrong : ChangeSpec := { name := "fnCommonSymmetric", fn := fun _ => fun
  | [d1, d2, d3, d4] => { results := [.lit (.bool false)], args := [d1, d2, d3, d4] }
  | _ => none }
def FnCommonSymmetricWrongFalsely : Prop := fnCommonSymmetricRow.holds Trym.pinned (OpenSpec.ofChange fnCommonSymmetricWrong)

/-- 'zzlaws_internal_relay_b1.FnDiffSwapIsReverse': WHATEVER THE INPUT: true; the input reads as it did. -/
def fnDiffSwapIsReverseSpec : ChangeSpec := { name := "fnDiffSwapIsReverse", fn := fun _ => fun
  | [d1, d2, d3, d4] => { results := [.lit (.bool true)], args := [d1, d2, d3, d4] }
  | _ => none }
def fnDiffSwapIsReverseRow : OpenClaim := { program := "qxb6603070amods", sum := "8a7f94e2e5310fa81c9e73e50d26eb7951eb5e558696974b7eb5172107036aee", func := "example.com/cadis/cadis/zzlaws_internal_relay_b1.FnDiffSwapIsReverse", spec := "fnDiffSwapIsReverse", plainKeys := false, make := .lifted ["publicsums"], apart := false }
def FnDiffSwapIsReverseSaid : Prop := fnDiffSwapIsReverseRow.holds Trym.pinned (OpenSpec.ofChange fnDiffSwapIsReverseSpec)

/-- ITS FALSE NEIGHBOUR: 'it returns false'. Refute it at one input. -/
def fnDiffSwapIsReverseWrong : ChangeSpec := { name := "fnDiffSwapIsReverse", fn := fun _ => fun
  | [d1, d2, d3, d4] => { results := [.lit (.bool false)], args := [d1, d2, d3, d4] }
  | _ => none }
def FnDiffSwapIsReverseWrongFalsely : Prop := fnDiffSwapIsReverseRow.holds Trym.pinned (OpenSpec.ofChange fnDiffSwapIsReverseWrong)

/-- 'zzlaws_internal_relay_b1.FnDiffRoundTrip': WHATEVER THE INPUT: true; the input reads as it did. -/
def fnDiffRoundTripSpec : ChangeSpec := { name := "fnDiffRoundTrip", fn := fun _ => fun
  | [d1, d2, d3, d4] => { results := [.lit (.bool true)], args := [d1, d2, d3, d4] }
  | _ => none }
def fnDiffRoundTripRow : OpenClaim := { program := "qxb6603070amods", sum := "8a7f94e2e5310fa81c9e73e50d26eb7951eb5e558696974b7eb5172107036aee", func := "example.com/cadis/cadis/zzlaws_internal_relay_b1.FnDiffRoundTrip", spec := "fnDiffRoundTrip", plainKeys := false, make := .lifted ["publicsums"], apart := false }
def FnDiffRoundTripSaid : Prop := fnDiffRoundTripRow.holds Trym.pinned (OpenSpec.ofChange fnDiffRoundTripSpec)

/-- ITS FALSE NEIGHBOUR: 'it returns false'. Refute it at one input. -/
def fnDiffRoundTripWrong : ChangeSpec := { name := "fnDiffRoundTrip", fn := fun _ => fun
  | [d1, d2, d3, d4] => { results := [.lit (.bool false)], args := [d1, d2, d3, d4] }
  | _ => none }
def FnDiffRoundTripWrongFalsely : Prop := fnDiffRoundTripRow.holds Trym.pinned (OpenSpec.ofChange fnDiffRoundTripWrong)

/-- 'zzlaws_internal_relay_b1.FnParamsOfExact': WHATEVER THE INPUT: true; the input reads as it did. -/
def fnParamsOfExactSpec : ChangeSpec := { name := "fnParamsOfExact", fn := fun _ => fun
  | [d1, d2] => { results := [.lit (.bool true)], args := [d1, d2] }
  | _ => none }
def fnParamsOfExactRow : OpenClaim := { program := "qxb6603070amods", sum := "8a7f94e2e5310fa81c9e73e50d26eb7951eb5e558696974b7eb5172107036aee", func := "example.com/cadis/cadis/zzlaws_internal_relay_b1.FnParamsOfExact", spec := "fnParamsOfExact", plainKeys := false, make := .lifted ["publicsums"], apart := false }
def FnParamsOfExactSaid : Prop := fnParamsOfExactRow.holds Trym.pinned (OpenSpec.ofChange fnParamsOfExactSpec)

/-- ITS FALSE NEIGHBOUR: 'it returns false'. Refute it at one input. -/
def fnParamsOfExactWrong : ChangeSpec := { name := "fnParamsOfExact", fn := fun _ => fun
  | [d1, d2] => { results := [.lit (.bool false)], args := [d1, d2] }
  | _ => none }
def FnParamsOfExactWrongFalsely : Prop := fnParamsOfExactRow.holds Trym.pinned (OpenSpec.ofChange fnParamsOfExactWrong)

end Rows
end Go.Proofs.Qxb6603070aMods
