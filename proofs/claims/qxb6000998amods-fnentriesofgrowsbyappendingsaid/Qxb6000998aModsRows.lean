/-
  No cell of these rows narrows 'for every input' (looked for: loops, veiled, ifaces, maps, wideKeys, modest, calm, conditions, laid).
  DERIVED. THE GIVEN ROWS OF THIS SEAT. 5 by the template 'for every input the law returns true; each argument reads behind the call as it read before'; 0 by the template 'total and deterministic' (their statements: Qxb6000998aModsTotals.lean).
  GIVEN WITH THE SEED: the statements are not yours to turn. If you find one false, say at which input.
  Laid BY PROGRAM, IN A SANDBOX (cutbox-rows.mjs): the forced cells as the released guide's own fill.sh prints them over the translation f80d844ed220a735… (all of the seat's roots in one cut). By AI agents, Wed Nov 11 2026. No macro, syntax, notation, axiom, sorry.
-/
import Derived.Test.Qxb6000998aModsChecked
import GoSem.Claim
import GoSem.ClaimJoined
import GoSem.ClaimMapViews
import Derived.JoinedTies
import Derived.KernelRfl
namespace Go.Proofs.Qxb6000998aMods
/- THE CELL 'sum', in the pinned program and in every row, IS THE sha256 OF THE DUMP (.gsa) THAT Qxb6000998aModsProg.lean LOADS. Nothing in Lean hashes anything: it is a label: what it is worth is what the hold of that sum in a sandbox is worth. -/
noncomputable def Trym.pinned : Pinned := { name := "qxb6000998amods", sum := "f80d844ed220a7353e325e68237a88a2bb3fb959245c4e74ebe058a889cdb67c", checked := Trym.checked }
namespace Rows
def none {H : Type} : Left H := { results := [], args := [] }

/-- 'zzlaws_internal_protocol_b1.FnJudgeHangsOnlyOnRoundCountMessageAndName': WHATEVER THE INPUT: true; the input reads as it did. -/
def fnJudgeHangsOnlyOnRoundCountMessageAndNameSpec : ChangeSpec := { name := "fnJudgeHangsOnlyOnRoundCountMessageAndName", fn := fun _ => fun
  | [d1, d2, d3, d4, d5, d6, d7, d8, d9, d10, d11] => { results := [.lit (.bool true)], args := [d1, d2, d3, d4, d5, d6, d7, d8, d9, d10, d11] }
  | _ => none }
def fnJudgeHangsOnlyOnRoundCountMessageAndNameRow : OpenClaim := { program := "qxb6000998amods", sum := "f80d844ed220a7353e325e68237a88a2bb3fb959245c4e74ebe058a889cdb67c", func := "example.com/cairn-ledger/cairn-ledger/zzlaws_internal_protocol_b1.FnJudgeHangsOnlyOnRoundCountMessageAndName", spec := "fnJudgeHangsOnlyOnRoundCountMessageAndName", plainKeys := false, make := .lifted ["publicsums"], apart := false }
def FnJudgeHangsOnlyOnRoundCountMessageAndNameSaid : Prop := fnJudgeHangsOnlyOnRoundCountMessageAndNameRow.holds Trym.pinned (OpenSpec.ofChange fnJudgeHangsOnlyOnRoundCountMessageAndNameSpec)

/-- ITS FALSE NEIGHBOUR: 'it returns false'. Refute it at one input. -/
def fnJudgeHangsOnlyOnRoundCountMessageAndNameWrong : ChangeSpec := { name := "fnJudgeHangsOnlyOnRoundCountMessageAndName", fn := fun _ => fun
  | [d1, d2, d3, d4, d5, d6, d7, d8, d9, d10, d11] => { results := [.lit (.bool false)], args := [d1, d2, d3, d4, d5, d6, d7, d8, d9, d10, d11] }
  | _ => none }
def FnJudgeHangsOnlyOnRoundCountMessageAndNameWrongFalsely : Prop := fnJudgeHangsOnlyOnRoundCountMessageAndNameRow.holds Trym.pinned (OpenSpec.ofChange fnJudgeHangsOnlyOnRoundCountMessageAndNameWrong)

/-- 'zzlaws_internal_protocol_b1.FnJudgeSymmetricBetweenParties': WHATEVER THE INPUT: true; the input reads as it did. -/
def fnJudgeSymmetricBetweenPartiesSpec : ChangeSpec := { name := "fnJudgeSymmetricBetweenParties", fn := fun _ => fun
  | [d1, d2, d3, d4, d5, d6] => { results := [.lit (.bool true)], args := [d1, d2, d3, d4, d5, d6] }
  | _ => none }
def fnJudgeSymmetricBetweenPartiesRow : OpenClaim := { program := "qxb6000998amods", sum := "f80d844ed220a7353e325e68237a88a2bb3fb959245c4e74ebe058a889cdb67c", func := "example.com/cairn-ledger/cairn-ledger/zzlaws_internal_protocol_b1.FnJudgeSymmetricBetweenParties", spec := "fnJudgeSymmetricBetweenParties", plainKeys := false, make := .lifted ["publicsums"], apart := false }
def FnJudgeSymmetricBetweenPartiesSaid : Prop := fnJudgeSymmetricBetweenPartiesRow.holds Trym.pinned (OpenSpec.ofChange fnJudgeSymmetricBetweenPartiesSpec)

/-- ITS FALSE NEIGHBOUR: 'it returns false'. Refute it at one input. -/
def fnJudgeSymmetricBetweenPartiesWrong : ChangeSpec := { name := "fnJudgeSymmetricBetweenParties", fn := fun _ => fun
  | [d1, d2, d3, d4, d5, d6] => { results := [.lit (.bool false)], args := [d1, d2, d3, d4, d5, d6] }
  | _ => none }
def FnJudgeSymmetricBetweenPartiesWrongFalsely : Prop := fnJudgeSymmetricBetweenPartiesRow.holds Trym.pinned (OpenSpec.ofChange fnJudgeSymmetricBetweenPartiesWrong)

/-- 'zzlaws_internal_protocol_b1.FnEntriesOfKeepsFirstOfEachOwner': WHATEVER THE INPUT: true; the input reads as it did. -/
def fnEntriesOfKeepsFirstOfEachOwnerSpec : ChangeSpec := { name := "fnEntriesOfKeepsFirstOfEachOwner", fn := fun _ => fun
  | [d] => { results := [.lit (.bool true)], args := [d] }
  | _ => none }
def fnEntriesOfKeepsFirstOfEachOwnerRow : OpenClaim := { program := "qxb6000998amods", sum := "f80d844ed220a7353e325e68237a88a2bb3fb959245c4e74ebe058a889cdb67c", func := "example.com/cairn-ledger/cairn-ledger/zzlaws_internal_protocol_b1.FnEntriesOfKeepsFirstOfEachOwner", spec := "fnEntriesOfKeepsFirstOfEachOwner", plainKeys := false, make := .lifted ["publicsums"], apart := false }
def FnEntriesOfKeepsFirstOfEachOwnerSaid : Prop := fnEntriesOfKeepsFirstOfEachOwnerRow.holds Trym.pinned (OpenSpec.ofChange fnEntriesOfKeepsFirstOfEachOwnerSpec)

/-- ITS FALSE NEIGHBOUR: 'it returns false'. Refute it at one input. -/
def fnEntriesOfKeepsFirstOfEachOwnerWrong : ChangeSpec := { name := "fnEntriesOfKeepsFirstOfEachOwner", fn := fun _ => fun
  | [d] => { results := [.lit (.bool false)], args := [d] }
  | _ => none }
def FnEntriesOfKeepsFirstOfEachOwnerWrongFalsely : Prop := fnEntriesOfKeepsFirstOfEachOwnerRow.holds Trym.pinned (OpenSpec.ofChange fnEntriesOfKeepsFirstOfEachOwnerWrong)

/-- 'zzlaws_internal_protocol_b1.FnEntriesOfFoldsAnyPrefix': WHATEVER THE INPUT: true; the input reads as it did. -/
def fnEntriesOfFoldsAnyPrefixSpec : ChangeSpec := { name := "fnEntriesOfFoldsAnyPrefix", fn := fun _ => fun
  | [d1, d2] => { results := [.lit (.bool true)], args := [d1, d2] }
  | _ => none }
def fnEntriesOfFoldsAnyPrefixRow : OpenClaim := { program := "qxb6000998amods", sum := "f80d844ed220a7353e325e68237a88a2bb3fb959245c4e74ebe058a889cdb67c", func := "example.com/cairn-ledger/cairn-ledger/zzlaws_internal_protocol_b1.FnEntriesOfFoldsAnyPrefix", spec := "fnEntriesOfFoldsAnyPrefix", plainKeys := false, make := .lifted ["publicsums"], apart := false }
def FnEntriesOfFoldsAnyPrefixSaid : Prop := fnEntriesOfFoldsAnyPrefixRow.holds Trym.pinned (OpenSpec.ofChange fnEntriesOfFoldsAnyPrefixSpec)

/-- ITS FALSE NEIGHBOUR: 'it returns false'. Refute it at one input. -/
def fnEntriesOfFoldsAnyPrefixWrong : ChangeSpec := { name := "fnEntriesOfFoldsAnyPrefix", fn := fun _ => fun
  | [d1, d2] => { results := [.lit (.bool false)], args := [d1, d2] }
  | _ => none }
def FnEntriesOfFoldsAnyPrefixWrongFalsely : Prop := fnEntriesOfFoldsAnyPrefixRow.holds Trym.pinned (OpenSpec.ofChange fnEntriesOfFoldsAnyPrefixWrong)

/-- 'zzlaws_internal_protocol_b1.FnEntriesOfGrowsByAppending': WHATEVER THE INPUT: true; the input reads as it did. -/
def fnEntriesOfGrowsByAppendingSpec : ChangeSpec := { name := "fnEntriesOfGrowsByAppending", fn := fun _ => fun
  | [d1, d2] => { results := [.lit (.bool true)], args := [d1, d2] }
  | _ => none }
def fnEntriesOfGrowsByAppendingRow : OpenClaim := { program := "qxb6000998amods", sum := "f80d844ed220a7353e325e68237a88a2bb3fb959245c4e74ebe058a889cdb67c", func := "example.com/cairn-ledger/cairn-ledger/zzlaws_internal_protocol_b1.FnEntriesOfGrowsByAppending", spec := "fnEntriesOfGrowsByAppending", plainKeys := false, make := .lifted ["publicsums"], apart := false }
def FnEntriesOfGrowsByAppendingSaid : Prop := fnEntriesOfGrowsByAppendingRow.holds Trym.pinned (OpenSpec.ofChange fnEntriesOfGrowsByAppendingSpec)

/-- ITS FALSE NEIGHBOUR: 'it returns false'. Refute it at one input. -/
def fnEntriesOfGrowsByAppendingWrong : ChangeSpec := { name := "fnEntriesOfGrowsByAppending", fn := fun _ => fun
  | [d1, d2] => { results := [.lit (.bool false)], args := [d1, d2] }
  | _ => none }
def FnEntriesOfGrowsByAppendingWrongFalsely : Prop := fnEntriesOfGrowsByAppendingRow.holds Trym.pinned (OpenSpec.ofChange fnEntriesOfGrowsByAppendingWrong)

end Rows
end Go.Proofs.Qxb6000998aMods
