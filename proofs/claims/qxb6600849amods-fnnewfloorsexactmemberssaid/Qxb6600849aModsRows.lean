/-
  No cell of these rows narrows 'for every input' (looked for: loops, veiled, ifaces, maps, wideKeys, modest, calm, conditions, laid).
  DERIVED. THE GIVEN ROWS OF THIS SEAT. 4 by the template 'for every input the law returns true; each argument reads behind the call as it read before'; 0 by the template 'total and deterministic' (their statements: Qxb6600849aModsTotals.lean).
  GIVEN WITH THE SEED: the statements are not yours to turn. If you find one false, say at which input.
  Laid BY PROGRAM, IN A SANDBOX (cutbox-rows.mjs): the forced cells as the released guide's own fill.sh prints them over the translation ec2005d2d5015d32… (all of the seat's roots in one cut). By AI agents, Wed Nov 11 2026. No macro, syntax, notation, axiom, sorry.
-/
import Derived.Test.Qxb6600849aModsChecked
import GoSem.Claim
import GoSem.ClaimJoined
import GoSem.ClaimMapViews
import Derived.JoinedTies
import Derived.KernelRfl
namespace Go.Proofs.Qxb6600849aMods
/- THE CELL 'sum', in the pinned program and in every row, IS THE sha256 OF THE DUMP (.gsa) THAT Qxb6600849aModsProg.lean LOADS. Nothing in Lean hashes anything: it is a label: what it is worth is what the hold of that sum in a sandbox is worth. -/
noncomputable def Trym.pinned : Pinned := { name := "qxb6600849amods", sum := "ec2005d2d5015d32a886610886f1771c534fd16290b31eaa02255385e0fbf426", checked := Trym.checked }
namespace Rows
def none {H : Type} : Left H := { results := [], args := [] }

/-- 'zzlaws_root_b1.FnAppendEscapeDecodesBack': WHATEVER THE INPUT: true; the input reads as it did. -/
def fnAppendEscapeDecodesBackSpec : ChangeSpec := { name := "fnAppendEscapeDecodesBack", fn := fun _ => fun
  | [d1, d2] => { results := [.lit (.bool true)], args := [d1, d2] }
  | _ => none }
def fnAppendEscapeDecodesBackRow : OpenClaim := { program := "qxb6600849amods", sum := "ec2005d2d5015d32a886610886f1771c534fd16290b31eaa02255385e0fbf426", func := "example.com/quorumcast/quorumcast/zzlaws_root_b1.FnAppendEscapeDecodesBack", spec := "fnAppendEscapeDecodesBack", plainKeys := false, make := .lifted ["publicsums"], apart := false }
def FnAppendEscapeDecodesBackSaid : Prop := fnAppendEscapeDecodesBackRow.holds Trym.pinned (OpenSpec.ofChange fnAppendEscapeDecodesBackSpec)

/-- ITS FALSE NEIGHBOUR: 'it returns false'. Refute it at one input. -/
def fnAppendEscapeDecodesBackWrong : ChangeSpec := { name := "fnAppendEscapeDecodesBack", fn := fun _ => fun
  | [d1, d2] => { results := [.lit (.bool false)], args := [d1, d2] }
  | _ => none }
def FnAppendEscapeDecodesBackWrongFalsely : Prop := fnAppendEscapeDecodesBackRow.holds Trym.pinned (OpenSpec.ofChange fnAppendEscapeDecodesBackWrong)

/-- 'zzlaws_root_b1.FnContradictsSymmetric': WHATEVER THE INPUT: true; the input reads as it did. -/
def fnContradictsSymmetricSpec : ChangeSpec := { name := "fnContradictsSymmetric", fn := fun _ => fun
  | [d1, d2, d3, d4, d5, d6, d7, d8] => { results := [.lit (.bool true)], args := [d1, d2, d3, d4, d5, d6, d7, d8] }
  | _ => none }
def fnContradictsSymmetricRow : OpenClaim := { program := "qxb6600849amods", sum := "ec2005d2d5015d32a886610886f1771c534fd16290b31eaa02255385e0fbf426", func := "example.com/quorumcast/quorumcast/zzlaws_root_b1.FnContradictsSymmetric", spec := "fnContradictsSymmetric", plainKeys := false, make := .lifted ["publicsums"], apart := false }
def FnContradictsSymmetricSaid : Prop := fnContradictsSymmetricRow.holds Trym.pinned (OpenSpec.ofChange fnContradictsSymmetricSpec)

/-- ITS FALSE NEIGHBOUR: 'it returns false'. Refute it at one input. -/
def fnContradictsSymmetricWrong : ChangeSpec := { name := "fnContradictsSymmetric", fn := fun _ => fun
  | [d1, d2, d3, d4, d5, d6, d7, d8] => { results := [.lit (.bool false)], args := [d1, d2, d3, d4, d5, d6, d7, d8] }
  | _ => none }
def FnContradictsSymmetricWrongFalsely : Prop := fnContradictsSymmetricRow.holds Trym.pinned (OpenSpec.ofChange fnContradictsSymmetricWrong)

/-- 'zzlaws_root_b1.FnContradictsMonotone': WHATEVER THE INPUT: true; the input reads as it did. -/
def fnContradictsMonotoneSpec : ChangeSpec := { name := "fnContradictsMonotone", fn := fun _ => fun
  | [d1, d2, d3, d4, d5, d6, d7, d8, d9] => { results := [.lit (.bool true)], args := [d1, d2, d3, d4, d5, d6, d7, d8, d9] }
  | _ => none }
def fnContradictsMonotoneRow : OpenClaim := { program := "qxb6600849amods", sum := "ec2005d2d5015d32a886610886f1771c534fd16290b31eaa02255385e0fbf426", func := "example.com/quorumcast/quorumcast/zzlaws_root_b1.FnContradictsMonotone", spec := "fnContradictsMonotone", plainKeys := false, make := .lifted ["publicsums"], apart := false }
def FnContradictsMonotoneSaid : Prop := fnContradictsMonotoneRow.holds Trym.pinned (OpenSpec.ofChange fnContradictsMonotoneSpec)

/-- ITS FALSE NEIGHBOUR: 'it returns false'. Refute it at one input. -/
def fnContradictsMonotoneWrong : ChangeSpec := { name := "fnContradictsMonotone", fn := fun _ => fun
  | [d1, d2, d3, d4, d5, d6, d7, d8, d9] => { results := [.lit (.bool false)], args := [d1, d2, d3, d4, d5, d6, d7, d8, d9] }
  | _ => none }
def FnContradictsMonotoneWrongFalsely : Prop := fnContradictsMonotoneRow.holds Trym.pinned (OpenSpec.ofChange fnContradictsMonotoneWrong)

/-- 'zzlaws_root_b1.FnNewFloorsExactMembers': WHATEVER THE INPUT: true; the input reads as it did. -/
def fnNewFloorsExactMembersSpec : ChangeSpec := { name := "fnNewFloorsExactMembers", fn := fun _ => fun
  | [d1, d2] => { results := [.lit (.bool true)], args := [d1, d2] }
  | _ => none }
def fnNewFloorsExactMembersRow : OpenClaim := { program := "qxb6600849amods", sum := "ec2005d2d5015d32a886610886f1771c534fd16290b31eaa02255385e0fbf426", func := "example.com/quorumcast/quorumcast/zzlaws_root_b1.FnNewFloorsExactMembers", spec := "fnNewFloorsExactMembers", plainKeys := false, make := .lifted ["publicsums"], apart := false }
def FnNewFloorsExactMembersSaid : Prop := fnNewFloorsExactMembersRow.holds Trym.pinned (OpenSpec.ofChange fnNewFloorsExactMembersSpec)

/-- ITS FALSE NEIGHBOUR: 'it returns false'. Refute it at one input. -/
def fnNewFloorsExactMembersWrong : ChangeSpec := { name := "fnNewFloorsExactMembers", fn := fun _ => fun
  | [d1, d2] => { results := [.lit (.bool false)], args := [d1, d2] }
  | _ => none }
def FnNewFloorsExactMembersWrongFalsely : Prop := fnNewFloorsExactMembersRow.holds Trym.pinned (OpenSpec.ofChange fnNewFloorsExactMembersWrong)

end Rows
end Go.Proofs.Qxb6600849aMods
