/-
  No cell of these rows narrows 'for every input' (looked for: loops, veiled, ifaces, maps, wideKeys, modest, calm, conditions, laid).
  DERIVED. THE GIVEN ROWS OF THIS SEAT. 2 by the template 'for every input the law returns true; each argument reads behind the call as it read before'; 0 by the template 'total and deterministic' (their statements: Qxb6612507aModsTotals.lean).
  GIVEN WITH THE SEED: the statements are not yours to turn. If you find one false, say at which input.
  Laid BY PROGRAM, IN A SANDBOX (cutbox-rows.mjs): the forced cells as the released guide's own fill.sh prints them over the translation 9b8b30715ac842ce… (all of the seat's roots in one cut). By AI agents, Wed Nov 11 2026. No macro, syntax, notation, axiom, sorry.
-/
import Derived.Test.Qxb6612507aModsChecked
import GoSem.Claim
import GoSem.ClaimJoined
import GoSem.ClaimMapViews
import Derived.JoinedTies
import Derived.KernelRfl
namespace Go.Proofs.Qxb6612507aMods
/- THE CELL 'sum', in the pinned program and in every row, IS THE sha256 OF THE DUMP (.gsa) THAT Qxb6612507aModsProg.lean LOADS. Nothing in Lean hashes anything: it is a label: what it is worth is what the hold of that sum in a sandbox is worth. -/
noncomputable def Trym.pinned : Pinned := { name := "qxb6612507amods", sum := "9b8b30715ac842ceb350e854f305fc22bff209a7dc75f40a459fd1f4dd2acbb5", checked := Trym.checked }
namespace Rows
def none {H : Type} : Left H := { results := [], args := [] }

/-- 'zzlaws_internal_mysql_binlog_b1.FnFractionLengthIsBytesForTwoDigitsEach': WHATEVER THE INPUT: true; the input reads as it did. -/
def fnFractionLengthIsBytesForTwoDigitsEachSpec : ChangeSpec := { name := "fnFractionLengthIsBytesForTwoDigitsEach", fn := fun _ => fun
  | [d] => { results := [.lit (.bool true)], args := [d] }
  | _ => none }
def fnFractionLengthIsBytesForTwoDigitsEachRow : OpenClaim := { program := "qxb6612507amods", sum := "9b8b30715ac842ceb350e854f305fc22bff209a7dc75f40a459fd1f4dd2acbb5", func := "example.com/rowproof/rowproof/zzlaws_internal_mysql_binlog_b1.FnFractionLengthIsBytesForTwoDigitsEach", spec := "fnFractionLengthIsBytesForTwoDigitsEach", make := .lifted ["publicsums"], apart := false }
def FnFractionLengthIsBytesForTwoDigitsEachSaid : Prop := fnFractionLengthIsBytesForTwoDigitsEachRow.holds Trym.pinned (OpenSpec.ofChange fnFractionLengthIsBytesForTwoDigitsEachSpec)

/-- ITS FALSE NEIGHBOUR: 'it returns false'. Refute it at one input. -/
def fnFractionLengthIsBytesForTwoDigitsEachWrong : ChangeSpec := { name := "fnFractionLengthIsBytesForTwoDigitsEach", fn := fun _ => fun
  | [d] => { results := [.lit (.bool false)], args := [d] }
  | _ => none }
def FnFractionLengthIsBytesForTwoDigitsEachWrongFalsely : Prop := fnFractionLengthIsBytesForTwoDigitsEachRow.holds Trym.pinned (OpenSpec.ofChange fnFractionLengthIsBytesForTwoDigitsEachWrong)

/-- 'zzlaws_internal_mysql_binlog_b1.FnFractionLengthTwoMoreDigitsOneMoreByte': WHATEVER THE INPUT: true; the input reads as it did. -/
def fnFractionLengthTwoMoreDigitsOneMoreByteSpec : ChangeSpec := { name := "fnFractionLengthTwoMoreDigitsOneMoreByte", fn := fun _ => fun
  | [d] => { results := [.lit (.bool true)], args := [d] }
  | _ => none }
def fnFractionLengthTwoMoreDigitsOneMoreByteRow : OpenClaim := { program := "qxb6612507amods", sum := "9b8b30715ac842ceb350e854f305fc22bff209a7dc75f40a459fd1f4dd2acbb5", func := "example.com/rowproof/rowproof/zzlaws_internal_mysql_binlog_b1.FnFractionLengthTwoMoreDigitsOneMoreByte", spec := "fnFractionLengthTwoMoreDigitsOneMoreByte", make := .lifted ["publicsums"], apart := false }
def FnFractionLengthTwoMoreDigitsOneMoreByteSaid : Prop := fnFractionLengthTwoMoreDigitsOneMoreByteRow.holds Trym.pinned (OpenSpec.ofChange fnFractionLengthTwoMoreDigitsOneMoreByteSpec)

/-- ITS FALSE NEIGHBOUR: 'it returns false'. Refute it at one input. -/
def fnFractionLengthTwoMoreDigitsOneMoreByteWrong : ChangeSpec := { name := "fnFractionLengthTwoMoreDigitsOneMoreByte", fn := fun _ => fun
  | [d] => { results := [.lit (.bool false)], args := [d] }
  | _ => none }
def FnFractionLengthTwoMoreDigitsOneMoreByteWrongFalsely : Prop := fnFractionLengthTwoMoreDigitsOneMoreByteRow.holds Trym.pinned (OpenSpec.ofChange fnFractionLengthTwoMoreDigitsOneMoreByteWrong)

end Rows
end Go.Proofs.Qxb6612507aMods
