/-
  No cell of these rows narrows 'for every input' (looked for: loops, veiled, ifaces, maps, wideKeys, modest, calm, conditions, laid).
  DERIVED. THE GIVEN ROWS OF THIS SEAT. 4 by the template 'for every input the law returns true; each argument reads behind the call as it read before'; 0 by the template 'total and deterministic' (their statements: Qxb6002785aModsTotals.lean).
  GIVEN WITH THE SEED: the statements are not yours to turn. If you find one false, say at which input.
  Laid BY PROGRAM, IN A SANDBOX (cutbox-rows.mjs): the forced cells as the released guide's own fill.sh prints them over the translation 2a6c900136fc27e3… (all of the seat's roots in one cut). By AI agents, Wed Nov 11 2026. No macro, syntax, notation, axiom, sorry.
-/
import Derived.Test.Qxb6002785aModsChecked
import GoSem.Claim
import GoSem.ClaimJoined
import GoSem.ClaimMapViews
import Derived.JoinedTies
import Derived.KernelRfl
namespace Go.Proofs.Qxb6002785aMods
/- THE CELL 'sum', in the pinned program and in every row, IS THE sha256 OF THE DUMP (.gsa) THAT Qxb6002785aModsProg.lean LOADS. Nothing in Lean hashes anything: it is a label: what it is worth is what the hold of that sum in a sandbox is worth. -/
noncomputable def Trym.pinned : Pinned := { name := "qxb6002785amods", sum := "2a6c900136fc27e386553e7cf9fecc1ec0e58d8c8a2ce5755ad4991b90a46af5", checked := Trym.checked }
namespace Rows
def none {H : Type} : Left H := { results := [], args := [] }

/-- 'zzlaws_report_b1.FnCsvFieldDecodesBack': WHATEVER THE INPUT: true; the input reads as it did. -/
def fnCsvFieldDecodesBackSpec : ChangeSpec := { name := "fnCsvFieldDecodesBack", fn := fun _ => fun
  | [d1, d2] => { results := [.lit (.bool true)], args := [d1, d2] }
  | _ => none }
def fnCsvFieldDecodesBackRow : OpenClaim := { program := "qxb6002785amods", sum := "2a6c900136fc27e386553e7cf9fecc1ec0e58d8c8a2ce5755ad4991b90a46af5", func := "example.com/lockweight/lockweight/zzlaws_report_b1.FnCsvFieldDecodesBack", spec := "fnCsvFieldDecodesBack", make := .lifted ["publicsums"], apart := false }
def FnCsvFieldDecodesBackSaid : Prop := fnCsvFieldDecodesBackRow.holds Trym.pinned (OpenSpec.ofChange fnCsvFieldDecodesBackSpec)

/-- ITS FALSE NEIGHBOUR: 'it returns false'. Refute it at one input. -/
def fnCsvFieldDecodesBackWrong : ChangeSpec := { name := "fnCsvFieldDecodesBack", fn := fun _ => fun
  | [d1, d2] => { results := [.lit (.bool false)], args := [d1, d2] }
  | _ => none }
def FnCsvFieldDecodesBackWrongFalsely : Prop := fnCsvFieldDecodesBackRow.holds Trym.pinned (OpenSpec.ofChange fnCsvFieldDecodesBackWrong)

/-- 'zzlaws_report_b1.FnCsvFieldPrefixAndLength': WHATEVER THE INPUT: true; the input reads as it did. -/
def fnCsvFieldPrefixAndLengthSpec : ChangeSpec := { name := "fnCsvFieldPrefixAndLength", fn := fun _ => fun
  | [d1, d2] => { results := [.lit (.bool true)], args := [d1, d2] }
  | _ => none }
def fnCsvFieldPrefixAndLengthRow : OpenClaim := { program := "qxb6002785amods", sum := "2a6c900136fc27e386553e7cf9fecc1ec0e58d8c8a2ce5755ad4991b90a46af5", func := "example.com/lockweight/lockweight/zzlaws_report_b1.FnCsvFieldPrefixAndLength", spec := "fnCsvFieldPrefixAndLength", make := .lifted ["publicsums"], apart := false }
def FnCsvFieldPrefixAndLengthSaid : Prop := fnCsvFieldPrefixAndLengthRow.holds Trym.pinned (OpenSpec.ofChange fnCsvFieldPrefixAndLengthSpec)

/-- ITS FALSE NEIGHBOUR: 'it returns false'. Refute it at one input. -/
def fnCsvFieldPrefixAndLengthWrong : ChangeSpec := { name := "fnCsvFieldPrefixAndLength", fn := fun _ => fun
  | [d1, d2] => { results := [.lit (.bool false)], args := [d1, d2] }
  | _ => none }
def FnCsvFieldPrefixAndLengthWrongFalsely : Prop := fnCsvFieldPrefixAndLengthRow.holds Trym.pinned (OpenSpec.ofChange fnCsvFieldPrefixAndLengthWrong)

/-- 'zzlaws_report_b1.FnCsvRowDecodesBack': WHATEVER THE INPUT: true; the input reads as it did. -/
def fnCsvRowDecodesBackSpec : ChangeSpec := { name := "fnCsvRowDecodesBack", fn := fun _ => fun
  | [d1, d2] => { results := [.lit (.bool true)], args := [d1, d2] }
  | _ => none }
def fnCsvRowDecodesBackRow : OpenClaim := { program := "qxb6002785amods", sum := "2a6c900136fc27e386553e7cf9fecc1ec0e58d8c8a2ce5755ad4991b90a46af5", func := "example.com/lockweight/lockweight/zzlaws_report_b1.FnCsvRowDecodesBack", spec := "fnCsvRowDecodesBack", make := .lifted ["publicsums"], apart := false }
def FnCsvRowDecodesBackSaid : Prop := fnCsvRowDecodesBackRow.holds Trym.pinned (OpenSpec.ofChange fnCsvRowDecodesBackSpec)

/-- ITS FALSE NEIGHBOUR: 'it returns false'. Refute it at one input. -/
def fnCsvRowDecodesBackWrong : ChangeSpec := { name := "fnCsvRowDecodesBack", fn := fun _ => fun
  | [d1, d2] => { results := [.lit (.bool false)], args := [d1, d2] }
  | _ => none }
def FnCsvRowDecodesBackWrongFalsely : Prop := fnCsvRowDecodesBackRow.holds Trym.pinned (OpenSpec.ofChange fnCsvRowDecodesBackWrong)

/-- 'zzlaws_report_b1.FnCsvRowSplits': WHATEVER THE INPUT: true; the input reads as it did. -/
def fnCsvRowSplitsSpec : ChangeSpec := { name := "fnCsvRowSplits", fn := fun _ => fun
  | [d1, d2, d3] => { results := [.lit (.bool true)], args := [d1, d2, d3] }
  | _ => none }
def fnCsvRowSplitsRow : OpenClaim := { program := "qxb6002785amods", sum := "2a6c900136fc27e386553e7cf9fecc1ec0e58d8c8a2ce5755ad4991b90a46af5", func := "example.com/lockweight/lockweight/zzlaws_report_b1.FnCsvRowSplits", spec := "fnCsvRowSplits", make := .lifted ["publicsums"], apart := false }
def FnCsvRowSplitsSaid : Prop := fnCsvRowSplitsRow.holds Trym.pinned (OpenSpec.ofChange fnCsvRowSplitsSpec)

/-- ITS FALSE NEIGHBOUR: 'it returns false'. Refute it at one input. -/
def fnCsvRowSplitsWrong : ChangeSpec := { name := "fnCsvRowSplits", fn := fun _ => fun
  | [d1, d2, d3] => { results := [.lit (.bool false)], args := [d1, d2, d3] }
  | _ => none }
def FnCsvRowSplitsWrongFalsely : Prop := fnCsvRowSplitsRow.holds Trym.pinned (OpenSpec.ofChange fnCsvRowSplitsWrong)

end Rows
end Go.Proofs.Qxb6002785aMods
