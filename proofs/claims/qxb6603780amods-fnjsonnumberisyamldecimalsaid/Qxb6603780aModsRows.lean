/-
  No cell of these rows narrows 'for every input' (looked for: loops, veiled, ifaces, maps, wideKeys, modest, calm, conditions, laid).
  DERIVED. THE GIVEN ROWS OF THIS SEAT. 4 by the template 'for every input the law returns true; each argument reads behind the call as it read before'; 0 by the template 'total and deterministic' (their statements: Qxb6603780aModsTotals.lean).
  GIVEN WITH THE SEED: the statements are not yours to turn. If you find one false, say at which input.
  Laid BY PROGRAM, IN A SANDBOX (cutbox-rows.mjs): the forced cells as the released guide's own fill.sh prints them over the translation 15ab559aba0d68ae… (all of the seat's roots in one cut). By AI agents, Wed Nov 11 2026. No macro, syntax, notation, axiom, sorry.
-/
import Derived.Test.Qxb6603780aModsChecked
import GoSem.Claim
import GoSem.ClaimJoined
import GoSem.ClaimMapViews
import Derived.JoinedTies
import Derived.KernelRfl
namespace Go.Proofs.Qxb6603780aMods
/- THE CELL 'sum', in the pinned program and in every row, IS THE sha256 OF THE DUMP (.gsa) THAT Qxb6603780aModsProg.lean LOADS. Nothing in Lean hashes anything: it is a label: what it is worth is what the hold of that sum in a sandbox is worth. -/
noncomputable def Trym.pinned : Pinned := { name := "qxb6603780amods", sum := "15ab559aba0d68ae58916333cf7109f6dd2bfce19ee2fc325c8235bd23e0eed0", checked := Trym.checked }
namespace Rows
def none {H : Type} : Left H := { results := [], args := [] }

/-- 'zzlaws_snapshot_b1.FnIsDecimalMatchesAutomaton': WHATEVER THE INPUT: true; the input reads as it did. -/
def fnIsDecimalMatchesAutomatonSpec : ChangeSpec := { name := "fnIsDecimalMatchesAutomaton", fn := fun _ => fun
  | [d] => { results := [.lit (.bool true)], args := [d] }
  | _ => none }
def fnIsDecimalMatchesAutomatonRow : OpenClaim := { program := "qxb6603780amods", sum := "15ab559aba0d68ae58916333cf7109f6dd2bfce19ee2fc325c8235bd23e0eed0", func := "example.com/ballast/ballast/zzlaws_snapshot_b1.FnIsDecimalMatchesAutomaton", spec := "fnIsDecimalMatchesAutomaton", make := .lifted ["publicsums"], apart := false }
def FnIsDecimalMatchesAutomatonSaid : Prop := fnIsDecimalMatchesAutomatonRow.holds Trym.pinned (OpenSpec.ofChange fnIsDecimalMatchesAutomatonSpec)

/-- ITS FALSE NEIGHBOUR: 'it returns false'. Refute it at one input. -/
def fnIsDecimalMatchesAutomatonWrong : ChangeSpec := { name := "fnIsDecimalMatchesAutomaton", fn := fun _ => fun
  | [d] => { results := [.lit (.bool false)], args := [d] }
  | _ => none }
def FnIsDecimalMatchesAutomatonWrongFalsely : Prop := fnIsDecimalMatchesAutomatonRow.holds Trym.pinned (OpenSpec.ofChange fnIsDecimalMatchesAutomatonWrong)

/-- 'zzlaws_snapshot_b1.FnJSONNumberIsYAMLDecimal': WHATEVER THE INPUT: true; the input reads as it did. -/
def fnJSONNumberIsYAMLDecimalSpec : ChangeSpec := { name := "fnJSONNumberIsYAMLDecimal", fn := fun _ => fun
  | [d] => { results := [.lit (.bool true)], args := [d] }
  | _ => none }
def fnJSONNumberIsYAMLDecimalRow : OpenClaim := { program := "qxb6603780amods", sum := "15ab559aba0d68ae58916333cf7109f6dd2bfce19ee2fc325c8235bd23e0eed0", func := "example.com/ballast/ballast/zzlaws_snapshot_b1.FnJSONNumberIsYAMLDecimal", spec := "fnJSONNumberIsYAMLDecimal", make := .lifted ["publicsums"], apart := false }
def FnJSONNumberIsYAMLDecimalSaid : Prop := fnJSONNumberIsYAMLDecimalRow.holds Trym.pinned (OpenSpec.ofChange fnJSONNumberIsYAMLDecimalSpec)

/-- ITS FALSE NEIGHBOUR: 'it returns false'. Refute it at one input. -/
def fnJSONNumberIsYAMLDecimalWrong : ChangeSpec := { name := "fnJSONNumberIsYAMLDecimal", fn := fun _ => fun
  | [d] => { results := [.lit (.bool false)], args := [d] }
  | _ => none }
def FnJSONNumberIsYAMLDecimalWrongFalsely : Prop := fnJSONNumberIsYAMLDecimalRow.holds Trym.pinned (OpenSpec.ofChange fnJSONNumberIsYAMLDecimalWrong)

/-- 'zzlaws_snapshot_b1.FnNumberEndMatchesAutomaton': WHATEVER THE INPUT: true; the input reads as it did. -/
def fnNumberEndMatchesAutomatonSpec : ChangeSpec := { name := "fnNumberEndMatchesAutomaton", fn := fun _ => fun
  | [d1, d2, d3] => { results := [.lit (.bool true)], args := [d1, d2, d3] }
  | _ => none }
def fnNumberEndMatchesAutomatonRow : OpenClaim := { program := "qxb6603780amods", sum := "15ab559aba0d68ae58916333cf7109f6dd2bfce19ee2fc325c8235bd23e0eed0", func := "example.com/ballast/ballast/zzlaws_snapshot_b1.FnNumberEndMatchesAutomaton", spec := "fnNumberEndMatchesAutomaton", make := .lifted ["publicsums"], apart := false }
def FnNumberEndMatchesAutomatonSaid : Prop := fnNumberEndMatchesAutomatonRow.holds Trym.pinned (OpenSpec.ofChange fnNumberEndMatchesAutomatonSpec)

/-- ITS FALSE NEIGHBOUR: 'it returns false'. Refute it at one input. -/
def fnNumberEndMatchesAutomatonWrong : ChangeSpec := { name := "fnNumberEndMatchesAutomaton", fn := fun _ => fun
  | [d1, d2, d3] => { results := [.lit (.bool false)], args := [d1, d2, d3] }
  | _ => none }
def FnNumberEndMatchesAutomatonWrongFalsely : Prop := fnNumberEndMatchesAutomatonRow.holds Trym.pinned (OpenSpec.ofChange fnNumberEndMatchesAutomatonWrong)

/-- 'zzlaws_snapshot_b1.FnLiteralEndMatchesLongestWord': WHATEVER THE INPUT: true; the input reads as it did. -/
def fnLiteralEndMatchesLongestWordSpec : ChangeSpec := { name := "fnLiteralEndMatchesLongestWord", fn := fun _ => fun
  | [d1, d2] => { results := [.lit (.bool true)], args := [d1, d2] }
  | _ => none }
def fnLiteralEndMatchesLongestWordRow : OpenClaim := { program := "qxb6603780amods", sum := "15ab559aba0d68ae58916333cf7109f6dd2bfce19ee2fc325c8235bd23e0eed0", func := "example.com/ballast/ballast/zzlaws_snapshot_b1.FnLiteralEndMatchesLongestWord", spec := "fnLiteralEndMatchesLongestWord", make := .lifted ["publicsums"], apart := false }
def FnLiteralEndMatchesLongestWordSaid : Prop := fnLiteralEndMatchesLongestWordRow.holds Trym.pinned (OpenSpec.ofChange fnLiteralEndMatchesLongestWordSpec)

/-- ITS FALSE NEIGHBOUR: 'it returns false'. Refute it at one input. -/
def fnLiteralEndMatchesLongestWordWrong : ChangeSpec := { name := "fnLiteralEndMatchesLongestWord", fn := fun _ => fun
  | [d1, d2] => { results := [.lit (.bool false)], args := [d1, d2] }
  | _ => none }
def FnLiteralEndMatchesLongestWordWrongFalsely : Prop := fnLiteralEndMatchesLongestWordRow.holds Trym.pinned (OpenSpec.ofChange fnLiteralEndMatchesLongestWordWrong)

end Rows
end Go.Proofs.Qxb6603780aMods
