/-
  No cell of these rows narrows 'for every input' (looked for: loops, veiled, ifaces, maps, wideKeys, modest, calm, conditions, laid).
  DERIVED. THE GIVEN ROWS OF THIS SEAT. 3 by the template 'for every input the law returns true; each argument reads behind the call as it read before'; 0 by the template 'total and deterministic' (their statements: Qxb6605173aModsTotals.lean).
  GIVEN WITH THE SEED: the statements are not yours to turn. If you find one false, say at which input.
  Laid BY PROGRAM, IN A SANDBOX (cutbox-rows.mjs): the forced cells as the released guide's own fill.sh prints them over the translation b20555352c51645c… (all of the seat's roots in one cut). By AI agents, Wed Nov 11 2026. No macro, syntax, notation, axiom, sorry.
-/
import Derived.Test.Qxb6605173aModsChecked
import GoSem.Claim
import GoSem.ClaimJoined
import GoSem.ClaimMapViews
import Derived.JoinedTies
import Derived.KernelRfl
namespace Go.Proofs.Qxb6605173aMods
/- THE CELL 'sum', in the pinned program and in every row, IS THE sha256 OF THE DUMP (.gsa) THAT Qxb6605173aModsProg.lean LOADS. Nothing in Lean hashes anything: it is a label: what it is worth is what the hold of that sum in a sandbox is worth. -/
noncomputable def Trym.pinned : Pinned := { name := "qxb6605173amods", sum := "b20555352c51645c02c5c3303a2821133f8a1e29eeee2a8857926c9213f1e672", checked := Trym.checked }
namespace Rows
def none {H : Type} : Left H := { results := [], args := [] }

/-- 'zzlaws_root_b1.FnSplitByPathGroupsAreFilters': WHATEVER THE INPUT: true; the input reads as it did. -/
def fnSplitByPathGroupsAreFiltersSpec : ChangeSpec := { name := "fnSplitByPathGroupsAreFilters", fn := fun _ => fun
  | [d] => { results := [.lit (.bool true)], args := [d] }
  | _ => none }
def fnSplitByPathGroupsAreFiltersRow : OpenClaim := { program := "qxb6605173amods", sum := "b20555352c51645c02c5c3303a2821133f8a1e29eeee2a8857926c9213f1e672", func := "example.com/counterpoise/counterpoise/zzlaws_root_b1.FnSplitByPathGroupsAreFilters", spec := "fnSplitByPathGroupsAreFilters", make := .lifted ["publicsums"], apart := false }
def FnSplitByPathGroupsAreFiltersSaid : Prop := fnSplitByPathGroupsAreFiltersRow.holds Trym.pinned (OpenSpec.ofChange fnSplitByPathGroupsAreFiltersSpec)

/-- ITS FALSE NEIGHBOUR: 'it returns false'. Refute it at one input. -/
def fnSplitByPathGroupsAreFiltersWrong : ChangeSpec := { name := "fnSplitByPathGroupsAreFilters", fn := fun _ => fun
  | [d] => { results := [.lit (.bool false)], args := [d] }
  | _ => none }
def FnSplitByPathGroupsAreFiltersWrongFalsely : Prop := fnSplitByPathGroupsAreFiltersRow.holds Trym.pinned (OpenSpec.ofChange fnSplitByPathGroupsAreFiltersWrong)

/-- 'zzlaws_root_b1.FnRingOrderNextByFirstAppearance': WHATEVER THE INPUT: true; the input reads as it did. -/
def fnRingOrderNextByFirstAppearanceSpec : ChangeSpec := { name := "fnRingOrderNextByFirstAppearance", fn := fun _ => fun
  | [d1, d2] => { results := [.lit (.bool true)], args := [d1, d2] }
  | _ => none }
def fnRingOrderNextByFirstAppearanceRow : OpenClaim := { program := "qxb6605173amods", sum := "b20555352c51645c02c5c3303a2821133f8a1e29eeee2a8857926c9213f1e672", func := "example.com/counterpoise/counterpoise/zzlaws_root_b1.FnRingOrderNextByFirstAppearance", spec := "fnRingOrderNextByFirstAppearance", make := .lifted ["publicsums"], apart := false }
def FnRingOrderNextByFirstAppearanceSaid : Prop := fnRingOrderNextByFirstAppearanceRow.holds Trym.pinned (OpenSpec.ofChange fnRingOrderNextByFirstAppearanceSpec)

/-- ITS FALSE NEIGHBOUR: 'it returns false'. Refute it at one input. -/
def fnRingOrderNextByFirstAppearanceWrong : ChangeSpec := { name := "fnRingOrderNextByFirstAppearance", fn := fun _ => fun
  | [d1, d2] => { results := [.lit (.bool false)], args := [d1, d2] }
  | _ => none }
def FnRingOrderNextByFirstAppearanceWrongFalsely : Prop := fnRingOrderNextByFirstAppearanceRow.holds Trym.pinned (OpenSpec.ofChange fnRingOrderNextByFirstAppearanceWrong)

/-- 'zzlaws_root_b1.FnRingOrderIsOneCycle': WHATEVER THE INPUT: true; the input reads as it did. -/
def fnRingOrderIsOneCycleSpec : ChangeSpec := { name := "fnRingOrderIsOneCycle", fn := fun _ => fun
  | [d1, d2] => { results := [.lit (.bool true)], args := [d1, d2] }
  | _ => none }
def fnRingOrderIsOneCycleRow : OpenClaim := { program := "qxb6605173amods", sum := "b20555352c51645c02c5c3303a2821133f8a1e29eeee2a8857926c9213f1e672", func := "example.com/counterpoise/counterpoise/zzlaws_root_b1.FnRingOrderIsOneCycle", spec := "fnRingOrderIsOneCycle", make := .lifted ["publicsums"], apart := false }
def FnRingOrderIsOneCycleSaid : Prop := fnRingOrderIsOneCycleRow.holds Trym.pinned (OpenSpec.ofChange fnRingOrderIsOneCycleSpec)

/-- ITS FALSE NEIGHBOUR: 'it returns false'. Refute it at one input. -/
def fnRingOrderIsOneCycleWrong : ChangeSpec := { name := "fnRingOrderIsOneCycle", fn := fun _ => fun
  | [d1, d2] => { results := [.lit (.bool false)], args := [d1, d2] }
  | _ => none }
def FnRingOrderIsOneCycleWrongFalsely : Prop := fnRingOrderIsOneCycleRow.holds Trym.pinned (OpenSpec.ofChange fnRingOrderIsOneCycleWrong)

end Rows
end Go.Proofs.Qxb6605173aMods
