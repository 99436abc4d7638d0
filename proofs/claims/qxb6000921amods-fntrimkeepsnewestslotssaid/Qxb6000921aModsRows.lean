/-
  No cell of these rows narrows 'for every input' (looked for: loops, veiled, ifaces, maps, wideKeys, modest, calm, conditions, laid).
  DERIVED. THE GIVEN ROWS OF THIS SEAT. 5 by the template 'for every input the law returns true; each argument reads behind the call as it read before'; 0 by the template 'total and deterministic' (their statements: Qxb6000921aModsTotals.lean).
  GIVEN WITH THE SEED: the statements are not yours to turn. If you find one false, say at which input.
  Laid BY PROGRAM, IN A SANDBOX (cutbox-rows.mjs): the forced cells as the released guide's own fill.sh prints them over the translation 9d1101c835b412f4… (all of the seat's roots in one cut). By AI agents, Wed Nov 11 2026. No macro, syntax, notation, axiom, sorry.
-/
import Derived.Test.Qxb6000921aModsChecked
import GoSem.Claim
import GoSem.ClaimJoined
import GoSem.ClaimMapViews
import Derived.JoinedTies
import Derived.KernelRfl
namespace Go.Proofs.Qxb6000921aMods
/- THE CELL 'sum', in the pinned program and in every row, IS THE sha256 OF THE DUMP (.gsa) THAT Qxb6000921aModsProg.lean LOADS. Nothing in Lean hashes anything: it is a label: what it is worth is what the hold of that sum in a sandbox is worth. -/
noncomputable def Trym.pinned : Pinned := { name := "qxb6000921amods", sum := "9d1101c835b412f4d959e6f8d6977cb071b17a96708adf954ab738863e561f6d", checked := Trym.checked }
namespace Rows
def none {H : Type} : Left H := { results := [], args := [] }

/-- 'zzlaws_root_b1.FnBatchRunsLuaSplicesHooksVerbatim': WHATEVER THE INPUT: true; the input reads as it did. -/
def fnBatchRunsLuaSplicesHooksVerbatimSpec : ChangeSpec := { name := "fnBatchRunsLuaSplicesHooksVerbatim", fn := fun _ => fun
  | [d1, d2] => { results := [.lit (.bool true)], args := [d1, d2] }
  | _ => none }
def fnBatchRunsLuaSplicesHooksVerbatimRow : OpenClaim := { program := "qxb6000921amods", sum := "9d1101c835b412f4d959e6f8d6977cb071b17a96708adf954ab738863e561f6d", func := "example.com/dole/dole/zzlaws_root_b1.FnBatchRunsLuaSplicesHooksVerbatim", spec := "fnBatchRunsLuaSplicesHooksVerbatim", make := .lifted ["publicsums"], apart := false }
def FnBatchRunsLuaSplicesHooksVerbatimSaid : Prop := fnBatchRunsLuaSplicesHooksVerbatimRow.holds Trym.pinned (OpenSpec.ofChange fnBatchRunsLuaSplicesHooksVerbatimSpec)

/-- ITS FALSE NEIGHBOUR: 'it returns false'. Refute it at one input. -/
def fnBatchRunsLuaSplicesHooksVerbatimWrong : ChangeSpec := { name := "fnBatchRunsLuaSplicesHooksVerbatim", fn := fun _ => fun
  | [d1, d2] => { results := [.lit (.bool false)], args := [d1, d2] }
  | _ => none }
def FnBatchRunsLuaSplicesHooksVerbatimWrongFalsely : Prop := fnBatchRunsLuaSplicesHooksVerbatimRow.holds Trym.pinned (OpenSpec.ofChange fnBatchRunsLuaSplicesHooksVerbatimWrong)

/-- 'zzlaws_root_b1.FnBatchRunsLuaHookPlaces': WHATEVER THE INPUT: true; the input reads as it did. -/
def fnBatchRunsLuaHookPlacesSpec : ChangeSpec := { name := "fnBatchRunsLuaHookPlaces", fn := fun _ => fun
  | [d1, d2] => { results := [.lit (.bool true)], args := [d1, d2] }
  | _ => none }
def fnBatchRunsLuaHookPlacesRow : OpenClaim := { program := "qxb6000921amods", sum := "9d1101c835b412f4d959e6f8d6977cb071b17a96708adf954ab738863e561f6d", func := "example.com/dole/dole/zzlaws_root_b1.FnBatchRunsLuaHookPlaces", spec := "fnBatchRunsLuaHookPlaces", make := .lifted ["publicsums"], apart := false }
def FnBatchRunsLuaHookPlacesSaid : Prop := fnBatchRunsLuaHookPlacesRow.holds Trym.pinned (OpenSpec.ofChange fnBatchRunsLuaHookPlacesSpec)

/-- ITS FALSE NEIGHBOUR: 'it returns false'. Refute it at one input. -/
def fnBatchRunsLuaHookPlacesWrong : ChangeSpec := { name := "fnBatchRunsLuaHookPlaces", fn := fun _ => fun
  | [d1, d2] => { results := [.lit (.bool false)], args := [d1, d2] }
  | _ => none }
def FnBatchRunsLuaHookPlacesWrongFalsely : Prop := fnBatchRunsLuaHookPlacesRow.holds Trym.pinned (OpenSpec.ofChange fnBatchRunsLuaHookPlacesWrong)

/-- 'zzlaws_root_b1.FnTrimKeepsNewestSlots': WHATEVER THE INPUT: true; the input reads as it did. -/
def fnTrimKeepsNewestSlotsSpec : ChangeSpec := { name := "fnTrimKeepsNewestSlots", fn := fun _ => fun
  | [d1, d2, d3, d4, d5] => { results := [.lit (.bool true)], args := [d1, d2, d3, d4, d5] }
  | _ => none }
def fnTrimKeepsNewestSlotsRow : OpenClaim := { program := "qxb6000921amods", sum := "9d1101c835b412f4d959e6f8d6977cb071b17a96708adf954ab738863e561f6d", func := "example.com/dole/dole/zzlaws_root_b1.FnTrimKeepsNewestSlots", spec := "fnTrimKeepsNewestSlots", make := .lifted ["publicsums"], apart := false }
def FnTrimKeepsNewestSlotsSaid : Prop := fnTrimKeepsNewestSlotsRow.holds Trym.pinned (OpenSpec.ofChange fnTrimKeepsNewestSlotsSpec)

/-- ITS FALSE NEIGHBOUR: 'it returns false'. Refute it at one input. -/
def fnTrimKeepsNewestSlotsWrong : ChangeSpec := { name := "fnTrimKeepsNewestSlots", fn := fun _ => fun
  | [d1, d2, d3, d4, d5] => { results := [.lit (.bool false)], args := [d1, d2, d3, d4, d5] }
  | _ => none }
def FnTrimKeepsNewestSlotsWrongFalsely : Prop := fnTrimKeepsNewestSlotsRow.holds Trym.pinned (OpenSpec.ofChange fnTrimKeepsNewestSlotsWrong)

/-- 'zzlaws_root_b1.FnTrimKeepsWindowsTrue': WHATEVER THE INPUT: true; the input reads as it did. -/
def fnTrimKeepsWindowsTrueSpec : ChangeSpec := { name := "fnTrimKeepsWindowsTrue", fn := fun _ => fun
  | [d1, d2, d3, d4, d5] => { results := [.lit (.bool true)], args := [d1, d2, d3, d4, d5] }
  | _ => none }
def fnTrimKeepsWindowsTrueRow : OpenClaim := { program := "qxb6000921amods", sum := "9d1101c835b412f4d959e6f8d6977cb071b17a96708adf954ab738863e561f6d", func := "example.com/dole/dole/zzlaws_root_b1.FnTrimKeepsWindowsTrue", spec := "fnTrimKeepsWindowsTrue", make := .lifted ["publicsums"], apart := false }
def FnTrimKeepsWindowsTrueSaid : Prop := fnTrimKeepsWindowsTrueRow.holds Trym.pinned (OpenSpec.ofChange fnTrimKeepsWindowsTrueSpec)

/-- ITS FALSE NEIGHBOUR: 'it returns false'. Refute it at one input. -/
def fnTrimKeepsWindowsTrueWrong : ChangeSpec := { name := "fnTrimKeepsWindowsTrue", fn := fun _ => fun
  | [d1, d2, d3, d4, d5] => { results := [.lit (.bool false)], args := [d1, d2, d3, d4, d5] }
  | _ => none }
def FnTrimKeepsWindowsTrueWrongFalsely : Prop := fnTrimKeepsWindowsTrueRow.holds Trym.pinned (OpenSpec.ofChange fnTrimKeepsWindowsTrueWrong)

/-- 'zzlaws_root_b1.FnTrimComposes': WHATEVER THE INPUT: true; the input reads as it did. -/
def fnTrimComposesSpec : ChangeSpec := { name := "fnTrimComposes", fn := fun _ => fun
  | [d1, d2, d3, d4, d5, d6] => { results := [.lit (.bool true)], args := [d1, d2, d3, d4, d5, d6] }
  | _ => none }
def fnTrimComposesRow : OpenClaim := { program := "qxb6000921amods", sum := "9d1101c835b412f4d959e6f8d6977cb071b17a96708adf954ab738863e561f6d", func := "example.com/dole/dole/zzlaws_root_b1.FnTrimComposes", spec := "fnTrimComposes", make := .lifted ["publicsums"], apart := false }
def FnTrimComposesSaid : Prop := fnTrimComposesRow.holds Trym.pinned (OpenSpec.ofChange fnTrimComposesSpec)

/-- ITS FALSE NEIGHBOUR: 'it returns false'. Refute it at one input. -/
def fnTrimComposesWrong : ChangeSpec := { name := "fnTrimComposes", fn := fun _ => fun
  | [d1, d2, d3, d4, d5, d6] => { results := [.lit (.bool false)], args := [d1, d2, d3, d4, d5, d6] }
  | _ => none }
def FnTrimComposesWrongFalsely : Prop := fnTrimComposesRow.holds Trym.pinned (OpenSpec.ofChange fnTrimComposesWrong)

end Rows
end Go.Proofs.Qxb6000921aMods
