/-
  No cell of these rows narrows 'for every input' (looked for: loops, veiled, ifaces, maps, wideKeys, modest, calm, conditions, laid).
  DERIVED. THE GIVEN ROWS OF THIS SEAT. 3 by the template 'for every input the law returns true; each argument reads behind the call as it read before'; 0 by the template 'total and deterministic' (their statements: Qxb6000063aModsTotals.lean).
  GIVEN WITH THE SEED: the statements are not yours to turn. If you find one false, say at which input.
  Laid BY PROGRAM, IN A SANDBOX (cutbox-rows.mjs): the forced cells as the released guide's own fill.sh prints them over the translation f13286a5dda39643… (all of the seat's roots in one cut). By AI agents, Wed Nov 11 2026. No macro, syntax, notation, axiom, sorry.
-/
import Derived.Test.Qxb6000063aModsChecked
import GoSem.Claim
import GoSem.ClaimJoined
import GoSem.ClaimMapViews
import Derived.JoinedTies
import Derived.KernelRfl
namespace Go.Proofs.Qxb6000063aMods
/- THE CELL 'sum', in the pinned program and in every row, IS THE sha256 OF THE DUMP (.gsa) THAT Qxb6000063aModsProg.lean LOADS. Nothing in Lean hashes anything: it is a label: what it is worth is what the hold of that sum in a sandbox is worth. -/
noncomputable def Trym.pinned : Pinned := { name := "qxb6000063amods", sum := "f13286a5dda39643005ef37a587cad6f617492e6262bfb7847ebb5e8b849d0e5", checked := Trym.checked }
namespace Rows
def none {H : Type} : Left H := { results := [], args := [] }

/-- 'zzlaws_pkg_vrf_b1.FnCanonicalMatchesAdditionModel': WHATEVER THE INPUT: true; the input reads as it did. -/
def fnCanonicalMatchesAdditionModelSpec : ChangeSpec := { name := "fnCanonicalMatchesAdditionModel", fn := fun _ => fun
  | [d] => { results := [.lit (.bool true)], args := [d] }
  | _ => none }
def fnCanonicalMatchesAdditionModelRow : OpenClaim := { program := "qxb6000063amods", sum := "f13286a5dda39643005ef37a587cad6f617492e6262bfb7847ebb5e8b849d0e5", func := "example.com/clepsydra/clepsydra/zzlaws_pkg_vrf_b1.FnCanonicalMatchesAdditionModel", spec := "fnCanonicalMatchesAdditionModel", make := .lifted ["publicsums"], apart := false }
def FnCanonicalMatchesAdditionModelSaid : Prop := fnCanonicalMatchesAdditionModelRow.holds Trym.pinned (OpenSpec.ofChange fnCanonicalMatchesAdditionModelSpec)

/-- ITS FALSE NEIGHBOUR: 'it returns false'. Refute it at one input. -/
def fnCanonicalMatchesAdditionModelWrong : ChangeSpec := { name := "fnCanonicalMatchesAdditionModel", fn := fun _ => fun
  | [d] => { results := [.lit (.bool false)], args := [d] }
  | _ => none }
def FnCanonicalMatchesAdditionModelWrongFalsely : Prop := fnCanonicalMatchesAdditionModelRow.holds Trym.pinned (OpenSpec.ofChange fnCanonicalMatchesAdditionModelWrong)

/-- 'zzlaws_pkg_vrf_b1.FnCanonicalSignBitRefusesOnlyOneAndMinusOne': WHATEVER THE INPUT: true; the input reads as it did. -/
def fnCanonicalSignBitRefusesOnlyOneAndMinusOneSpec : ChangeSpec := { name := "fnCanonicalSignBitRefusesOnlyOneAndMinusOne", fn := fun _ => fun
  | [d] => { results := [.lit (.bool true)], args := [d] }
  | _ => none }
def fnCanonicalSignBitRefusesOnlyOneAndMinusOneRow : OpenClaim := { program := "qxb6000063amods", sum := "f13286a5dda39643005ef37a587cad6f617492e6262bfb7847ebb5e8b849d0e5", func := "example.com/clepsydra/clepsydra/zzlaws_pkg_vrf_b1.FnCanonicalSignBitRefusesOnlyOneAndMinusOne", spec := "fnCanonicalSignBitRefusesOnlyOneAndMinusOne", make := .lifted ["publicsums"], apart := false }
def FnCanonicalSignBitRefusesOnlyOneAndMinusOneSaid : Prop := fnCanonicalSignBitRefusesOnlyOneAndMinusOneRow.holds Trym.pinned (OpenSpec.ofChange fnCanonicalSignBitRefusesOnlyOneAndMinusOneSpec)

/-- ITS FALSE NEIGHBOUR: 'it returns false'. Refute it at one input. -/
def fnCanonicalSignBitRefusesOnlyOneAndMinusOneWrong : ChangeSpec := { name := "fnCanonicalSignBitRefusesOnlyOneAndMinusOne", fn := fun _ => fun
  | [d] => { results := [.lit (.bool false)], args := [d] }
  | _ => none }
def FnCanonicalSignBitRefusesOnlyOneAndMinusOneWrongFalsely : Prop := fnCanonicalSignBitRefusesOnlyOneAndMinusOneRow.holds Trym.pinned (OpenSpec.ofChange fnCanonicalSignBitRefusesOnlyOneAndMinusOneWrong)

/-- 'zzlaws_pkg_vrf_b1.FnCanonicalDownwardClosed': WHATEVER THE INPUT: true; the input reads as it did. -/
def fnCanonicalDownwardClosedSpec : ChangeSpec := { name := "fnCanonicalDownwardClosed", fn := fun _ => fun
  | [d1, d2] => { results := [.lit (.bool true)], args := [d1, d2] }
  | _ => none }
def fnCanonicalDownwardClosedRow : OpenClaim := { program := "qxb6000063amods", sum := "f13286a5dda39643005ef37a587cad6f617492e6262bfb7847ebb5e8b849d0e5", func := "example.com/clepsydra/clepsydra/zzlaws_pkg_vrf_b1.FnCanonicalDownwardClosed", spec := "fnCanonicalDownwardClosed", make := .lifted ["publicsums"], apart := false }
def FnCanonicalDownwardClosedSaid : Prop := fnCanonicalDownwardClosedRow.holds Trym.pinned (OpenSpec.ofChange fnCanonicalDownwardClosedSpec)

/-- ITS FALSE NEIGHBOUR: 'it returns false'. Refute it at one input. -/
def fnCanonicalDownwardClosedWrong : ChangeSpec := { name := "fnCanonicalDownwardClosed", fn := fun _ => fun
  | [d1, d2] => { results := [.lit (.bool false)], args := [d1, d2] }
  | _ => none }
def FnCanonicalDownwardClosedWrongFalsely : Prop := fnCanonicalDownwardClosedRow.holds Trym.pinned (OpenSpec.ofChange fnCanonicalDownwardClosedWrong)

end Rows
end Go.Proofs.Qxb6000063aMods
