/-
  No cell of these rows narrows 'for every input' (looked for: loops, veiled, ifaces, maps, wideKeys, modest, calm, conditions, laid).
  DERIVED. THE GIVEN ROWS OF THIS SEAT. 5 by the template 'for every input the law returns true; each argument reads behind the call as it read before'; 0 by the template 'total and deterministic' (their statements: Qxb6001373aModsTotals.lean).
  GIVEN WITH THE SEED: the statements are not yours to turn. If you find one false, say at which input.
  Laid BY PROGRAM, IN A SANDBOX (cutbox-rows.mjs): the forced cells as the released guide's own fill.sh prints them over the translation c6c4bb10c3d4adf3… (all of the seat's roots in one cut). By AI agents, Wed Nov 11 2026. No macro, syntax, notation, axiom, sorry.
-/
import Derived.Test.Qxb6001373aModsChecked
import GoSem.Claim
import GoSem.ClaimJoined
import GoSem.ClaimMapViews
import Derived.JoinedTies
import Derived.KernelRfl
namespace Go.Proofs.Qxb6001373aMods
/- THE CELL 'sum', in the pinned program and in every row, IS THE sha256 OF THE DUMP (.gsa) THAT Qxb6001373aModsProg.lean LOADS. Nothing in Lean hashes anything: it is a label: what it is worth is what the hold of that sum in a sandbox is worth. -/
noncomputable def Trym.pinned : Pinned := { name := "qxb6001373amods", sum := "c6c4bb10c3d4adf315e8e636e45f08249485ed7491915b2ea74e4d55d4fc7d3c", checked := Trym.checked }
namespace Rows
def none {H : Type} : Left H := { results := [], args := [] }

/-- 'zzlaws_root_b1.FnAdmitFlipsOnlyWhatItAdmits': WHATEVER THE INPUT: true; the input reads as it did. -/
def fnAdmitFlipsOnlyWhatItAdmitsSpec : ChangeSpec := { name := "fnAdmitFlipsOnlyWhatItAdmits", fn := fun _ => fun
  | [d1, d2] => { results := [.lit (.bool true)], args := [d1, d2] }
  | _ => none }
def fnAdmitFlipsOnlyWhatItAdmitsRow : OpenClaim := { program := "qxb6001373amods", sum := "c6c4bb10c3d4adf315e8e636e45f08249485ed7491915b2ea74e4d55d4fc7d3c", func := "example.com/tidemark/tidemark/zzlaws_root_b1.FnAdmitFlipsOnlyWhatItAdmits", spec := "fnAdmitFlipsOnlyWhatItAdmits", make := .lifted ["publicsums"], apart := false }
def FnAdmitFlipsOnlyWhatItAdmitsSaid : Prop := fnAdmitFlipsOnlyWhatItAdmitsRow.holds Trym.pinned (OpenSpec.ofChange fnAdmitFlipsOnlyWhatItAdmitsSpec)

/-- ITS FALSE NEIGHBOUR: 'it returns false'. Refute it at one input. -/
def fnAdmitFlipsOnlyWhatItAdmitsWrong : ChangeSpec := { name := "fnAdmitFlipsOnlyWhatItAdmits", fn := fun _ => fun
  | [d1, d2] => { results := [.lit (.bool false)], args := [d1, d2] }
  | _ => none }
def FnAdmitFlipsOnlyWhatItAdmitsWrongFalsely : Prop := fnAdmitFlipsOnlyWhatItAdmitsRow.holds Trym.pinned (OpenSpec.ofChange fnAdmitFlipsOnlyWhatItAdmitsWrong)

/-- 'zzlaws_root_b1.FnAdmitKeepsClaimedNeedWithinMax': WHATEVER THE INPUT: true; the input reads as it did. -/
def fnAdmitKeepsClaimedNeedWithinMaxSpec : ChangeSpec := { name := "fnAdmitKeepsClaimedNeedWithinMax", fn := fun _ => fun
  | [d1, d2] => { results := [.lit (.bool true)], args := [d1, d2] }
  | _ => none }
def fnAdmitKeepsClaimedNeedWithinMaxRow : OpenClaim := { program := "qxb6001373amods", sum := "c6c4bb10c3d4adf315e8e636e45f08249485ed7491915b2ea74e4d55d4fc7d3c", func := "example.com/tidemark/tidemark/zzlaws_root_b1.FnAdmitKeepsClaimedNeedWithinMax", spec := "fnAdmitKeepsClaimedNeedWithinMax", make := .lifted ["publicsums"], apart := false }
def FnAdmitKeepsClaimedNeedWithinMaxSaid : Prop := fnAdmitKeepsClaimedNeedWithinMaxRow.holds Trym.pinned (OpenSpec.ofChange fnAdmitKeepsClaimedNeedWithinMaxSpec)

/-- ITS FALSE NEIGHBOUR: 'it returns false'. Refute it at one input. -/
def fnAdmitKeepsClaimedNeedWithinMaxWrong : ChangeSpec := { name := "fnAdmitKeepsClaimedNeedWithinMax", fn := fun _ => fun
  | [d1, d2] => { results := [.lit (.bool false)], args := [d1, d2] }
  | _ => none }
def FnAdmitKeepsClaimedNeedWithinMaxWrongFalsely : Prop := fnAdmitKeepsClaimedNeedWithinMaxRow.holds Trym.pinned (OpenSpec.ofChange fnAdmitKeepsClaimedNeedWithinMaxWrong)

/-- 'zzlaws_root_b1.FnAdmitTwiceAdmitsNoMore': WHATEVER THE INPUT: true; the input reads as it did. -/
def fnAdmitTwiceAdmitsNoMoreSpec : ChangeSpec := { name := "fnAdmitTwiceAdmitsNoMore", fn := fun _ => fun
  | [d1, d2] => { results := [.lit (.bool true)], args := [d1, d2] }
  | _ => none }
def fnAdmitTwiceAdmitsNoMoreRow : OpenClaim := { program := "qxb6001373amods", sum := "c6c4bb10c3d4adf315e8e636e45f08249485ed7491915b2ea74e4d55d4fc7d3c", func := "example.com/tidemark/tidemark/zzlaws_root_b1.FnAdmitTwiceAdmitsNoMore", spec := "fnAdmitTwiceAdmitsNoMore", make := .lifted ["publicsums"], apart := false }
def FnAdmitTwiceAdmitsNoMoreSaid : Prop := fnAdmitTwiceAdmitsNoMoreRow.holds Trym.pinned (OpenSpec.ofChange fnAdmitTwiceAdmitsNoMoreSpec)

/-- ITS FALSE NEIGHBOUR: 'it returns false'. Refute it at one input. -/
def fnAdmitTwiceAdmitsNoMoreWrong : ChangeSpec := { name := "fnAdmitTwiceAdmitsNoMore", fn := fun _ => fun
  | [d1, d2] => { results := [.lit (.bool false)], args := [d1, d2] }
  | _ => none }
def FnAdmitTwiceAdmitsNoMoreWrongFalsely : Prop := fnAdmitTwiceAdmitsNoMoreRow.holds Trym.pinned (OpenSpec.ofChange fnAdmitTwiceAdmitsNoMoreWrong)

/-- 'zzlaws_root_b1.FnMakeRoomKeepsLedgerAndWord': WHATEVER THE INPUT: true; the input reads as it did. -/
def fnMakeRoomKeepsLedgerAndWordSpec : ChangeSpec := { name := "fnMakeRoomKeepsLedgerAndWord", fn := fun _ => fun
  | [d1, d2, d3, d4] => { results := [.lit (.bool true)], args := [d1, d2, d3, d4] }
  | _ => none }
def fnMakeRoomKeepsLedgerAndWordRow : OpenClaim := { program := "qxb6001373amods", sum := "c6c4bb10c3d4adf315e8e636e45f08249485ed7491915b2ea74e4d55d4fc7d3c", func := "example.com/tidemark/tidemark/zzlaws_root_b1.FnMakeRoomKeepsLedgerAndWord", spec := "fnMakeRoomKeepsLedgerAndWord", make := .lifted ["publicsums"], apart := false }
def FnMakeRoomKeepsLedgerAndWordSaid : Prop := fnMakeRoomKeepsLedgerAndWordRow.holds Trym.pinned (OpenSpec.ofChange fnMakeRoomKeepsLedgerAndWordSpec)

/-- ITS FALSE NEIGHBOUR: 'it returns false'. Refute it at one input. -/
def fnMakeRoomKeepsLedgerAndWordWrong : ChangeSpec := { name := "fnMakeRoomKeepsLedgerAndWord", fn := fun _ => fun
  | [d1, d2, d3, d4] => { results := [.lit (.bool false)], args := [d1, d2, d3, d4] }
  | _ => none }
def FnMakeRoomKeepsLedgerAndWordWrongFalsely : Prop := fnMakeRoomKeepsLedgerAndWordRow.holds Trym.pinned (OpenSpec.ofChange fnMakeRoomKeepsLedgerAndWordWrong)

/-- 'zzlaws_root_b1.FnMakeRoomTouchesOnlyBehindAndSparesClaimers': WHATEVER THE INPUT: true; the input reads as it did. -/
def fnMakeRoomTouchesOnlyBehindAndSparesClaimersSpec : ChangeSpec := { name := "fnMakeRoomTouchesOnlyBehindAndSparesClaimers", fn := fun _ => fun
  | [d1, d2, d3, d4] => { results := [.lit (.bool true)], args := [d1, d2, d3, d4] }
  | _ => none }
def fnMakeRoomTouchesOnlyBehindAndSparesClaimersRow : OpenClaim := { program := "qxb6001373amods", sum := "c6c4bb10c3d4adf315e8e636e45f08249485ed7491915b2ea74e4d55d4fc7d3c", func := "example.com/tidemark/tidemark/zzlaws_root_b1.FnMakeRoomTouchesOnlyBehindAndSparesClaimers", spec := "fnMakeRoomTouchesOnlyBehindAndSparesClaimers", make := .lifted ["publicsums"], apart := false }
def FnMakeRoomTouchesOnlyBehindAndSparesClaimersSaid : Prop := fnMakeRoomTouchesOnlyBehindAndSparesClaimersRow.holds Trym.pinned (OpenSpec.ofChange fnMakeRoomTouchesOnlyBehindAndSparesClaimersSpec)

/-- ITS FALSE NEIGHBOUR: 'it returns false'. Refute it at one input. -/
def fnMakeRoomTouchesOnlyBehindAndSparesClaimersWrong : ChangeSpec := { name := "fnMakeRoomTouchesOnlyBehindAndSparesClaimers", fn := fun _ => fun
  | [d1, d2, d3, d4] => { results := [.lit (.bool false)], args := [d1, d2, d3, d4] }
  | _ => none }
def FnMakeRoomTouchesOnlyBehindAndSparesClaimersWrongFalsely : Prop := fnMakeRoomTouchesOnlyBehindAndSparesClaimersRow.holds Trym.pinned (OpenSpec.ofChange fnMakeRoomTouchesOnlyBehindAndSparesClaimersWrong)

end Rows
end Go.Proofs.Qxb6001373aMods
