/-
  No cell of these rows narrows 'for every input' (looked for: loops, veiled, ifaces, maps, wideKeys, modest, calm, conditions, laid).
  DERIVED. THE GIVEN ROWS OF THIS SEAT. 6 by the template 'for every input the law returns true; each argument reads behind the call as it read before'; 0 by the template 'total and deterministic' (their statements: Qxb6001434aModsTotals.lean).
  GIVEN WITH THE SEED: the statements are not yours to turn. If you find one false, say at which input.
  Laid BY PROGRAM, IN A SANDBOX (cutbox-rows.mjs): the forced cells as the released guide's own fill.sh prints them over the translation 3a3cd46443b4b2b7… (all of the seat's roots in one cut). By AI agents, Wed Nov 11 2026. No macro, syntax, notation, axiom, sorry.
-/
import Derived.Test.Qxb6001434aModsChecked
import GoSem.Claim
import GoSem.ClaimJoined
import GoSem.ClaimMapViews
import Derived.JoinedTies
import Derived.KernelRfl
namespace Go.Proofs.Qxb6001434aMods
/- THE CELL 'sum', in the pinned program and in every row, IS THE sha256 OF THE DUMP (.gsa) THAT Qxb6001434aModsProg.lean LOADS. Nothing in Lean hashes anything: it is a label: what it is worth is what the hold of that sum in a sandbox is worth. -/
noncomputable def Trym.pinned : Pinned := { name := "qxb6001434amods", sum := "3a3cd46443b4b2b770841da614c60d5f892871eafda4556a0db46c9a139ef254", checked := Trym.checked }
namespace Rows
def none {H : Type} : Left H := { results := [], args := [] }

/-- 'zzlaws_internal_daemon_b1.FnResumeAtStaysWithinWhatIsKept': WHATEVER THE INPUT: true; the input reads as it did. -/
def fnResumeAtStaysWithinWhatIsKeptSpec : ChangeSpec := { name := "fnResumeAtStaysWithinWhatIsKept", fn := fun _ => fun
  | [d1, d2, d3, d4, d5, d6] => { results := [.lit (.bool true)], args := [d1, d2, d3, d4, d5, d6] }
  | _ => none }
def fnResumeAtStaysWithinWhatIsKeptRow : OpenClaim := { program := "qxb6001434amods", sum := "3a3cd46443b4b2b770841da614c60d5f892871eafda4556a0db46c9a139ef254", func := "example.com/usher/usher/zzlaws_internal_daemon_b1.FnResumeAtStaysWithinWhatIsKept", spec := "fnResumeAtStaysWithinWhatIsKept", make := .lifted ["publicsums"], apart := false }
def FnResumeAtStaysWithinWhatIsKeptSaid : Prop := fnResumeAtStaysWithinWhatIsKeptRow.holds Trym.pinned (OpenSpec.ofChange fnResumeAtStaysWithinWhatIsKeptSpec)

/-- ITS FALSE NEIGHBOUR: 'it returns false'. Refute it at one input. -/
def fnResumeAtStaysWithinWhatIsKeptWrong : ChangeSpec := { name := "fnResumeAtStaysWithinWhatIsKept", fn := fun _ => fun
  | [d1, d2, d3, d4, d5, d6] => { results := [.lit (.bool false)], args := [d1, d2, d3, d4, d5, d6] }
  | _ => none }
def FnResumeAtStaysWithinWhatIsKeptWrongFalsely : Prop := fnResumeAtStaysWithinWhatIsKeptRow.holds Trym.pinned (OpenSpec.ofChange fnResumeAtStaysWithinWhatIsKeptWrong)

/-- 'zzlaws_internal_daemon_b1.FnResumeAtWithoutETagAllOrNothing': WHATEVER THE INPUT: true; the input reads as it did. -/
def fnResumeAtWithoutETagAllOrNothingSpec : ChangeSpec := { name := "fnResumeAtWithoutETagAllOrNothing", fn := fun _ => fun
  | [d1, d2, d3, d4, d5] => { results := [.lit (.bool true)], args := [d1, d2, d3, d4, d5] }
  | _ => none }
def fnResumeAtWithoutETagAllOrNothingRow : OpenClaim := { program := "qxb6001434amods", sum := "3a3cd46443b4b2b770841da614c60d5f892871eafda4556a0db46c9a139ef254", func := "example.com/usher/usher/zzlaws_internal_daemon_b1.FnResumeAtWithoutETagAllOrNothing", spec := "fnResumeAtWithoutETagAllOrNothing", make := .lifted ["publicsums"], apart := false }
def FnResumeAtWithoutETagAllOrNothingSaid : Prop := fnResumeAtWithoutETagAllOrNothingRow.holds Trym.pinned (OpenSpec.ofChange fnResumeAtWithoutETagAllOrNothingSpec)

/-- ITS FALSE NEIGHBOUR: 'it returns false'. Refute it at one input. -/
def fnResumeAtWithoutETagAllOrNothingWrong : ChangeSpec := { name := "fnResumeAtWithoutETagAllOrNothing", fn := fun _ => fun
  | [d1, d2, d3, d4, d5] => { results := [.lit (.bool false)], args := [d1, d2, d3, d4, d5] }
  | _ => none }
def FnResumeAtWithoutETagAllOrNothingWrongFalsely : Prop := fnResumeAtWithoutETagAllOrNothingRow.holds Trym.pinned (OpenSpec.ofChange fnResumeAtWithoutETagAllOrNothingWrong)

/-- 'zzlaws_internal_daemon_b1.FnResumeAtMonotoneInHave': WHATEVER THE INPUT: true; the input reads as it did. -/
def fnResumeAtMonotoneInHaveSpec : ChangeSpec := { name := "fnResumeAtMonotoneInHave", fn := fun _ => fun
  | [d1, d2, d3, d4, d5, d6, d7] => { results := [.lit (.bool true)], args := [d1, d2, d3, d4, d5, d6, d7] }
  | _ => none }
def fnResumeAtMonotoneInHaveRow : OpenClaim := { program := "qxb6001434amods", sum := "3a3cd46443b4b2b770841da614c60d5f892871eafda4556a0db46c9a139ef254", func := "example.com/usher/usher/zzlaws_internal_daemon_b1.FnResumeAtMonotoneInHave", spec := "fnResumeAtMonotoneInHave", make := .lifted ["publicsums"], apart := false }
def FnResumeAtMonotoneInHaveSaid : Prop := fnResumeAtMonotoneInHaveRow.holds Trym.pinned (OpenSpec.ofChange fnResumeAtMonotoneInHaveSpec)

/-- ITS FALSE NEIGHBOUR: 'it returns false'. Refute it at one input. -/
def fnResumeAtMonotoneInHaveWrong : ChangeSpec := { name := "fnResumeAtMonotoneInHave", fn := fun _ => fun
  | [d1, d2, d3, d4, d5, d6, d7] => { results := [.lit (.bool false)], args := [d1, d2, d3, d4, d5, d6, d7] }
  | _ => none }
def FnResumeAtMonotoneInHaveWrongFalsely : Prop := fnResumeAtMonotoneInHaveRow.holds Trym.pinned (OpenSpec.ofChange fnResumeAtMonotoneInHaveWrong)

/-- 'zzlaws_internal_daemon_b1.FnCancelledLeftoverRoundTripsThroughLeftTask': WHATEVER THE INPUT: true; the input reads as it did. -/
def fnCancelledLeftoverRoundTripsThroughLeftTaskSpec : ChangeSpec := { name := "fnCancelledLeftoverRoundTripsThroughLeftTask", fn := fun _ => fun
  | [d] => { results := [.lit (.bool true)], args := [d] }
  | _ => none }
def fnCancelledLeftoverRoundTripsThroughLeftTaskRow : OpenClaim := { program := "qxb6001434amods", sum := "3a3cd46443b4b2b770841da614c60d5f892871eafda4556a0db46c9a139ef254", func := "example.com/usher/usher/zzlaws_internal_daemon_b1.FnCancelledLeftoverRoundTripsThroughLeftTask", spec := "fnCancelledLeftoverRoundTripsThroughLeftTask", make := .lifted ["publicsums"], apart := false }
def FnCancelledLeftoverRoundTripsThroughLeftTaskSaid : Prop := fnCancelledLeftoverRoundTripsThroughLeftTaskRow.holds Trym.pinned (OpenSpec.ofChange fnCancelledLeftoverRoundTripsThroughLeftTaskSpec)

/-- ITS FALSE NEIGHBOUR: 'it returns false'. Refute it at one input. -/
def fnCancelledLeftoverRoundTripsThroughLeftTaskWrong : ChangeSpec := { name := "fnCancelledLeftoverRoundTripsThroughLeftTask", fn := fun _ => fun
  | [d] => { results := [.lit (.bool false)], args := [d] }
  | _ => none }
def FnCancelledLeftoverRoundTripsThroughLeftTaskWrongFalsely : Prop := fnCancelledLeftoverRoundTripsThroughLeftTaskRow.holds Trym.pinned (OpenSpec.ofChange fnCancelledLeftoverRoundTripsThroughLeftTaskWrong)

/-- 'zzlaws_internal_daemon_b1.FnCancelledLeftoverForgetsOnlyUnrecorded': WHATEVER THE INPUT: true; the input reads as it did. -/
def fnCancelledLeftoverForgetsOnlyUnrecordedSpec : ChangeSpec := { name := "fnCancelledLeftoverForgetsOnlyUnrecorded", fn := fun _ => fun
  | [d] => { results := [.lit (.bool true)], args := [d] }
  | _ => none }
def fnCancelledLeftoverForgetsOnlyUnrecordedRow : OpenClaim := { program := "qxb6001434amods", sum := "3a3cd46443b4b2b770841da614c60d5f892871eafda4556a0db46c9a139ef254", func := "example.com/usher/usher/zzlaws_internal_daemon_b1.FnCancelledLeftoverForgetsOnlyUnrecorded", spec := "fnCancelledLeftoverForgetsOnlyUnrecorded", make := .lifted ["publicsums"], apart := false }
def FnCancelledLeftoverForgetsOnlyUnrecordedSaid : Prop := fnCancelledLeftoverForgetsOnlyUnrecordedRow.holds Trym.pinned (OpenSpec.ofChange fnCancelledLeftoverForgetsOnlyUnrecordedSpec)

/-- ITS FALSE NEIGHBOUR: 'it returns false'. Refute it at one input. -/
def fnCancelledLeftoverForgetsOnlyUnrecordedWrong : ChangeSpec := { name := "fnCancelledLeftoverForgetsOnlyUnrecorded", fn := fun _ => fun
  | [d] => { results := [.lit (.bool false)], args := [d] }
  | _ => none }
def FnCancelledLeftoverForgetsOnlyUnrecordedWrongFalsely : Prop := fnCancelledLeftoverForgetsOnlyUnrecordedRow.holds Trym.pinned (OpenSpec.ofChange fnCancelledLeftoverForgetsOnlyUnrecordedWrong)

/-- 'zzlaws_internal_daemon_b1.FnLeftTaskInvertedByCancelledLeftover': WHATEVER THE INPUT: true; the input reads as it did. -/
def fnLeftTaskInvertedByCancelledLeftoverSpec : ChangeSpec := { name := "fnLeftTaskInvertedByCancelledLeftover", fn := fun _ => fun
  | [d1, d2, d3, d4, d5, d6] => { results := [.lit (.bool true)], args := [d1, d2, d3, d4, d5, d6] }
  | _ => none }
def fnLeftTaskInvertedByCancelledLeftoverRow : OpenClaim := { program := "qxb6001434amods", sum := "3a3cd46443b4b2b770841da614c60d5f892871eafda4556a0db46c9a139ef254", func := "example.com/usher/usher/zzlaws_internal_daemon_b1.FnLeftTaskInvertedByCancelledLeftover", spec := "fnLeftTaskInvertedByCancelledLeftover", make := .lifted ["publicsums"], apart := false }
def FnLeftTaskInvertedByCancelledLeftoverSaid : Prop := fnLeftTaskInvertedByCancelledLeftoverRow.holds Trym.pinned (OpenSpec.ofChange fnLeftTaskInvertedByCancelledLeftoverSpec)

/-- ITS FALSE NEIGHBOUR: 'it returns false'. Refute it at one input. -/
def fnLeftTaskInvertedByCancelledLeftoverWrong : ChangeSpec := { name := "fnLeftTaskInvertedByCancelledLeftover", fn := fun _ => fun
  | [d1, d2, d3, d4, d5, d6] => { results := [.lit (.bool false)], args := [d1, d2, d3, d4, d5, d6] }
  | _ => none }
def FnLeftTaskInvertedByCancelledLeftoverWrongFalsely : Prop := fnLeftTaskInvertedByCancelledLeftoverRow.holds Trym.pinned (OpenSpec.ofChange fnLeftTaskInvertedByCancelledLeftoverWrong)

end Rows
end Go.Proofs.Qxb6001434aMods
