/-
  No cell of these rows narrows 'for every input' (looked for: loops, veiled, ifaces, maps, wideKeys, modest, calm, conditions, laid).
  DERIVED. THE GIVEN ROWS OF THIS SEAT. 6 by the template 'for every input the law returns true; each argument reads behind the call as it read before'; 0 by the template 'total and deterministic' (their statements: Qxb6603509aModsTotals.lean).
  GIVEN WITH THE SEED: the statements are not yours to turn. If you find one false, say at which input.
  Laid BY PROGRAM, IN A SANDBOX (cutbox-rows.mjs): the forced cells as the released guide's own fill.sh prints them over the translation 4e9cce7cd4b7fcde… (all of the seat's roots in one cut). By AI agents, Wed Nov 11 2026. No macro, syntax, notation, axiom, sorry.
-/
import Derived.Test.Qxb6603509aModsChecked
import GoSem.Claim
import GoSem.ClaimJoined
import GoSem.ClaimMapViews
import Derived.JoinedTies
import Derived.KernelRfl
namespace Go.Proofs.Qxb6603509aMods
/- THE CELL 'sum', in the pinned program and in every row, IS THE sha256 OF THE DUMP (.gsa) THAT Qxb6603509aModsProg.lean LOADS. Nothing in Lean hashes anything: it is a label: what it is worth is what the hold of that sum in a sandbox is worth. -/
noncomputable def Trym.pinned : Pinned := { name := "qxb6603509amods", sum := "4e9cce7cd4b7fcde40b479be9cd60667bc5e588f65f56090ee79b99f5bb167c7", checked := Trym.checked }
namespace Rows
def none {H : Type} : Left H := { results := [], args := [] }

/-- 'zzlaws_pkg_queue_b1.FnBufferedPutHoldsLastRowOfEachSeq': WHATEVER THE INPUT: true; the input reads as it did. -/
def fnBufferedPutHoldsLastRowOfEachSeqSpec : ChangeSpec := { name := "fnBufferedPutHoldsLastRowOfEachSeq", fn := fun _ => fun
  | [d1, d2, d3, d4, d5, d6] => { results := [.lit (.bool true)], args := [d1, d2, d3, d4, d5, d6] }
  | _ => none }
def fnBufferedPutHoldsLastRowOfEachSeqRow : OpenClaim := { program := "qxb6603509amods", sum := "4e9cce7cd4b7fcde40b479be9cd60667bc5e588f65f56090ee79b99f5bb167c7", func := "example.com/earnest-queue/earnest-queue/zzlaws_pkg_queue_b1.FnBufferedPutHoldsLastRowOfEachSeq", spec := "fnBufferedPutHoldsLastRowOfEachSeq", make := .lifted ["publicsums"], apart := false }
def FnBufferedPutHoldsLastRowOfEachSeqSaid : Prop := fnBufferedPutHoldsLastRowOfEachSeqRow.holds Trym.pinned (OpenSpec.ofChange fnBufferedPutHoldsLastRowOfEachSeqSpec)

/-- ITS FALSE NEIGHBOUR: 'it returns false'. Refute it at one input. -/
def fnBufferedPutHoldsLastRowOfEachSeqWrong : ChangeSpec := { name := "fnBufferedPutHoldsLastRowOfEachSeq", fn := fun _ => fun
  | [d1, d2, d3, d4, d5, d6] => { results := [.lit (.bool false)], args := [d1, d2, d3, d4, d5, d6] }
  | _ => none }
def FnBufferedPutHoldsLastRowOfEachSeqWrongFalsely : Prop := fnBufferedPutHoldsLastRowOfEachSeqRow.holds Trym.pinned (OpenSpec.ofChange fnBufferedPutHoldsLastRowOfEachSeqWrong)

/-- 'zzlaws_pkg_queue_b1.FnBufferedPutReplacesRemovesAndRestores': WHATEVER THE INPUT: true; the input reads as it did. -/
def fnBufferedPutReplacesRemovesAndRestoresSpec : ChangeSpec := { name := "fnBufferedPutReplacesRemovesAndRestores", fn := fun _ => fun
  | [d1, d2, d3, d4, d5, d6, d7, d8, d9, d10, d11] => { results := [.lit (.bool true)], args := [d1, d2, d3, d4, d5, d6, d7, d8, d9, d10, d11] }
  | _ => none }
def fnBufferedPutReplacesRemovesAndRestoresRow : OpenClaim := { program := "qxb6603509amods", sum := "4e9cce7cd4b7fcde40b479be9cd60667bc5e588f65f56090ee79b99f5bb167c7", func := "example.com/earnest-queue/earnest-queue/zzlaws_pkg_queue_b1.FnBufferedPutReplacesRemovesAndRestores", spec := "fnBufferedPutReplacesRemovesAndRestores", make := .lifted ["publicsums"], apart := false }
def FnBufferedPutReplacesRemovesAndRestoresSaid : Prop := fnBufferedPutReplacesRemovesAndRestoresRow.holds Trym.pinned (OpenSpec.ofChange fnBufferedPutReplacesRemovesAndRestoresSpec)

/-- ITS FALSE NEIGHBOUR: 'it returns false'. Refute it at one input. -/
def fnBufferedPutReplacesRemovesAndRestoresWrong : ChangeSpec := { name := "fnBufferedPutReplacesRemovesAndRestores", fn := fun _ => fun
  | [d1, d2, d3, d4, d5, d6, d7, d8, d9, d10, d11] => { results := [.lit (.bool false)], args := [d1, d2, d3, d4, d5, d6, d7, d8, d9, d10, d11] }
  | _ => none }
def FnBufferedPutReplacesRemovesAndRestoresWrongFalsely : Prop := fnBufferedPutReplacesRemovesAndRestoresRow.holds Trym.pinned (OpenSpec.ofChange fnBufferedPutReplacesRemovesAndRestoresWrong)

/-- 'zzlaws_pkg_queue_b1.FnPacePieceMadeScriptInOneSum': WHATEVER THE INPUT: true; the input reads as it did. -/
def fnPacePieceMadeScriptInOneSumSpec : ChangeSpec := { name := "fnPacePieceMadeScriptInOneSum", fn := fun _ => fun
  | [d1, d2, d3, d4, d5] => { results := [.lit (.bool true)], args := [d1, d2, d3, d4, d5] }
  | _ => none }
def fnPacePieceMadeScriptInOneSumRow : OpenClaim := { program := "qxb6603509amods", sum := "4e9cce7cd4b7fcde40b479be9cd60667bc5e588f65f56090ee79b99f5bb167c7", func := "example.com/earnest-queue/earnest-queue/zzlaws_pkg_queue_b1.FnPacePieceMadeScriptInOneSum", spec := "fnPacePieceMadeScriptInOneSum", make := .lifted ["publicsums"], apart := false }
def FnPacePieceMadeScriptInOneSumSaid : Prop := fnPacePieceMadeScriptInOneSumRow.holds Trym.pinned (OpenSpec.ofChange fnPacePieceMadeScriptInOneSumSpec)

/-- ITS FALSE NEIGHBOUR: 'it returns false'. Refute it at one input. -/
def fnPacePieceMadeScriptInOneSumWrong : ChangeSpec := { name := "fnPacePieceMadeScriptInOneSum", fn := fun _ => fun
  | [d1, d2, d3, d4, d5] => { results := [.lit (.bool false)], args := [d1, d2, d3, d4, d5] }
  | _ => none }
def FnPacePieceMadeScriptInOneSumWrongFalsely : Prop := fnPacePieceMadeScriptInOneSumRow.holds Trym.pinned (OpenSpec.ofChange fnPacePieceMadeScriptInOneSumWrong)

/-- 'zzlaws_pkg_queue_b1.FnPacePieceMadeTwoPiecesAsOne': WHATEVER THE INPUT: true; the input reads as it did. -/
def fnPacePieceMadeTwoPiecesAsOneSpec : ChangeSpec := { name := "fnPacePieceMadeTwoPiecesAsOne", fn := fun _ => fun
  | [d1, d2, d3, d4, d5, d6] => { results := [.lit (.bool true)], args := [d1, d2, d3, d4, d5, d6] }
  | _ => none }
def fnPacePieceMadeTwoPiecesAsOneRow : OpenClaim := { program := "qxb6603509amods", sum := "4e9cce7cd4b7fcde40b479be9cd60667bc5e588f65f56090ee79b99f5bb167c7", func := "example.com/earnest-queue/earnest-queue/zzlaws_pkg_queue_b1.FnPacePieceMadeTwoPiecesAsOne", spec := "fnPacePieceMadeTwoPiecesAsOne", make := .lifted ["publicsums"], apart := false }
def FnPacePieceMadeTwoPiecesAsOneSaid : Prop := fnPacePieceMadeTwoPiecesAsOneRow.holds Trym.pinned (OpenSpec.ofChange fnPacePieceMadeTwoPiecesAsOneSpec)

/-- ITS FALSE NEIGHBOUR: 'it returns false'. Refute it at one input. -/
def fnPacePieceMadeTwoPiecesAsOneWrong : ChangeSpec := { name := "fnPacePieceMadeTwoPiecesAsOne", fn := fun _ => fun
  | [d1, d2, d3, d4, d5, d6] => { results := [.lit (.bool false)], args := [d1, d2, d3, d4, d5, d6] }
  | _ => none }
def FnPacePieceMadeTwoPiecesAsOneWrongFalsely : Prop := fnPacePieceMadeTwoPiecesAsOneRow.holds Trym.pinned (OpenSpec.ofChange fnPacePieceMadeTwoPiecesAsOneWrong)

/-- 'zzlaws_pkg_queue_b1.FnPaceShareIsClampedFloorOfTimeOverNeed': WHATEVER THE INPUT: true; the input reads as it did. -/
def fnPaceShareIsClampedFloorOfTimeOverNeedSpec : ChangeSpec := { name := "fnPaceShareIsClampedFloorOfTimeOverNeed", fn := fun _ => fun
  | [d1, d2, d3, d4, d5] => { results := [.lit (.bool true)], args := [d1, d2, d3, d4, d5] }
  | _ => none }
def fnPaceShareIsClampedFloorOfTimeOverNeedRow : OpenClaim := { program := "qxb6603509amods", sum := "4e9cce7cd4b7fcde40b479be9cd60667bc5e588f65f56090ee79b99f5bb167c7", func := "example.com/earnest-queue/earnest-queue/zzlaws_pkg_queue_b1.FnPaceShareIsClampedFloorOfTimeOverNeed", spec := "fnPaceShareIsClampedFloorOfTimeOverNeed", make := .lifted ["publicsums"], apart := false }
def FnPaceShareIsClampedFloorOfTimeOverNeedSaid : Prop := fnPaceShareIsClampedFloorOfTimeOverNeedRow.holds Trym.pinned (OpenSpec.ofChange fnPaceShareIsClampedFloorOfTimeOverNeedSpec)

/-- ITS FALSE NEIGHBOUR: 'it returns false'. Refute it at one input. -/
def fnPaceShareIsClampedFloorOfTimeOverNeedWrong : ChangeSpec := { name := "fnPaceShareIsClampedFloorOfTimeOverNeed", fn := fun _ => fun
  | [d1, d2, d3, d4, d5] => { results := [.lit (.bool false)], args := [d1, d2, d3, d4, d5] }
  | _ => none }
def FnPaceShareIsClampedFloorOfTimeOverNeedWrongFalsely : Prop := fnPaceShareIsClampedFloorOfTimeOverNeedRow.holds Trym.pinned (OpenSpec.ofChange fnPaceShareIsClampedFloorOfTimeOverNeedWrong)

/-- 'zzlaws_pkg_queue_b1.FnPaceShareFallsAsNowNearsDeadline': WHATEVER THE INPUT: true; the input reads as it did. -/
def fnPaceShareFallsAsNowNearsDeadlineSpec : ChangeSpec := { name := "fnPaceShareFallsAsNowNearsDeadline", fn := fun _ => fun
  | [d1, d2, d3, d4, d5, d6] => { results := [.lit (.bool true)], args := [d1, d2, d3, d4, d5, d6] }
  | _ => none }
def fnPaceShareFallsAsNowNearsDeadlineRow : OpenClaim := { program := "qxb6603509amods", sum := "4e9cce7cd4b7fcde40b479be9cd60667bc5e588f65f56090ee79b99f5bb167c7", func := "example.com/earnest-queue/earnest-queue/zzlaws_pkg_queue_b1.FnPaceShareFallsAsNowNearsDeadline", spec := "fnPaceShareFallsAsNowNearsDeadline", make := .lifted ["publicsums"], apart := false }
def FnPaceShareFallsAsNowNearsDeadlineSaid : Prop := fnPaceShareFallsAsNowNearsDeadlineRow.holds Trym.pinned (OpenSpec.ofChange fnPaceShareFallsAsNowNearsDeadlineSpec)

/-- ITS FALSE NEIGHBOUR: 'it returns false'. Refute it at one input. -/
def fnPaceShareFallsAsNowNearsDeadlineWrong : ChangeSpec := { name := "fnPaceShareFallsAsNowNearsDeadline", fn := fun _ => fun
  | [d1, d2, d3, d4, d5, d6] => { results := [.lit (.bool false)], args := [d1, d2, d3, d4, d5, d6] }
  | _ => none }
def FnPaceShareFallsAsNowNearsDeadlineWrongFalsely : Prop := fnPaceShareFallsAsNowNearsDeadlineRow.holds Trym.pinned (OpenSpec.ofChange fnPaceShareFallsAsNowNearsDeadlineWrong)

end Rows
end Go.Proofs.Qxb6603509aMods
