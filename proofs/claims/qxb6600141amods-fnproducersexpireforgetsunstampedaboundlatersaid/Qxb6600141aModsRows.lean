/-
  No cell of these rows narrows 'for every input' (looked for: loops, veiled, ifaces, maps, wideKeys, modest, calm, conditions, laid).
  DERIVED. THE GIVEN ROWS OF THIS SEAT. 6 by the template 'for every input the law returns true; each argument reads behind the call as it read before'; 0 by the template 'total and deterministic' (their statements: Qxb6600141aModsTotals.lean).
  GIVEN WITH THE SEED: the statements are not yours to turn. If you find one false, say at which input.
  Laid BY PROGRAM, IN A SANDBOX (cutbox-rows.mjs): the forced cells as the released guide's own fill.sh prints them over the translation 429879d7100c3747… (all of the seat's roots in one cut). By AI agents, Wed Nov 11 2026. No macro, syntax, notation, axiom, sorry.
-/
import Derived.Test.Qxb6600141aModsChecked
import GoSem.Claim
import GoSem.ClaimJoined
import GoSem.ClaimMapViews
import Derived.JoinedTies
import Derived.KernelRfl
namespace Go.Proofs.Qxb6600141aMods
/- THE CELL 'sum', in the pinned program and in every row, IS THE sha256 OF THE DUMP (.gsa) THAT Qxb6600141aModsProg.lean LOADS. Nothing in Lean hashes anything: it is a label: what it is worth is what the hold of that sum in a sandbox is worth. -/
noncomputable def Trym.pinned : Pinned := { name := "qxb6600141amods", sum := "429879d7100c37470aa931204cbd88bcd855a53fba47438bb6baf9a912b3a893", checked := Trym.checked }
namespace Rows
def none {H : Type} : Left H := { results := [], args := [] }

/-- 'zzlaws_pkg_commitlog_b1.FnEpochsLatestIsMaxOfRising': WHATEVER THE INPUT: true; the input reads as it did. -/
def fnEpochsLatestIsMaxOfRisingSpec : ChangeSpec := { name := "fnEpochsLatestIsMaxOfRising", fn := fun _ => fun
  | [d] => { results := [.lit (.bool true)], args := [d] }
  | _ => none }
def fnEpochsLatestIsMaxOfRisingRow : OpenClaim := { program := "qxb6600141amods", sum := "429879d7100c37470aa931204cbd88bcd855a53fba47438bb6baf9a912b3a893", func := "example.com/tidemark/tidemark/zzlaws_pkg_commitlog_b1.FnEpochsLatestIsMaxOfRising", spec := "fnEpochsLatestIsMaxOfRising", make := .lifted ["publicsums"], apart := false }
def FnEpochsLatestIsMaxOfRisingSaid : Prop := fnEpochsLatestIsMaxOfRisingRow.holds Trym.pinned (OpenSpec.ofChange fnEpochsLatestIsMaxOfRisingSpec)

/-- ITS FALSE NEIGHBOUR: 'it returns false'. Refute it at one input. -/
def fnEpochsLatestIsMaxOfRisingWrong : ChangeSpec := { name := "fnEpochsLatestIsMaxOfRising", fn := fun _ => fun
  | [d] => { results := [.lit (.bool false)], args := [d] }
  | _ => none }
def FnEpochsLatestIsMaxOfRisingWrongFalsely : Prop := fnEpochsLatestIsMaxOfRisingRow.holds Trym.pinned (OpenSpec.ofChange fnEpochsLatestIsMaxOfRisingWrong)

/-- 'zzlaws_pkg_commitlog_b1.FnProducersLatestIsEachProducersLastFive': WHATEVER THE INPUT: true; the input reads as it did. -/
def fnProducersLatestIsEachProducersLastFiveSpec : ChangeSpec := { name := "fnProducersLatestIsEachProducersLastFive", fn := fun _ => fun
  | [d1, d2, d3] => { results := [.lit (.bool true)], args := [d1, d2, d3] }
  | _ => none }
def fnProducersLatestIsEachProducersLastFiveRow : OpenClaim := { program := "qxb6600141amods", sum := "429879d7100c37470aa931204cbd88bcd855a53fba47438bb6baf9a912b3a893", func := "example.com/tidemark/tidemark/zzlaws_pkg_commitlog_b1.FnProducersLatestIsEachProducersLastFive", spec := "fnProducersLatestIsEachProducersLastFive", make := .lifted ["publicsums"], apart := false }
def FnProducersLatestIsEachProducersLastFiveSaid : Prop := fnProducersLatestIsEachProducersLastFiveRow.holds Trym.pinned (OpenSpec.ofChange fnProducersLatestIsEachProducersLastFiveSpec)

/-- ITS FALSE NEIGHBOUR: 'it returns false'. Refute it at one input. -/
def fnProducersLatestIsEachProducersLastFiveWrong : ChangeSpec := { name := "fnProducersLatestIsEachProducersLastFive", fn := fun _ => fun
  | [d1, d2, d3] => { results := [.lit (.bool false)], args := [d1, d2, d3] }
  | _ => none }
def FnProducersLatestIsEachProducersLastFiveWrongFalsely : Prop := fnProducersLatestIsEachProducersLastFiveRow.holds Trym.pinned (OpenSpec.ofChange fnProducersLatestIsEachProducersLastFiveWrong)

/-- 'zzlaws_pkg_commitlog_b1.FnProducersLatestBoundedAndKnowsEachLast': WHATEVER THE INPUT: true; the input reads as it did. -/
def fnProducersLatestBoundedAndKnowsEachLastSpec : ChangeSpec := { name := "fnProducersLatestBoundedAndKnowsEachLast", fn := fun _ => fun
  | [d1, d2, d3] => { results := [.lit (.bool true)], args := [d1, d2, d3] }
  | _ => none }
def fnProducersLatestBoundedAndKnowsEachLastRow : OpenClaim := { program := "qxb6600141amods", sum := "429879d7100c37470aa931204cbd88bcd855a53fba47438bb6baf9a912b3a893", func := "example.com/tidemark/tidemark/zzlaws_pkg_commitlog_b1.FnProducersLatestBoundedAndKnowsEachLast", spec := "fnProducersLatestBoundedAndKnowsEachLast", make := .lifted ["publicsums"], apart := false }
def FnProducersLatestBoundedAndKnowsEachLastSaid : Prop := fnProducersLatestBoundedAndKnowsEachLastRow.holds Trym.pinned (OpenSpec.ofChange fnProducersLatestBoundedAndKnowsEachLastSpec)

/-- ITS FALSE NEIGHBOUR: 'it returns false'. Refute it at one input. -/
def fnProducersLatestBoundedAndKnowsEachLastWrong : ChangeSpec := { name := "fnProducersLatestBoundedAndKnowsEachLast", fn := fun _ => fun
  | [d1, d2, d3] => { results := [.lit (.bool false)], args := [d1, d2, d3] }
  | _ => none }
def FnProducersLatestBoundedAndKnowsEachLastWrongFalsely : Prop := fnProducersLatestBoundedAndKnowsEachLastRow.holds Trym.pinned (OpenSpec.ofChange fnProducersLatestBoundedAndKnowsEachLastWrong)

/-- 'zzlaws_pkg_commitlog_b1.FnProducersExpireKeepsHoldersAndTouchesOnlyMissingStamps': WHATEVER THE INPUT: true; the input reads as it did. -/
def fnProducersExpireKeepsHoldersAndTouchesOnlyMissingStampsSpec : ChangeSpec := { name := "fnProducersExpireKeepsHoldersAndTouchesOnlyMissingStamps", fn := fun _ => fun
  | [d1, d2, d3, d4, d5, d6] => { results := [.lit (.bool true)], args := [d1, d2, d3, d4, d5, d6] }
  | _ => none }
def fnProducersExpireKeepsHoldersAndTouchesOnlyMissingStampsRow : OpenClaim := { program := "qxb6600141amods", sum := "429879d7100c37470aa931204cbd88bcd855a53fba47438bb6baf9a912b3a893", func := "example.com/tidemark/tidemark/zzlaws_pkg_commitlog_b1.FnProducersExpireKeepsHoldersAndTouchesOnlyMissingStamps", spec := "fnProducersExpireKeepsHoldersAndTouchesOnlyMissingStamps", make := .lifted ["publicsums"], apart := false }
def FnProducersExpireKeepsHoldersAndTouchesOnlyMissingStampsSaid : Prop := fnProducersExpireKeepsHoldersAndTouchesOnlyMissingStampsRow.holds Trym.pinned (OpenSpec.ofChange fnProducersExpireKeepsHoldersAndTouchesOnlyMissingStampsSpec)

/-- ITS FALSE NEIGHBOUR: 'it returns false'. Refute it at one input. -/
def fnProducersExpireKeepsHoldersAndTouchesOnlyMissingStampsWrong : ChangeSpec := { name := "fnProducersExpireKeepsHoldersAndTouchesOnlyMissingStamps", fn := fun _ => fun
  | [d1, d2, d3, d4, d5, d6] => { results := [.lit (.bool false)], args := [d1, d2, d3, d4, d5, d6] }
  | _ => none }
def FnProducersExpireKeepsHoldersAndTouchesOnlyMissingStampsWrongFalsely : Prop := fnProducersExpireKeepsHoldersAndTouchesOnlyMissingStampsRow.holds Trym.pinned (OpenSpec.ofChange fnProducersExpireKeepsHoldersAndTouchesOnlyMissingStampsWrong)

/-- 'zzlaws_pkg_commitlog_b1.FnProducersExpireMonotoneInStartAndBound': WHATEVER THE INPUT: true; the input reads as it did. -/
def fnProducersExpireMonotoneInStartAndBoundSpec : ChangeSpec := { name := "fnProducersExpireMonotoneInStartAndBound", fn := fun _ => fun
  | [d1, d2, d3, d4, d5, d6, d7, d8] => { results := [.lit (.bool true)], args := [d1, d2, d3, d4, d5, d6, d7, d8] }
  | _ => none }
def fnProducersExpireMonotoneInStartAndBoundRow : OpenClaim := { program := "qxb6600141amods", sum := "429879d7100c37470aa931204cbd88bcd855a53fba47438bb6baf9a912b3a893", func := "example.com/tidemark/tidemark/zzlaws_pkg_commitlog_b1.FnProducersExpireMonotoneInStartAndBound", spec := "fnProducersExpireMonotoneInStartAndBound", make := .lifted ["publicsums"], apart := false }
def FnProducersExpireMonotoneInStartAndBoundSaid : Prop := fnProducersExpireMonotoneInStartAndBoundRow.holds Trym.pinned (OpenSpec.ofChange fnProducersExpireMonotoneInStartAndBoundSpec)

/-- ITS FALSE NEIGHBOUR: 'it returns false'. Refute it at one input. -/
def fnProducersExpireMonotoneInStartAndBoundWrong : ChangeSpec := { name := "fnProducersExpireMonotoneInStartAndBound", fn := fun _ => fun
  | [d1, d2, d3, d4, d5, d6, d7, d8] => { results := [.lit (.bool false)], args := [d1, d2, d3, d4, d5, d6, d7, d8] }
  | _ => none }
def FnProducersExpireMonotoneInStartAndBoundWrongFalsely : Prop := fnProducersExpireMonotoneInStartAndBoundRow.holds Trym.pinned (OpenSpec.ofChange fnProducersExpireMonotoneInStartAndBoundWrong)

/-- 'zzlaws_pkg_commitlog_b1.FnProducersExpireForgetsUnstampedABoundLater': WHATEVER THE INPUT: true; the input reads as it did. -/
def fnProducersExpireForgetsUnstampedABoundLaterSpec : ChangeSpec := { name := "fnProducersExpireForgetsUnstampedABoundLater", fn := fun _ => fun
  | [d1, d2, d3, d4, d5, d6, d7] => { results := [.lit (.bool true)], args := [d1, d2, d3, d4, d5, d6, d7] }
  | _ => none }
def fnProducersExpireForgetsUnstampedABoundLaterRow : OpenClaim := { program := "qxb6600141amods", sum := "429879d7100c37470aa931204cbd88bcd855a53fba47438bb6baf9a912b3a893", func := "example.com/tidemark/tidemark/zzlaws_pkg_commitlog_b1.FnProducersExpireForgetsUnstampedABoundLater", spec := "fnProducersExpireForgetsUnstampedABoundLater", make := .lifted ["publicsums"], apart := false }
def FnProducersExpireForgetsUnstampedABoundLaterSaid : Prop := fnProducersExpireForgetsUnstampedABoundLaterRow.holds Trym.pinned (OpenSpec.ofChange fnProducersExpireForgetsUnstampedABoundLaterSpec)

/-- ITS FALSE NEIGHBOUR: 'it returns false'. Refute it at one input. -/
def fnProducersExpireForgetsUnstampedABoundLaterWrong : ChangeSpec := { name := "fnProducersExpireForgetsUnstampedABoundLater", fn := fun _ => fun
  | [d1, d2, d3, d4, d5, d6, d7] => { results := [.lit (.bool false)], args := [d1, d2, d3, d4, d5, d6, d7] }
  | _ => none }
def FnProducersExpireForgetsUnstampedABoundLaterWrongFalsely : Prop := fnProducersExpireForgetsUnstampedABoundLaterRow.holds Trym.pinned (OpenSpec.ofChange fnProducersExpireForgetsUnstampedABoundLaterWrong)

end Rows
end Go.Proofs.Qxb6600141aMods
