/-
  No cell of these rows narrows 'for every input' (looked for: loops, veiled, ifaces, maps, wideKeys, modest, calm, conditions, laid).
  DERIVED. THE GIVEN ROWS OF THIS SEAT. 4 by the template 'for every input the law returns true; each argument reads behind the call as it read before'; 0 by the template 'total and deterministic' (their statements: Qxb6604397aTotals.lean).
  GIVEN WITH THE SEED: the statements are not yours to turn. If you find one false, say at which input.
  Laid BY PROGRAM, IN A SANDBOX (cutbox-rows.mjs): the forced cells as the released guide's own fill.sh prints them over the translation 3916d8f24828c428… (all of the seat's roots in one cut). By AI agents, Wed Nov 11 2026. No macro, syntax, notation, axiom, sorry.
-/
import Derived.Test.Qxb6604397aChecked
import GoSem.Claim
import GoSem.ClaimJoined
import GoSem.ClaimMapViews
import Derived.JoinedTies
import Derived.KernelRfl
namespace Go.Proofs.Qxb6604397a
/- THE CELL 'sum', in the pinned program and in every row, IS THE sha256 OF THE DUMP (.gsa) THAT Qxb6604397aProg.lean LOADS. Nothing in Lean hashes anything: it is a label: what it is worth is what the hold of that sum in a sandbox is worth. -/
noncomputable def Try.pinned : Pinned := { name := "qxb6604397a", sum := "3916d8f24828c428fa360bdc85e6380c582e569054904965609975cacdf5197c", checked := Try.checked }
namespace Rows
def none {H : Type} : Left H := { results := [], args := [] }

/-- 'zzlaws_pkg_planner_b1.FnReserveAtMinuteOfDay': WHATEVER THE INPUT: true; the input reads as it did. -/
def fnReserveAtMinuteOfDaySpec : ChangeSpec := { name := "fnReserveAtMinuteOfDay", fn := fun _ => fun
  | [d1, d2] => { results := [.lit (.bool true)], args := [d1, d2] }
  | _ => none }
def fnReserveAtMinuteOfDayRow : OpenClaim := { program := "qxb6604397a", sum := "3916d8f24828c428fa360bdc85e6380c582e569054904965609975cacdf5197c", func := "example.com/tideshift/tideshift/zzlaws_pkg_planner_b1.FnReserveAtMinuteOfDay", spec := "fnReserveAtMinuteOfDay", apart := false }
def FnReserveAtMinuteOfDaySaid : Prop := fnReserveAtMinuteOfDayRow.holds Try.pinned (OpenSpec.ofChange fnReserveAtMinuteOfDaySpec)

/-- ITS FALSE NEIGHBOUR: 'it returns false'. Refute it at one input. -/
def fnReserveAtMinuteOfDayWrong : ChangeSpec := { name := "fnReserveAtMinuteOfDay", fn := fun _ => fun
  | [d1, d2] => { results := [.lit (.bool false)], args := [d1, d2] }
  | _ => none }
def FnReserveAtMinuteOfDayWrongFalsely : Prop := fnReserveAtMinuteOfDayRow.holds Try.pinned (OpenSpec.ofChange fnReserveAtMinuteOfDayWrong)

/-- 'zzlaws_pkg_planner_b1.FnReserveAtAnyMinute': WHATEVER THE INPUT: true; the input reads as it did. -/
def fnReserveAtAnyMinuteSpec : ChangeSpec := { name := "fnReserveAtAnyMinute", fn := fun _ => fun
  | [d1, d2] => { results := [.lit (.bool true)], args := [d1, d2] }
  | _ => none }
def fnReserveAtAnyMinuteRow : OpenClaim := { program := "qxb6604397a", sum := "3916d8f24828c428fa360bdc85e6380c582e569054904965609975cacdf5197c", func := "example.com/tideshift/tideshift/zzlaws_pkg_planner_b1.FnReserveAtAnyMinute", spec := "fnReserveAtAnyMinute", apart := false }
def FnReserveAtAnyMinuteSaid : Prop := fnReserveAtAnyMinuteRow.holds Try.pinned (OpenSpec.ofChange fnReserveAtAnyMinuteSpec)

/-- ITS FALSE NEIGHBOUR: 'it returns false'. Refute it at one input. -/
def fnReserveAtAnyMinuteWrong : ChangeSpec := { name := "fnReserveAtAnyMinute", fn := fun _ => fun
  | [d1, d2] => { results := [.lit (.bool false)], args := [d1, d2] }
  | _ => none }
def FnReserveAtAnyMinuteWrongFalsely : Prop := fnReserveAtAnyMinuteRow.holds Try.pinned (OpenSpec.ofChange fnReserveAtAnyMinuteWrong)

/-- 'zzlaws_pkg_planner_b1.FnFleetPlaceScript': WHATEVER THE INPUT: true; the input reads as it did. -/
def fnFleetPlaceScriptSpec : ChangeSpec := { name := "fnFleetPlaceScript", fn := fun _ => fun
  | [d] => { results := [.lit (.bool true)], args := [d] }
  | _ => none }
def fnFleetPlaceScriptRow : OpenClaim := { program := "qxb6604397a", sum := "3916d8f24828c428fa360bdc85e6380c582e569054904965609975cacdf5197c", func := "example.com/tideshift/tideshift/zzlaws_pkg_planner_b1.FnFleetPlaceScript", spec := "fnFleetPlaceScript", inPlace := ["slices.overlaps[time.Time]", "slices.overlaps[float64]"], unfollowed := true, recurses := true, apart := false }
def FnFleetPlaceScriptSaid : Prop := fnFleetPlaceScriptRow.holds Try.pinned (OpenSpec.ofChange fnFleetPlaceScriptSpec)

/-- ITS FALSE NEIGHBOUR: 'it returns false'. Refute it at one input. -/
def fnFleetPlaceScriptWrong : ChangeSpec := { name := "fnFleetPlaceScript", fn := fun _ => fun
  | [d] => { results := [.lit (.bool false)], args := [d] }
  | _ => none }
def FnFleetPlaceScriptWrongFalsely : Prop := fnFleetPlaceScriptRow.holds Try.pinned (OpenSpec.ofChange fnFleetPlaceScriptWrong)

/-- 'zzlaws_pkg_planner_b1.FnFleetPlaceThenCancel': WHATEVER THE INPUT: true; the input reads as it did. -/
def fnFleetPlaceThenCancelSpec : ChangeSpec := { name := "fnFleetPlaceThenCancel", fn := fun _ => fun
  | [d1, d2, d3, d4, d5, d6] => { results := [.lit (.bool true)], args := [d1, d2, d3, d4, d5, d6] }
  | _ => none }
def fnFleetPlaceThenCancelRow : OpenClaim := { program := "qxb6604397a", sum := "3916d8f24828c428fa360bdc85e6380c582e569054904965609975cacdf5197c", func := "example.com/tideshift/tideshift/zzlaws_pkg_planner_b1.FnFleetPlaceThenCancel", spec := "fnFleetPlaceThenCancel", inPlace := ["slices.overlaps[time.Time]", "slices.overlaps[float64]"], unfollowed := true, recurses := true, apart := false }
def FnFleetPlaceThenCancelSaid : Prop := fnFleetPlaceThenCancelRow.holds Try.pinned (OpenSpec.ofChange fnFleetPlaceThenCancelSpec)

/-- ITS FALSE NEIGHBOUR: 'it returns false'. Refute it at one input. -/
def fnFleetPlaceThenCancelWrong : ChangeSpec := { name := "fnFleetPlaceThenCancel", fn := fun _ => fun
  | [d1, d2, d3, d4, d5, d6] => { results := [.lit (.bool false)], args := [d1, d2, d3, d4, d5, d6] }
  | _ => none }
def FnFleetPlaceThenCancelWrongFalsely : Prop := fnFleetPlaceThenCancelRow.holds Try.pinned (OpenSpec.ofChange fnFleetPlaceThenCancelWrong)

end Rows
end Go.Proofs.Qxb6604397a
