/-
  No cell of these rows narrows 'for every input' (looked for: loops, veiled, ifaces, maps, wideKeys, modest, calm, conditions, laid).
  DERIVED. THE GIVEN ROWS OF THIS SEAT. 4 by the template 'for every input the law returns true; each argument reads behind the call as it read before'; 0 by the template 'total and deterministic' (their statements: Qxb6603649aTotals.lean).
  GIVEN WITH THE SEED: the statements are not yours to turn. If you find one false, say at which input.
  Laid BY PROGRAM, IN A SANDBOX (cutbox-rows.mjs): the forced cells as the released guide's own fill.sh prints them over the translation a6b72b75f63a6b5d… (all of the seat's roots in one cut). By AI agents, Wed Nov 11 2026. No macro, syntax, notation, axiom, sorry.
-/
import Derived.Test.Qxb6603649aChecked
import GoSem.Claim
import GoSem.ClaimJoined
import GoSem.ClaimMapViews
import Derived.JoinedTies
import Derived.KernelRfl
namespace Go.Proofs.Qxb6603649a
/- THE CELL 'sum', in the pinned program and in every row, IS THE sha256 OF THE DUMP (.gsa) THAT Qxb6603649aProg.lean LOADS. Nothing in Lean hashes anything: it is a label: what it is worth is what the hold of that sum in a sandbox is worth. -/
noncomputable def Try.pinned : Pinned := { name := "qxb6603649a", sum := "a6b72b75f63a6b5d14f83754cd4ddbd04b2c63e8f52404cd9dd0a2cbc4b4002e", checked := Try.checked }
namespace Rows
def none {H : Type} : Left H := { results := [], args := [] }

/-- 'zzlaws_internal_store_b1.FnLeftOutIsTheSetOfNamedNodes': WHATEVER THE INPUT: true; the input reads as it did. -/
def fnLeftOutIsTheSetOfNamedNodesSpec : ChangeSpec := { name := "fnLeftOutIsTheSetOfNamedNodes", fn := fun _ => fun
  | [d1, d2] => { results := [.lit (.bool true)], args := [d1, d2] }
  | _ => none }
def fnLeftOutIsTheSetOfNamedNodesRow : OpenClaim := { program := "qxb6603649a", sum := "a6b72b75f63a6b5d14f83754cd4ddbd04b2c63e8f52404cd9dd0a2cbc4b4002e", func := "example.com/tideline/tideline/zzlaws_internal_store_b1.FnLeftOutIsTheSetOfNamedNodes", spec := "fnLeftOutIsTheSetOfNamedNodes", apart := false }
def FnLeftOutIsTheSetOfNamedNodesSaid : Prop := fnLeftOutIsTheSetOfNamedNodesRow.holds Try.pinned (OpenSpec.ofChange fnLeftOutIsTheSetOfNamedNodesSpec)

/-- ITS FALSE NEIGHBOUR: 'it returns false'. Refute it at one input. -/
def fnLeftOutIsTheSetOfNamedNodesWrong : ChangeSpec := { name := "fnLeftOutIsTheSetOfNamedNodes", fn := fun _ => fun
  | [d1, d2] => { results := [.lit (.bool false)], args := [d1, d2] }
  | _ => none }
def FnLeftOutIsTheSetOfNamedNodesWrongFalsely : Prop := fnLeftOutIsTheSetOfNamedNodesRow.holds Try.pinned (OpenSpec.ofChange fnLeftOutIsTheSetOfNamedNodesWrong)

/-- 'zzlaws_internal_store_b1.FnLeftOutSparesExactlyTheNamedNodes': WHATEVER THE INPUT: true; the input reads as it did. -/
def fnLeftOutSparesExactlyTheNamedNodesSpec : ChangeSpec := { name := "fnLeftOutSparesExactlyTheNamedNodes", fn := fun _ => fun
  | [d1, d2, d3] => { results := [.lit (.bool true)], args := [d1, d2, d3] }
  | _ => none }
def fnLeftOutSparesExactlyTheNamedNodesRow : OpenClaim := { program := "qxb6603649a", sum := "a6b72b75f63a6b5d14f83754cd4ddbd04b2c63e8f52404cd9dd0a2cbc4b4002e", func := "example.com/tideline/tideline/zzlaws_internal_store_b1.FnLeftOutSparesExactlyTheNamedNodes", spec := "fnLeftOutSparesExactlyTheNamedNodes", apart := false }
def FnLeftOutSparesExactlyTheNamedNodesSaid : Prop := fnLeftOutSparesExactlyTheNamedNodesRow.holds Try.pinned (OpenSpec.ofChange fnLeftOutSparesExactlyTheNamedNodesSpec)

/-- ITS FALSE NEIGHBOUR: 'it returns false'. Refute it at one input. -/
def fnLeftOutSparesExactlyTheNamedNodesWrong : ChangeSpec := { name := "fnLeftOutSparesExactlyTheNamedNodes", fn := fun _ => fun
  | [d1, d2, d3] => { results := [.lit (.bool false)], args := [d1, d2, d3] }
  | _ => none }
def FnLeftOutSparesExactlyTheNamedNodesWrongFalsely : Prop := fnLeftOutSparesExactlyTheNamedNodesRow.holds Try.pinned (OpenSpec.ofChange fnLeftOutSparesExactlyTheNamedNodesWrong)

/-- 'zzlaws_internal_store_b1.FnBehindIsSomeDeadlinePassed': WHATEVER THE INPUT: true; the input reads as it did. -/
def fnBehindIsSomeDeadlinePassedSpec : ChangeSpec := { name := "fnBehindIsSomeDeadlinePassed", fn := fun _ => fun
  | [d1, d2, d3, d4, d5] => { results := [.lit (.bool true)], args := [d1, d2, d3, d4, d5] }
  | _ => none }
def fnBehindIsSomeDeadlinePassedRow : OpenClaim := { program := "qxb6603649a", sum := "a6b72b75f63a6b5d14f83754cd4ddbd04b2c63e8f52404cd9dd0a2cbc4b4002e", func := "example.com/tideline/tideline/zzlaws_internal_store_b1.FnBehindIsSomeDeadlinePassed", spec := "fnBehindIsSomeDeadlinePassed", apart := false }
def FnBehindIsSomeDeadlinePassedSaid : Prop := fnBehindIsSomeDeadlinePassedRow.holds Try.pinned (OpenSpec.ofChange fnBehindIsSomeDeadlinePassedSpec)

/-- ITS FALSE NEIGHBOUR: 'it returns false'. Refute it at one input. -/
def fnBehindIsSomeDeadlinePassedWrong : ChangeSpec := { name := "fnBehindIsSomeDeadlinePassed", fn := fun _ => fun
  | [d1, d2, d3, d4, d5] => { results := [.lit (.bool false)], args := [d1, d2, d3, d4, d5] }
  | _ => none }
def FnBehindIsSomeDeadlinePassedWrongFalsely : Prop := fnBehindIsSomeDeadlinePassedRow.holds Try.pinned (OpenSpec.ofChange fnBehindIsSomeDeadlinePassedWrong)

/-- 'zzlaws_internal_store_b1.FnBehindTurnsTrueAtTheEarliestDeadline': WHATEVER THE INPUT: true; the input reads as it did. -/
def fnBehindTurnsTrueAtTheEarliestDeadlineSpec : ChangeSpec := { name := "fnBehindTurnsTrueAtTheEarliestDeadline", fn := fun _ => fun
  | [d1, d2, d3] => { results := [.lit (.bool true)], args := [d1, d2, d3] }
  | _ => none }
def fnBehindTurnsTrueAtTheEarliestDeadlineRow : OpenClaim := { program := "qxb6603649a", sum := "a6b72b75f63a6b5d14f83754cd4ddbd04b2c63e8f52404cd9dd0a2cbc4b4002e", func := "example.com/tideline/tideline/zzlaws_internal_store_b1.FnBehindTurnsTrueAtTheEarliestDeadline", spec := "fnBehindTurnsTrueAtTheEarliestDeadline", apart := false }
def FnBehindTurnsTrueAtTheEarliestDeadlineSaid : Prop := fnBehindTurnsTrueAtTheEarliestDeadlineRow.holds Try.pinned (OpenSpec.ofChange fnBehindTurnsTrueAtTheEarliestDeadlineSpec)

/-- ITS FALSE NEIGHBOUR: 'it returns false'. Refute it at one input. -/
def fnBehindTurnsTrueAtTheEarliestDeadlineWrong : ChangeSpec := { name := "fnBehindTurnsTrueAtTheEarliestDeadline", fn := fun _ => fun
  | [d1, d2, d3] => { results := [.lit (.bool false)], args := [d1, d2, d3] }
  | _ => none }
def FnBehindTurnsTrueAtTheEarliestDeadlineWrongFalsely : Prop := fnBehindTurnsTrueAtTheEarliestDeadlineRow.holds Try.pinned (OpenSpec.ofChange fnBehindTurnsTrueAtTheEarliestDeadlineWrong)

end Rows
end Go.Proofs.Qxb6603649a
