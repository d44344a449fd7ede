/-
  No cell of these rows narrows 'for every input' (looked for: loops, veiled, ifaces, maps, wideKeys, modest, calm, conditions, laid).
  DERIVED. THE GIVEN ROWS OF THIS SEAT. 3 by the template 'for every input the law returns true; each argument reads behind the call as it read before'; 0 by the template 'total and deterministic' (their statements: Qxb6608869aTotals.lean).
  GIVEN WITH THE SEED: the statements are not yours to turn. If you find one false, say at which input.
  Laid BY PROGRAM, IN A SANDBOX (cutbox-rows.mjs): the forced cells as the released guide's own fill.sh prints them over the translation 2ea36ef869a40b55… (all of the seat's roots in one cut). By AI agents, Wed Nov 11 2026. No macro, syntax, notation, axiom, sorry.
-/
import Derived.Test.Qxb6608869aChecked
import GoSem.Claim
import GoSem.ClaimJoined
import GoSem.ClaimMapViews
import Derived.JoinedTies
import Derived.KernelRfl
namespace Go.Proofs.Qxb6608869a
/- THE CELL 'sum', in the pinned program and in every row, IS THE sha256 OF THE DUMP (.gsa) THAT Qxb6608869aProg.lean LOADS. Nothing in Lean hashes anything: it is a label: what it is worth is what the hold of that sum in a sandbox is worth. -/
noncomputable def Try.pinned : Pinned := { name := "qxb6608869a", sum := "2ea36ef869a40b5597825e94fe0d7fb10b404f5f3bc70eb0e13a4cdcc69f0f8d", checked := Try.checked }
namespace Rows
def none {H : Type} : Left H := { results := [], args := [] }

/-- 'zzlaws_plan_b1.FnFirstServiceMonthStepsWithCalendar': WHATEVER THE INPUT: true; the input reads as it did. -/
def fnFirstServiceMonthStepsWithCalendarSpec : ChangeSpec := { name := "fnFirstServiceMonthStepsWithCalendar", fn := fun _ => fun
  | [d1, d2, d3, d4] => { results := [.lit (.bool true)], args := [d1, d2, d3, d4] }
  | _ => none }
def fnFirstServiceMonthStepsWithCalendarRow : OpenClaim := { program := "qxb6608869a", sum := "2ea36ef869a40b5597825e94fe0d7fb10b404f5f3bc70eb0e13a4cdcc69f0f8d", func := "example.com/vestwright/vestwright/zzlaws_plan_b1.FnFirstServiceMonthStepsWithCalendar", spec := "fnFirstServiceMonthStepsWithCalendar", apart := false }
def FnFirstServiceMonthStepsWithCalendarSaid : Prop := fnFirstServiceMonthStepsWithCalendarRow.holds Try.pinned (OpenSpec.ofChange fnFirstServiceMonthStepsWithCalendarSpec)

/-- ITS FALSE NEIGHBOUR: 'it returns false'. Refute it at one input. -/
def fnFirstServiceMonthStepsWithCalendarWrong : ChangeSpec := { name := "fnFirstServiceMonthStepsWithCalendar", fn := fun _ => fun
  | [d1, d2, d3, d4] => { results := [.lit (.bool false)], args := [d1, d2, d3, d4] }
  | _ => none }
def FnFirstServiceMonthStepsWithCalendarWrongFalsely : Prop := fnFirstServiceMonthStepsWithCalendarRow.holds Try.pinned (OpenSpec.ofChange fnFirstServiceMonthStepsWithCalendarWrong)

/-- 'zzlaws_plan_b1.FnAmountShiftComposes': WHATEVER THE INPUT: true; the input reads as it did. -/
def fnAmountShiftComposesSpec : ChangeSpec := { name := "fnAmountShiftComposes", fn := fun _ => fun
  | [d1, d2, d3, d4, d5, d6] => { results := [.lit (.bool true)], args := [d1, d2, d3, d4, d5, d6] }
  | _ => none }
def fnAmountShiftComposesRow : OpenClaim := { program := "qxb6608869a", sum := "2ea36ef869a40b5597825e94fe0d7fb10b404f5f3bc70eb0e13a4cdcc69f0f8d", func := "example.com/vestwright/vestwright/zzlaws_plan_b1.FnAmountShiftComposes", spec := "fnAmountShiftComposes", apart := false }
def FnAmountShiftComposesSaid : Prop := fnAmountShiftComposesRow.holds Try.pinned (OpenSpec.ofChange fnAmountShiftComposesSpec)

/-- ITS FALSE NEIGHBOUR: 'it returns false'. Refute it at one input. -/
def fnAmountShiftComposesWrong : ChangeSpec := { name := "fnAmountShiftComposes", fn := fun _ => fun
  | [d1, d2, d3, d4, d5, d6] => { results := [.lit (.bool false)], args := [d1, d2, d3, d4, d5, d6] }
  | _ => none }
def FnAmountShiftComposesWrongFalsely : Prop := fnAmountShiftComposesRow.holds Try.pinned (OpenSpec.ofChange fnAmountShiftComposesWrong)

/-- 'zzlaws_plan_b1.FnAmountShiftUndoneAndBuilt': WHATEVER THE INPUT: true; the input reads as it did. -/
def fnAmountShiftUndoneAndBuiltSpec : ChangeSpec := { name := "fnAmountShiftUndoneAndBuilt", fn := fun _ => fun
  | [d1, d2, d3, d4, d5] => { results := [.lit (.bool true)], args := [d1, d2, d3, d4, d5] }
  | _ => none }
def fnAmountShiftUndoneAndBuiltRow : OpenClaim := { program := "qxb6608869a", sum := "2ea36ef869a40b5597825e94fe0d7fb10b404f5f3bc70eb0e13a4cdcc69f0f8d", func := "example.com/vestwright/vestwright/zzlaws_plan_b1.FnAmountShiftUndoneAndBuilt", spec := "fnAmountShiftUndoneAndBuilt", apart := false }
def FnAmountShiftUndoneAndBuiltSaid : Prop := fnAmountShiftUndoneAndBuiltRow.holds Try.pinned (OpenSpec.ofChange fnAmountShiftUndoneAndBuiltSpec)

/-- ITS FALSE NEIGHBOUR: 'it returns false'. Refute it at one input. -/
def fnAmountShiftUndoneAndBuiltWrong : ChangeSpec := { name := "fnAmountShiftUndoneAndBuilt", fn := fun _ => fun
  | [d1, d2, d3, d4, d5] => { results := [.lit (.bool false)], args := [d1, d2, d3, d4, d5] }
  | _ => none }
def FnAmountShiftUndoneAndBuiltWrongFalsely : Prop := fnAmountShiftUndoneAndBuiltRow.holds Try.pinned (OpenSpec.ofChange fnAmountShiftUndoneAndBuiltWrong)

end Rows
end Go.Proofs.Qxb6608869a
