/-
  No cell of these rows narrows 'for every input' (looked for: loops, veiled, ifaces, maps, wideKeys, modest, calm, conditions, laid).
  DERIVED. THE GIVEN ROWS OF THIS SEAT. 4 by the template 'for every input the law returns true; each argument reads behind the call as it read before'; 0 by the template 'total and deterministic' (their statements: Qxb6614209aTotals.lean).
  GIVEN WITH THE SEED: the statements are not yours to turn. If you find one false, say at which input.
  Laid BY PROGRAM, IN A SANDBOX (cutbox-rows.mjs): the forced cells as the released guide's own fill.sh prints them over the translation 03976fd2ad07e8f8… (all of the seat's roots in one cut). By AI agents, Wed Nov 11 2026. No macro, syntax, notation, axiom, sorry.
-/
import Derived.Test.Qxb6614209aChecked
import GoSem.Claim
import GoSem.ClaimJoined
import GoSem.ClaimMapViews
import Derived.JoinedTies
import Derived.KernelRfl
namespace Go.Proofs.Qxb6614209a
/- THE CELL 'sum', in the pinned program and in every row, IS THE sha256 OF THE DUMP (.gsa) THAT Qxb6614209aProg.lean LOADS. Nothing in Lean hashes anything: it is a label: what it is worth is what the hold of that sum in a sandbox is worth. -/
noncomputable def Try.pinned : Pinned := { name := "qxb6614209a", sum := "03976fd2ad07e8f84855af29b3b472bf346ba45734c485f08a9713aba5d76060", checked := Try.checked }
namespace Rows
def none {H : Type} : Left H := { results := [], args := [] }

/-- 'zzlaws_store_b1.FnGrantsReachingPastesArguments': WHATEVER THE INPUT: true; the input reads as it did. -/
def fnGrantsReachingPastesArgumentsSpec : ChangeSpec := { name := "fnGrantsReachingPastesArguments", fn := fun _ => fun
  | [d1, d2] => { results := [.lit (.bool true)], args := [d1, d2] }
  | _ => none }
def fnGrantsReachingPastesArgumentsRow : OpenClaim := { program := "qxb6614209a", sum := "03976fd2ad07e8f84855af29b3b472bf346ba45734c485f08a9713aba5d76060", func := "example.com/fuda/fuda/zzlaws_store_b1.FnGrantsReachingPastesArguments", spec := "fnGrantsReachingPastesArguments", apart := false }
def FnGrantsReachingPastesArgumentsSaid : Prop := fnGrantsReachingPastesArgumentsRow.holds Try.pinned (OpenSpec.ofChange fnGrantsReachingPastesArgumentsSpec)

/-- ITS FALSE NEIGHBOUR: 'it returns false'. Refute it at one input. -/
def fnGrantsReachingPastesArgumentsWrong : ChangeSpec := { name := "fnGrantsReachingPastesArguments", fn := fun _ => fun
  | [d1, d2] => { results := [.lit (.bool false)], args := [d1, d2] }
  | _ => none }
def FnGrantsReachingPastesArgumentsWrongFalsely : Prop := fnGrantsReachingPastesArgumentsRow.holds Try.pinned (OpenSpec.ofChange fnGrantsReachingPastesArgumentsWrong)

/-- 'zzlaws_store_b1.FnGrantsReachingSharesRolesCondition': WHATEVER THE INPUT: true; the input reads as it did. -/
def fnGrantsReachingSharesRolesConditionSpec : ChangeSpec := { name := "fnGrantsReachingSharesRolesCondition", fn := fun _ => fun
  | [d1, d2] => { results := [.lit (.bool true)], args := [d1, d2] }
  | _ => none }
def fnGrantsReachingSharesRolesConditionRow : OpenClaim := { program := "qxb6614209a", sum := "03976fd2ad07e8f84855af29b3b472bf346ba45734c485f08a9713aba5d76060", func := "example.com/fuda/fuda/zzlaws_store_b1.FnGrantsReachingSharesRolesCondition", spec := "fnGrantsReachingSharesRolesCondition", apart := false }
def FnGrantsReachingSharesRolesConditionSaid : Prop := fnGrantsReachingSharesRolesConditionRow.holds Try.pinned (OpenSpec.ofChange fnGrantsReachingSharesRolesConditionSpec)

/-- ITS FALSE NEIGHBOUR: 'it returns false'. Refute it at one input. -/
def fnGrantsReachingSharesRolesConditionWrong : ChangeSpec := { name := "fnGrantsReachingSharesRolesCondition", fn := fun _ => fun
  | [d1, d2] => { results := [.lit (.bool false)], args := [d1, d2] }
  | _ => none }
def FnGrantsReachingSharesRolesConditionWrongFalsely : Prop := fnGrantsReachingSharesRolesConditionRow.holds Try.pinned (OpenSpec.ofChange fnGrantsReachingSharesRolesConditionWrong)

/-- 'zzlaws_store_b1.FnRelationColumnsPastesArguments': WHATEVER THE INPUT: true; the input reads as it did. -/
def fnRelationColumnsPastesArgumentsSpec : ChangeSpec := { name := "fnRelationColumnsPastesArguments", fn := fun _ => fun
  | [d1, d2] => { results := [.lit (.bool true)], args := [d1, d2] }
  | _ => none }
def fnRelationColumnsPastesArgumentsRow : OpenClaim := { program := "qxb6614209a", sum := "03976fd2ad07e8f84855af29b3b472bf346ba45734c485f08a9713aba5d76060", func := "example.com/fuda/fuda/zzlaws_store_b1.FnRelationColumnsPastesArguments", spec := "fnRelationColumnsPastesArguments", apart := false }
def FnRelationColumnsPastesArgumentsSaid : Prop := fnRelationColumnsPastesArgumentsRow.holds Try.pinned (OpenSpec.ofChange fnRelationColumnsPastesArgumentsSpec)

/-- ITS FALSE NEIGHBOUR: 'it returns false'. Refute it at one input. -/
def fnRelationColumnsPastesArgumentsWrong : ChangeSpec := { name := "fnRelationColumnsPastesArguments", fn := fun _ => fun
  | [d1, d2] => { results := [.lit (.bool false)], args := [d1, d2] }
  | _ => none }
def FnRelationColumnsPastesArgumentsWrongFalsely : Prop := fnRelationColumnsPastesArgumentsRow.holds Try.pinned (OpenSpec.ofChange fnRelationColumnsPastesArgumentsWrong)

/-- 'zzlaws_store_b1.FnRelationColumnsRolesAgreeWithJoin': WHATEVER THE INPUT: true; the input reads as it did. -/
def fnRelationColumnsRolesAgreeWithJoinSpec : ChangeSpec := { name := "fnRelationColumnsRolesAgreeWithJoin", fn := fun _ => fun
  | [d1, d2, d3] => { results := [.lit (.bool true)], args := [d1, d2, d3] }
  | _ => none }
def fnRelationColumnsRolesAgreeWithJoinRow : OpenClaim := { program := "qxb6614209a", sum := "03976fd2ad07e8f84855af29b3b472bf346ba45734c485f08a9713aba5d76060", func := "example.com/fuda/fuda/zzlaws_store_b1.FnRelationColumnsRolesAgreeWithJoin", spec := "fnRelationColumnsRolesAgreeWithJoin", apart := false }
def FnRelationColumnsRolesAgreeWithJoinSaid : Prop := fnRelationColumnsRolesAgreeWithJoinRow.holds Try.pinned (OpenSpec.ofChange fnRelationColumnsRolesAgreeWithJoinSpec)

/-- ITS FALSE NEIGHBOUR: 'it returns false'. Refute it at one input. -/
def fnRelationColumnsRolesAgreeWithJoinWrong : ChangeSpec := { name := "fnRelationColumnsRolesAgreeWithJoin", fn := fun _ => fun
  | [d1, d2, d3] => { results := [.lit (.bool false)], args := [d1, d2, d3] }
  | _ => none }
def FnRelationColumnsRolesAgreeWithJoinWrongFalsely : Prop := fnRelationColumnsRolesAgreeWithJoinRow.holds Try.pinned (OpenSpec.ofChange fnRelationColumnsRolesAgreeWithJoinWrong)

end Rows
end Go.Proofs.Qxb6614209a
