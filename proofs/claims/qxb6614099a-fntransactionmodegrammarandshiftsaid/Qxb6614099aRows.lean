/-
  No cell of these rows narrows 'for every input' (looked for: loops, veiled, ifaces, maps, wideKeys, modest, calm, conditions, laid).
  DERIVED. THE GIVEN ROWS OF THIS SEAT. 2 by the template 'for every input the law returns true; each argument reads behind the call as it read before'; 0 by the template 'total and deterministic' (their statements: Qxb6614099aTotals.lean).
  GIVEN WITH THE SEED: the statements are not yours to turn. If you find one false, say at which input.
  Laid BY PROGRAM, IN A SANDBOX (cutbox-rows.mjs): the forced cells as the released guide's own fill.sh prints them over the translation d899e06bef7122d8… (all of the seat's roots in one cut). By AI agents, Wed Nov 11 2026. No macro, syntax, notation, axiom, sorry.
-/
import Derived.Test.Qxb6614099aChecked
import GoSem.Claim
import GoSem.ClaimJoined
import GoSem.ClaimMapViews
import Derived.JoinedTies
import Derived.KernelRfl
namespace Go.Proofs.Qxb6614099a
/- THE CELL 'sum', in the pinned program and in every row, IS THE sha256 OF THE DUMP (.gsa) THAT Qxb6614099aProg.lean LOADS. Nothing in Lean hashes anything: it is a label: what it is worth is what the hold of that sum in a sandbox is worth. -/
noncomputable def Try.pinned : Pinned := { name := "qxb6614099a", sum := "d899e06bef7122d82b341ce60256b0f6dde63a32083d569e9a4e94505a2d714b", checked := Try.checked }
namespace Rows
def none {H : Type} : Left H := { results := [], args := [] }

/-- 'zzlaws_pkg_sql_b1.FnTransactionModeGrammarAndShift': WHATEVER THE INPUT: true; the input reads as it did. -/
def fnTransactionModeGrammarAndShiftSpec : ChangeSpec := { name := "fnTransactionModeGrammarAndShift", fn := fun _ => fun
  | [d1, d2, d3, d4, d5, d6, d7] => { results := [.lit (.bool true)], args := [d1, d2, d3, d4, d5, d6, d7] }
  | _ => none }
def fnTransactionModeGrammarAndShiftRow : OpenClaim := { program := "qxb6614099a", sum := "d899e06bef7122d82b341ce60256b0f6dde63a32083d569e9a4e94505a2d714b", func := "example.com/chronoshard/chronoshard/zzlaws_pkg_sql_b1.FnTransactionModeGrammarAndShift", spec := "fnTransactionModeGrammarAndShift", apart := false }
def FnTransactionModeGrammarAndShiftSaid : Prop := fnTransactionModeGrammarAndShiftRow.holds Try.pinned (OpenSpec.ofChange fnTransactionModeGrammarAndShiftSpec)

/-- ITS FALSE NEIGHBOUR: 'it returns false'. Refute it at one input. -/
def fnTransactionModeGrammarAndShiftWrong : ChangeSpec := { name := "fnTransactionModeGrammarAndShift", fn := fun _ => fun
  | [d1, d2, d3, d4, d5, d6, d7] => { results := [.lit (.bool false)], args := [d1, d2, d3, d4, d5, d6, d7] }
  | _ => none }
def FnTransactionModeGrammarAndShiftWrongFalsely : Prop := fnTransactionModeGrammarAndShiftRow.holds Try.pinned (OpenSpec.ofChange fnTransactionModeGrammarAndShiftWrong)

/-- 'zzlaws_pkg_sql_b1.FnTransactionModeStopsWhereUnexpected': WHATEVER THE INPUT: true; the input reads as it did. -/
def fnTransactionModeStopsWhereUnexpectedSpec : ChangeSpec := { name := "fnTransactionModeStopsWhereUnexpected", fn := fun _ => fun
  | [d1, d2, d3, d4, d5, d6] => { results := [.lit (.bool true)], args := [d1, d2, d3, d4, d5, d6] }
  | _ => none }
def fnTransactionModeStopsWhereUnexpectedRow : OpenClaim := { program := "qxb6614099a", sum := "d899e06bef7122d82b341ce60256b0f6dde63a32083d569e9a4e94505a2d714b", func := "example.com/chronoshard/chronoshard/zzlaws_pkg_sql_b1.FnTransactionModeStopsWhereUnexpected", spec := "fnTransactionModeStopsWhereUnexpected", apart := false }
def FnTransactionModeStopsWhereUnexpectedSaid : Prop := fnTransactionModeStopsWhereUnexpectedRow.holds Try.pinned (OpenSpec.ofChange fnTransactionModeStopsWhereUnexpectedSpec)

/-- ITS FALSE NEIGHBOUR: 'it returns false'. Refute it at one input. -/
def fnTransactionModeStopsWhereUnexpectedWrong : ChangeSpec := { name := "fnTransactionModeStopsWhereUnexpected", fn := fun _ => fun
  | [d1, d2, d3, d4, d5, d6] => { results := [.lit (.bool false)], args := [d1, d2, d3, d4, d5, d6] }
  | _ => none }
def FnTransactionModeStopsWhereUnexpectedWrongFalsely : Prop := fnTransactionModeStopsWhereUnexpectedRow.holds Try.pinned (OpenSpec.ofChange fnTransactionModeStopsWhereUnexpectedWrong)

end Rows
end Go.Proofs.Qxb6614099a
