/-
  No cell of these rows narrows 'for every input' (looked for: loops, veiled, ifaces, maps, wideKeys, modest, calm, conditions, laid).
  DERIVED. THE GIVEN ROWS OF THIS SEAT. 2 by the template 'for every input the law returns true; each argument reads behind the call as it read before'; 0 by the template 'total and deterministic' (their statements: Qxb6632535aTotals.lean).
  GIVEN WITH THE SEED: the statements are not yours to turn. If you find one false, say at which input.
  Laid BY PROGRAM, IN A SANDBOX (cutbox-rows.mjs): the forced cells as the released guide's own fill.sh prints them over the translation 2222ef6a4faed561… (all of the seat's roots in one cut). By AI agents, Wed Nov 11 2026. No macro, syntax, notation, axiom, sorry.
-/
import Derived.Test.Qxb6632535aChecked
import GoSem.Claim
import GoSem.ClaimJoined
import GoSem.ClaimMapViews
import Derived.JoinedTies
import Derived.KernelRfl
namespace Go.Proofs.Qxb6632535a
/- THE CELL 'sum', in the pinned program and in every row, IS THE sha256 OF THE DUMP (.gsa) THAT Qxb6632535aProg.lean LOADS. Nothing in Lean hashes anything: it is a label: what it is worth is what the hold of that sum in a sandbox is worth. -/
noncomputable def Try.pinned : Pinned := { name := "qxb6632535a", sum := "2222ef6a4faed5610bc8d92355987306e88740b920726cb7f1dbc4797ef6e6dc", checked := Try.checked }
namespace Rows
def none {H : Type} : Left H := { results := [], args := [] }

/-- 'zzlaws_plan_b1.FnTransactionsCutsAfterLeadingCommitted': WHATEVER THE INPUT: true; the input reads as it did. -/
def fnTransactionsCutsAfterLeadingCommittedSpec : ChangeSpec := { name := "fnTransactionsCutsAfterLeadingCommitted", fn := fun _ => fun
  | [d] => { results := [.lit (.bool true)], args := [d] }
  | _ => none }
def fnTransactionsCutsAfterLeadingCommittedRow : OpenClaim := { program := "qxb6632535a", sum := "2222ef6a4faed5610bc8d92355987306e88740b920726cb7f1dbc4797ef6e6dc", func := "example.com/tablewright/tablewright/zzlaws_plan_b1.FnTransactionsCutsAfterLeadingCommitted", spec := "fnTransactionsCutsAfterLeadingCommitted", apart := false }
def FnTransactionsCutsAfterLeadingCommittedSaid : Prop := fnTransactionsCutsAfterLeadingCommittedRow.holds Try.pinned (OpenSpec.ofChange fnTransactionsCutsAfterLeadingCommittedSpec)

/-- ITS FALSE NEIGHBOUR: 'it returns false'. Refute it at one input. -/
def fnTransactionsCutsAfterLeadingCommittedWrong : ChangeSpec := { name := "fnTransactionsCutsAfterLeadingCommitted", fn := fun _ => fun
  | [d] => { results := [.lit (.bool false)], args := [d] }
  | _ => none }
def FnTransactionsCutsAfterLeadingCommittedWrongFalsely : Prop := fnTransactionsCutsAfterLeadingCommittedRow.holds Try.pinned (OpenSpec.ofChange fnTransactionsCutsAfterLeadingCommittedWrong)

/-- 'zzlaws_plan_b1.FnTransactionsEachPartIsOneTransaction': WHATEVER THE INPUT: true; the input reads as it did. -/
def fnTransactionsEachPartIsOneTransactionSpec : ChangeSpec := { name := "fnTransactionsEachPartIsOneTransaction", fn := fun _ => fun
  | [d] => { results := [.lit (.bool true)], args := [d] }
  | _ => none }
def fnTransactionsEachPartIsOneTransactionRow : OpenClaim := { program := "qxb6632535a", sum := "2222ef6a4faed5610bc8d92355987306e88740b920726cb7f1dbc4797ef6e6dc", func := "example.com/tablewright/tablewright/zzlaws_plan_b1.FnTransactionsEachPartIsOneTransaction", spec := "fnTransactionsEachPartIsOneTransaction", apart := false }
def FnTransactionsEachPartIsOneTransactionSaid : Prop := fnTransactionsEachPartIsOneTransactionRow.holds Try.pinned (OpenSpec.ofChange fnTransactionsEachPartIsOneTransactionSpec)

/-- ITS FALSE NEIGHBOUR: 'it returns false'. Refute it at one input. -/
def fnTransactionsEachPartIsOneTransactionWrong : ChangeSpec := { name := "fnTransactionsEachPartIsOneTransaction", fn := fun _ => fun
  | [d] => { results := [.lit (.bool false)], args := [d] }
  | _ => none }
def FnTransactionsEachPartIsOneTransactionWrongFalsely : Prop := fnTransactionsEachPartIsOneTransactionRow.holds Try.pinned (OpenSpec.ofChange fnTransactionsEachPartIsOneTransactionWrong)

end Rows
end Go.Proofs.Qxb6632535a
