/-
  No cell of these rows narrows 'for every input' (looked for: loops, veiled, ifaces, maps, wideKeys, modest, calm, conditions, laid).
  DERIVED. THE GIVEN ROWS OF THIS SEAT. 2 by the template 'for every input the law returns true; each argument reads behind the call as it read before'; 0 by the template 'total and deterministic' (their statements: Qxb6632628aTotals.lean).
  GIVEN WITH THE SEED: the statements are not yours to turn. If you find one false, say at which input.
  Laid BY PROGRAM, IN A SANDBOX (cutbox-rows.mjs): the forced cells as the released guide's own fill.sh prints them over the translation 0c9ce650226cf96b… (all of the seat's roots in one cut). By AI agents, Wed Nov 11 2026. No macro, syntax, notation, axiom, sorry.
-/
import Derived.Test.Qxb6632628aChecked
import GoSem.Claim
import GoSem.ClaimJoined
import GoSem.ClaimMapViews
import Derived.JoinedTies
import Derived.KernelRfl
namespace Go.Proofs.Qxb6632628a
/- THE CELL 'sum', in the pinned program and in every row, IS THE sha256 OF THE DUMP (.gsa) THAT Qxb6632628aProg.lean LOADS. Nothing in Lean hashes anything: it is a label: what it is worth is what the hold of that sum in a sandbox is worth. -/
noncomputable def Try.pinned : Pinned := { name := "qxb6632628a", sum := "0c9ce650226cf96bcb07a9e749f3e75e3dd8dbb2905e9bd6e2fe750a9952e0d1", checked := Try.checked }
namespace Rows
def none {H : Type} : Left H := { results := [], args := [] }

/-- 'zzlaws_outline_b1.FnAtIsInnermostEarliest': WHATEVER THE INPUT: true; the input reads as it did. -/
def fnAtIsInnermostEarliestSpec : ChangeSpec := { name := "fnAtIsInnermostEarliest", fn := fun _ => fun
  | [d1, d2] => { results := [.lit (.bool true)], args := [d1, d2] }
  | _ => none }
def fnAtIsInnermostEarliestRow : OpenClaim := { program := "qxb6632628a", sum := "0c9ce650226cf96bcb07a9e749f3e75e3dd8dbb2905e9bd6e2fe750a9952e0d1", func := "example.com/patchwright/patchwright/zzlaws_outline_b1.FnAtIsInnermostEarliest", spec := "fnAtIsInnermostEarliest", apart := false }
def FnAtIsInnermostEarliestSaid : Prop := fnAtIsInnermostEarliestRow.holds Try.pinned (OpenSpec.ofChange fnAtIsInnermostEarliestSpec)

/-- ITS FALSE NEIGHBOUR: 'it returns false'. Refute it at one input. -/
def fnAtIsInnermostEarliestWrong : ChangeSpec := { name := "fnAtIsInnermostEarliest", fn := fun _ => fun
  | [d1, d2] => { results := [.lit (.bool false)], args := [d1, d2] }
  | _ => none }
def FnAtIsInnermostEarliestWrongFalsely : Prop := fnAtIsInnermostEarliestRow.holds Try.pinned (OpenSpec.ofChange fnAtIsInnermostEarliestWrong)

/-- 'zzlaws_outline_b1.FnAtInsertOne': WHATEVER THE INPUT: true; the input reads as it did. -/
def fnAtInsertOneSpec : ChangeSpec := { name := "fnAtInsertOne", fn := fun _ => fun
  | [d1, d2, d3, d4, d5, d6] => { results := [.lit (.bool true)], args := [d1, d2, d3, d4, d5, d6] }
  | _ => none }
def fnAtInsertOneRow : OpenClaim := { program := "qxb6632628a", sum := "0c9ce650226cf96bcb07a9e749f3e75e3dd8dbb2905e9bd6e2fe750a9952e0d1", func := "example.com/patchwright/patchwright/zzlaws_outline_b1.FnAtInsertOne", spec := "fnAtInsertOne", apart := false }
def FnAtInsertOneSaid : Prop := fnAtInsertOneRow.holds Try.pinned (OpenSpec.ofChange fnAtInsertOneSpec)

/-- ITS FALSE NEIGHBOUR: 'it returns false'. Refute it at one input. -/
def fnAtInsertOneWrong : ChangeSpec := { name := "fnAtInsertOne", fn := fun _ => fun
  | [d1, d2, d3, d4, d5, d6] => { results := [.lit (.bool false)], args := [d1, d2, d3, d4, d5, d6] }
  | _ => none }
def FnAtInsertOneWrongFalsely : Prop := fnAtInsertOneRow.holds Try.pinned (OpenSpec.ofChange fnAtInsertOneWrong)

end Rows
end Go.Proofs.Qxb6632628a
