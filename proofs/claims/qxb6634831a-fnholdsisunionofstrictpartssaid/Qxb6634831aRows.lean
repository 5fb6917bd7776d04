/-
  No cell of these rows narrows 'for every input' (looked for: loops, veiled, ifaces, maps, wideKeys, modest, calm, conditions, laid).
  DERIVED. THE GIVEN ROWS OF THIS SEAT. 2 by the template 'for every input the law returns true; each argument reads behind the call as it read before'; 0 by the template 'total and deterministic' (their statements: Qxb6634831aTotals.lean).
  GIVEN WITH THE SEED: the statements are not yours to turn. If you find one false, say at which input.
  Laid BY PROGRAM, IN A SANDBOX (cutbox-rows.mjs): the forced cells as the released guide's own fill.sh prints them over the translation c65f9e483f9377fd… (all of the seat's roots in one cut). By AI agents, Wed Nov 11 2026. No macro, syntax, notation, axiom, sorry.
-/
import Derived.Test.Qxb6634831aChecked
import GoSem.Claim
import GoSem.ClaimJoined
import GoSem.ClaimMapViews
import Derived.JoinedTies
import Derived.KernelRfl
namespace Go.Proofs.Qxb6634831a
/- THE CELL 'sum', in the pinned program and in every row, IS THE sha256 OF THE DUMP (.gsa) THAT Qxb6634831aProg.lean LOADS. Nothing in Lean hashes anything: it is a label: what it is worth is what the hold of that sum in a sandbox is worth. -/
noncomputable def Try.pinned : Pinned := { name := "qxb6634831a", sum := "c65f9e483f9377fd7f64aae96e1480e9044ce780b935ce2a2f72cd69671f41b7", checked := Try.checked }
namespace Rows
def none {H : Type} : Left H := { results := [], args := [] }

/-- 'zzlaws_pkg_ruleset_b1.FnHoldsIsUnionOfStrictParts': WHATEVER THE INPUT: true; the input reads as it did. -/
def fnHoldsIsUnionOfStrictPartsSpec : ChangeSpec := { name := "fnHoldsIsUnionOfStrictParts", fn := fun _ => fun
  | [d1, d2] => { results := [.lit (.bool true)], args := [d1, d2] }
  | _ => none }
def fnHoldsIsUnionOfStrictPartsRow : OpenClaim := { program := "qxb6634831a", sum := "c65f9e483f9377fd7f64aae96e1480e9044ce780b935ce2a2f72cd69671f41b7", func := "example.com/tierbook/tierbook/zzlaws_pkg_ruleset_b1.FnHoldsIsUnionOfStrictParts", spec := "fnHoldsIsUnionOfStrictParts", apart := false }
def FnHoldsIsUnionOfStrictPartsSaid : Prop := fnHoldsIsUnionOfStrictPartsRow.holds Try.pinned (OpenSpec.ofChange fnHoldsIsUnionOfStrictPartsSpec)

/-- ITS FALSE NEIGHBOUR: 'it returns false'. Refute it at one input. -/
def fnHoldsIsUnionOfStrictPartsWrong : ChangeSpec := { name := "fnHoldsIsUnionOfStrictParts", fn := fun _ => fun
  | [d1, d2] => { results := [.lit (.bool false)], args := [d1, d2] }
  | _ => none }
def FnHoldsIsUnionOfStrictPartsWrongFalsely : Prop := fnHoldsIsUnionOfStrictPartsRow.holds Try.pinned (OpenSpec.ofChange fnHoldsIsUnionOfStrictPartsWrong)

/-- 'zzlaws_pkg_ruleset_b1.FnHoldsComplementMirrorUnitSign': WHATEVER THE INPUT: true; the input reads as it did. -/
def fnHoldsComplementMirrorUnitSignSpec : ChangeSpec := { name := "fnHoldsComplementMirrorUnitSign", fn := fun _ => fun
  | [d1, d2] => { results := [.lit (.bool true)], args := [d1, d2] }
  | _ => none }
def fnHoldsComplementMirrorUnitSignRow : OpenClaim := { program := "qxb6634831a", sum := "c65f9e483f9377fd7f64aae96e1480e9044ce780b935ce2a2f72cd69671f41b7", func := "example.com/tierbook/tierbook/zzlaws_pkg_ruleset_b1.FnHoldsComplementMirrorUnitSign", spec := "fnHoldsComplementMirrorUnitSign", apart := false }
def FnHoldsComplementMirrorUnitSignSaid : Prop := fnHoldsComplementMirrorUnitSignRow.holds Try.pinned (OpenSpec.ofChange fnHoldsComplementMirrorUnitSignSpec)

/-- ITS FALSE NEIGHBOUR: 'it returns false'. Refute it at one input. -/
def fnHoldsComplementMirrorUnitSignWrong : ChangeSpec := { name := "fnHoldsComplementMirrorUnitSign", fn := fun _ => fun
  | [d1, d2] => { results := [.lit (.bool false)], args := [d1, d2] }
  | _ => none }
def FnHoldsComplementMirrorUnitSignWrongFalsely : Prop := fnHoldsComplementMirrorUnitSignRow.holds Try.pinned (OpenSpec.ofChange fnHoldsComplementMirrorUnitSignWrong)

end Rows
end Go.Proofs.Qxb6634831a
