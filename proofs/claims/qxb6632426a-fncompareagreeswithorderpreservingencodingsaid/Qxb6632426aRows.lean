/-
  No cell of these rows narrows 'for every input' (looked for: loops, veiled, ifaces, maps, wideKeys, modest, calm, conditions, laid).
  DERIVED. THE GIVEN ROWS OF THIS SEAT. 2 by the template 'for every input the law returns true; each argument reads behind the call as it read before'; 0 by the template 'total and deterministic' (their statements: Qxb6632426aTotals.lean).
  GIVEN WITH THE SEED: the statements are not yours to turn. If you find one false, say at which input.
  Laid BY PROGRAM, IN A SANDBOX (cutbox-rows.mjs): the forced cells as the released guide's own fill.sh prints them over the translation 80ee68a6af07dafe… (all of the seat's roots in one cut). By AI agents, Wed Nov 11 2026. No macro, syntax, notation, axiom, sorry.
-/
import Derived.Test.Qxb6632426aChecked
import GoSem.Claim
import GoSem.ClaimJoined
import GoSem.ClaimMapViews
import Derived.JoinedTies
import Derived.KernelRfl
namespace Go.Proofs.Qxb6632426a
/- THE CELL 'sum', in the pinned program and in every row, IS THE sha256 OF THE DUMP (.gsa) THAT Qxb6632426aProg.lean LOADS. Nothing in Lean hashes anything: it is a label: what it is worth is what the hold of that sum in a sandbox is worth. -/
noncomputable def Try.pinned : Pinned := { name := "qxb6632426a", sum := "80ee68a6af07dafe99df1d20ee01172924ce3414b3e459026930e9a2d61ad6b6", checked := Try.checked }
namespace Rows
def none {H : Type} : Left H := { results := [], args := [] }

/-- 'zzlaws_storage_b1.FnCompareAgreesWithOrderPreservingEncoding': WHATEVER THE INPUT: true; the input reads as it did. -/
def fnCompareAgreesWithOrderPreservingEncodingSpec : ChangeSpec := { name := "fnCompareAgreesWithOrderPreservingEncoding", fn := fun _ => fun
  | [d1, d2] => { results := [.lit (.bool true)], args := [d1, d2] }
  | _ => none }
def fnCompareAgreesWithOrderPreservingEncodingRow : OpenClaim := { program := "qxb6632426a", sum := "80ee68a6af07dafe99df1d20ee01172924ce3414b3e459026930e9a2d61ad6b6", func := "example.com/tidemark/tidemark/zzlaws_storage_b1.FnCompareAgreesWithOrderPreservingEncoding", spec := "fnCompareAgreesWithOrderPreservingEncoding", inPlace := ["internal/bytealg.abigen_runtime_cmpstring"], apart := false }
def FnCompareAgreesWithOrderPreservingEncodingSaid : Prop := fnCompareAgreesWithOrderPreservingEncodingRow.holds Try.pinned (OpenSpec.ofChange fnCompareAgreesWithOrderPreservingEncodingSpec)

/-- ITS FALSE NEIGHBOUR: 'it returns false'. Refute it at one input. -/
def fnCompareAgreesWithOrderPreservingEncodingWrong : ChangeSpec := { name := "fnCompareAgreesWithOrderPreservingEncoding", fn := fun _ => fun
  | [d1, d2] => { results := [.lit (.bool false)], args := [d1, d2] }
  | _ => none }
def FnCompareAgreesWithOrderPreservingEncodingWrongFalsely : Prop := fnCompareAgreesWithOrderPreservingEncodingRow.holds Try.pinned (OpenSpec.ofChange fnCompareAgreesWithOrderPreservingEncodingWrong)

/-- 'zzlaws_storage_b1.FnComparePrefixSwapAndProperPrefix': WHATEVER THE INPUT: true; the input reads as it did. -/
def fnComparePrefixSwapAndProperPrefixSpec : ChangeSpec := { name := "fnComparePrefixSwapAndProperPrefix", fn := fun _ => fun
  | [d1, d2, d3] => { results := [.lit (.bool true)], args := [d1, d2, d3] }
  | _ => none }
def fnComparePrefixSwapAndProperPrefixRow : OpenClaim := { program := "qxb6632426a", sum := "80ee68a6af07dafe99df1d20ee01172924ce3414b3e459026930e9a2d61ad6b6", func := "example.com/tidemark/tidemark/zzlaws_storage_b1.FnComparePrefixSwapAndProperPrefix", spec := "fnComparePrefixSwapAndProperPrefix", inPlace := ["internal/bytealg.abigen_runtime_cmpstring"], apart := false }
def FnComparePrefixSwapAndProperPrefixSaid : Prop := fnComparePrefixSwapAndProperPrefixRow.holds Try.pinned (OpenSpec.ofChange fnComparePrefixSwapAndProperPrefixSpec)

/-- ITS FALSE NEIGHBOUR: 'it returns false'. Refute it at one input. -/
def fnComparePrefixSwapAndProperPrefixWrong : ChangeSpec := { name := "fnComparePrefixSwapAndProperPrefix", fn := fun _ => fun
  | [d1, d2, d3] => { results := [.lit (.bool false)], args := [d1, d2, d3] }
  | _ => none }
def FnComparePrefixSwapAndProperPrefixWrongFalsely : Prop := fnComparePrefixSwapAndProperPrefixRow.holds Try.pinned (OpenSpec.ofChange fnComparePrefixSwapAndProperPrefixWrong)

end Rows
end Go.Proofs.Qxb6632426a
