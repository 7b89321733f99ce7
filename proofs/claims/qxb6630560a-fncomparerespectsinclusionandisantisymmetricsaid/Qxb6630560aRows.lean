/-
  No cell of these rows narrows 'for every input' (looked for: loops, veiled, ifaces, maps, wideKeys, modest, calm, conditions, laid).
  DERIVED. THE GIVEN ROWS OF THIS SEAT. 2 by the template 'for every input the law returns true; each argument reads behind the call as it read before'; 0 by the template 'total and deterministic' (their statements: Qxb6630560aTotals.lean).
  GIVEN WITH THE SEED: the statements are not yours to turn. If you find one false, say at which input.
  Laid BY PROGRAM, IN A SANDBOX (cutbox-rows.mjs): the forced cells as the released guide's own fill.sh prints them over the translation 02e28dbdc83a2de9… (all of the seat's roots in one cut). By AI agents, Wed Nov 11 2026. No macro, syntax, notation, axiom, sorry.
-/
import Derived.Test.Qxb6630560aChecked
import GoSem.Claim
import GoSem.ClaimJoined
import GoSem.ClaimMapViews
import Derived.JoinedTies
import Derived.KernelRfl
namespace Go.Proofs.Qxb6630560a
/- THE CELL 'sum', in the pinned program and in every row, IS THE sha256 OF THE DUMP (.gsa) THAT Qxb6630560aProg.lean LOADS. Nothing in Lean hashes anything: it is a label: what it is worth is what the hold of that sum in a sandbox is worth. -/
noncomputable def Try.pinned : Pinned := { name := "qxb6630560a", sum := "02e28dbdc83a2de9fa79fcdaf6a844ec34b83574f73df4946a0075305db8a322", checked := Try.checked }
namespace Rows
def none {H : Type} : Left H := { results := [], args := [] }

/-- 'zzlaws_internal_clock_b1.FnCompareIsLastDifferenceOfCounts': WHATEVER THE INPUT: true; the input reads as it did. -/
def fnCompareIsLastDifferenceOfCountsSpec : ChangeSpec := { name := "fnCompareIsLastDifferenceOfCounts", fn := fun _ => fun
  | [d1, d2, d3, d4] => { results := [.lit (.bool true)], args := [d1, d2, d3, d4] }
  | _ => none }
def fnCompareIsLastDifferenceOfCountsRow : OpenClaim := { program := "qxb6630560a", sum := "02e28dbdc83a2de9fa79fcdaf6a844ec34b83574f73df4946a0075305db8a322", func := "example.com/concordat/concordat/zzlaws_internal_clock_b1.FnCompareIsLastDifferenceOfCounts", spec := "fnCompareIsLastDifferenceOfCounts", apart := false }
def FnCompareIsLastDifferenceOfCountsSaid : Prop := fnCompareIsLastDifferenceOfCountsRow.holds Try.pinned (OpenSpec.ofChange fnCompareIsLastDifferenceOfCountsSpec)

/-- ITS FALSE NEIGHBOUR: 'it returns false'. Refute it at one input. -/
def fnCompareIsLastDifferenceOfCountsWrong : ChangeSpec := { name := "fnCompareIsLastDifferenceOfCounts", fn := fun _ => fun
  | [d1, d2, d3, d4] => { results := [.lit (.bool false)], args := [d1, d2, d3, d4] }
  | _ => none }
def FnCompareIsLastDifferenceOfCountsWrongFalsely : Prop := fnCompareIsLastDifferenceOfCountsRow.holds Try.pinned (OpenSpec.ofChange fnCompareIsLastDifferenceOfCountsWrong)

/-- 'zzlaws_internal_clock_b1.FnCompareRespectsInclusionAndIsAntisymmetric': WHATEVER THE INPUT: true; the input reads as it did. -/
def fnCompareRespectsInclusionAndIsAntisymmetricSpec : ChangeSpec := { name := "fnCompareRespectsInclusionAndIsAntisymmetric", fn := fun _ => fun
  | [d1, d2, d3, d4] => { results := [.lit (.bool true)], args := [d1, d2, d3, d4] }
  | _ => none }
def fnCompareRespectsInclusionAndIsAntisymmetricRow : OpenClaim := { program := "qxb6630560a", sum := "02e28dbdc83a2de9fa79fcdaf6a844ec34b83574f73df4946a0075305db8a322", func := "example.com/concordat/concordat/zzlaws_internal_clock_b1.FnCompareRespectsInclusionAndIsAntisymmetric", spec := "fnCompareRespectsInclusionAndIsAntisymmetric", apart := false }
def FnCompareRespectsInclusionAndIsAntisymmetricSaid : Prop := fnCompareRespectsInclusionAndIsAntisymmetricRow.holds Try.pinned (OpenSpec.ofChange fnCompareRespectsInclusionAndIsAntisymmetricSpec)

/-- ITS FALSE NEIGHBOUR: 'it returns false'. Refute it at one input. -/
def fnCompareRespectsInclusionAndIsAntisymmetricWrong : ChangeSpec := { name := "fnCompareRespectsInclusionAndIsAntisymmetric", fn := fun _ => fun
  | [d1, d2, d3, d4] => { results := [.lit (.bool false)], args := [d1, d2, d3, d4] }
  | _ => none }
def FnCompareRespectsInclusionAndIsAntisymmetricWrongFalsely : Prop := fnCompareRespectsInclusionAndIsAntisymmetricRow.holds Try.pinned (OpenSpec.ofChange fnCompareRespectsInclusionAndIsAntisymmetricWrong)

end Rows
end Go.Proofs.Qxb6630560a
