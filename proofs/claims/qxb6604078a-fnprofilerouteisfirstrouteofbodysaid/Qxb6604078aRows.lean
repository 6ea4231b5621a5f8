/-
  No cell of these rows narrows 'for every input' (looked for: loops, veiled, ifaces, maps, wideKeys, modest, calm, conditions, laid).
  DERIVED. THE GIVEN ROWS OF THIS SEAT. 5 by the template 'for every input the law returns true; each argument reads behind the call as it read before'; 0 by the template 'total and deterministic' (their statements: Qxb6604078aTotals.lean).
  GIVEN WITH THE SEED: the statements are not yours to turn. If you find one false, say at which input.
  Laid BY PROGRAM, IN A SANDBOX (cutbox-rows.mjs): the forced cells as the released guide's own fill.sh prints them over the translation 0987f3e44c31bc88… (all of the seat's roots in one cut). By AI agents, Wed Nov 11 2026. No macro, syntax, notation, axiom, sorry.
-/
import Derived.Test.Qxb6604078aChecked
import GoSem.Claim
import GoSem.ClaimJoined
import GoSem.ClaimMapViews
import Derived.JoinedTies
import Derived.KernelRfl
namespace Go.Proofs.Qxb6604078a
/- THE CELL 'sum', in the pinned program and in every row, IS THE sha256 OF THE DUMP (.gsa) THAT Qxb6604078aProg.lean LOADS. Nothing in Lean hashes anything: it is a label: what it is worth is what the hold of that sum in a sandbox is worth. -/
noncomputable def Try.pinned : Pinned := { name := "qxb6604078a", sum := "0987f3e44c31bc8872482cd369f78bc2706cdf9d560840866e0f61e14a882a99", checked := Try.checked }
namespace Rows
def none {H : Type} : Left H := { results := [], args := [] }

/-- 'zzlaws_internal_profile_b1.FnProfileRouteIsFirstRouteOfBody': WHATEVER THE INPUT: true; the input reads as it did. -/
def fnProfileRouteIsFirstRouteOfBodySpec : ChangeSpec := { name := "fnProfileRouteIsFirstRouteOfBody", fn := fun _ => fun
  | [d1, d2, d3, d4, d5, d6] => { results := [.lit (.bool true)], args := [d1, d2, d3, d4, d5, d6] }
  | _ => none }
def fnProfileRouteIsFirstRouteOfBodyRow : OpenClaim := { program := "qxb6604078a", sum := "0987f3e44c31bc8872482cd369f78bc2706cdf9d560840866e0f61e14a882a99", func := "example.com/armslength/armslength/zzlaws_internal_profile_b1.FnProfileRouteIsFirstRouteOfBody", spec := "fnProfileRouteIsFirstRouteOfBody", apart := false }
def FnProfileRouteIsFirstRouteOfBodySaid : Prop := fnProfileRouteIsFirstRouteOfBodyRow.holds Try.pinned (OpenSpec.ofChange fnProfileRouteIsFirstRouteOfBodySpec)

/-- ITS FALSE NEIGHBOUR: 'it returns false'. Refute it at one input. -/
def fnProfileRouteIsFirstRouteOfBodyWrong : ChangeSpec := { name := "fnProfileRouteIsFirstRouteOfBody", fn := fun _ => fun
  | [d1, d2, d3, d4, d5, d6] => { results := [.lit (.bool false)], args := [d1, d2, d3, d4, d5, d6] }
  | _ => none }
def FnProfileRouteIsFirstRouteOfBodyWrongFalsely : Prop := fnProfileRouteIsFirstRouteOfBodyRow.holds Try.pinned (OpenSpec.ofChange fnProfileRouteIsFirstRouteOfBodyWrong)

/-- 'zzlaws_internal_profile_b1.FnProfileRouteFindsEveryListedBody': WHATEVER THE INPUT: true; the input reads as it did. -/
def fnProfileRouteFindsEveryListedBodySpec : ChangeSpec := { name := "fnProfileRouteFindsEveryListedBody", fn := fun _ => fun
  | [d] => { results := [.lit (.bool true)], args := [d] }
  | _ => none }
def fnProfileRouteFindsEveryListedBodyRow : OpenClaim := { program := "qxb6604078a", sum := "0987f3e44c31bc8872482cd369f78bc2706cdf9d560840866e0f61e14a882a99", func := "example.com/armslength/armslength/zzlaws_internal_profile_b1.FnProfileRouteFindsEveryListedBody", spec := "fnProfileRouteFindsEveryListedBody", apart := false }
def FnProfileRouteFindsEveryListedBodySaid : Prop := fnProfileRouteFindsEveryListedBodyRow.holds Try.pinned (OpenSpec.ofChange fnProfileRouteFindsEveryListedBodySpec)

/-- ITS FALSE NEIGHBOUR: 'it returns false'. Refute it at one input. -/
def fnProfileRouteFindsEveryListedBodyWrong : ChangeSpec := { name := "fnProfileRouteFindsEveryListedBody", fn := fun _ => fun
  | [d] => { results := [.lit (.bool false)], args := [d] }
  | _ => none }
def FnProfileRouteFindsEveryListedBodyWrongFalsely : Prop := fnProfileRouteFindsEveryListedBodyRow.holds Try.pinned (OpenSpec.ofChange fnProfileRouteFindsEveryListedBodyWrong)

/-- 'zzlaws_internal_profile_b1.FnRouteMeasuresIffAConditionNamesFigure': WHATEVER THE INPUT: true; the input reads as it did. -/
def fnRouteMeasuresIffAConditionNamesFigureSpec : ChangeSpec := { name := "fnRouteMeasuresIffAConditionNamesFigure", fn := fun _ => fun
  | [d1, d2, d3, d4, d5] => { results := [.lit (.bool true)], args := [d1, d2, d3, d4, d5] }
  | _ => none }
def fnRouteMeasuresIffAConditionNamesFigureRow : OpenClaim := { program := "qxb6604078a", sum := "0987f3e44c31bc8872482cd369f78bc2706cdf9d560840866e0f61e14a882a99", func := "example.com/armslength/armslength/zzlaws_internal_profile_b1.FnRouteMeasuresIffAConditionNamesFigure", spec := "fnRouteMeasuresIffAConditionNamesFigure", apart := false }
def FnRouteMeasuresIffAConditionNamesFigureSaid : Prop := fnRouteMeasuresIffAConditionNamesFigureRow.holds Try.pinned (OpenSpec.ofChange fnRouteMeasuresIffAConditionNamesFigureSpec)

/-- ITS FALSE NEIGHBOUR: 'it returns false'. Refute it at one input. -/
def fnRouteMeasuresIffAConditionNamesFigureWrong : ChangeSpec := { name := "fnRouteMeasuresIffAConditionNamesFigure", fn := fun _ => fun
  | [d1, d2, d3, d4, d5] => { results := [.lit (.bool false)], args := [d1, d2, d3, d4, d5] }
  | _ => none }
def FnRouteMeasuresIffAConditionNamesFigureWrongFalsely : Prop := fnRouteMeasuresIffAConditionNamesFigureRow.holds Try.pinned (OpenSpec.ofChange fnRouteMeasuresIffAConditionNamesFigureWrong)

/-- 'zzlaws_internal_profile_b1.FnRouteThresholdIsFirstListingKind': WHATEVER THE INPUT: true; the input reads as it did. -/
def fnRouteThresholdIsFirstListingKindSpec : ChangeSpec := { name := "fnRouteThresholdIsFirstListingKind", fn := fun _ => fun
  | [d1, d2, d3, d4, d5] => { results := [.lit (.bool true)], args := [d1, d2, d3, d4, d5] }
  | _ => none }
def fnRouteThresholdIsFirstListingKindRow : OpenClaim := { program := "qxb6604078a", sum := "0987f3e44c31bc8872482cd369f78bc2706cdf9d560840866e0f61e14a882a99", func := "example.com/armslength/armslength/zzlaws_internal_profile_b1.FnRouteThresholdIsFirstListingKind", spec := "fnRouteThresholdIsFirstListingKind", apart := false }
def FnRouteThresholdIsFirstListingKindSaid : Prop := fnRouteThresholdIsFirstListingKindRow.holds Try.pinned (OpenSpec.ofChange fnRouteThresholdIsFirstListingKindSpec)

/-- ITS FALSE NEIGHBOUR: 'it returns false'. Refute it at one input. -/
def fnRouteThresholdIsFirstListingKindWrong : ChangeSpec := { name := "fnRouteThresholdIsFirstListingKind", fn := fun _ => fun
  | [d1, d2, d3, d4, d5] => { results := [.lit (.bool false)], args := [d1, d2, d3, d4, d5] }
  | _ => none }
def FnRouteThresholdIsFirstListingKindWrongFalsely : Prop := fnRouteThresholdIsFirstListingKindRow.holds Try.pinned (OpenSpec.ofChange fnRouteThresholdIsFirstListingKindWrong)

/-- 'zzlaws_internal_profile_b1.FnRouteThresholdFindsEveryListedKind': WHATEVER THE INPUT: true; the input reads as it did. -/
def fnRouteThresholdFindsEveryListedKindSpec : ChangeSpec := { name := "fnRouteThresholdFindsEveryListedKind", fn := fun _ => fun
  | [d] => { results := [.lit (.bool true)], args := [d] }
  | _ => none }
def fnRouteThresholdFindsEveryListedKindRow : OpenClaim := { program := "qxb6604078a", sum := "0987f3e44c31bc8872482cd369f78bc2706cdf9d560840866e0f61e14a882a99", func := "example.com/armslength/armslength/zzlaws_internal_profile_b1.FnRouteThresholdFindsEveryListedKind", spec := "fnRouteThresholdFindsEveryListedKind", apart := false }
def FnRouteThresholdFindsEveryListedKindSaid : Prop := fnRouteThresholdFindsEveryListedKindRow.holds Try.pinned (OpenSpec.ofChange fnRouteThresholdFindsEveryListedKindSpec)

/-- ITS FALSE NEIGHBOUR: 'it returns false'. Refute it at one input. -/
def fnRouteThresholdFindsEveryListedKindWrong : ChangeSpec := { name := "fnRouteThresholdFindsEveryListedKind", fn := fun _ => fun
  | [d] => { results := [.lit (.bool false)], args := [d] }
  | _ => none }
def FnRouteThresholdFindsEveryListedKindWrongFalsely : Prop := fnRouteThresholdFindsEveryListedKindRow.holds Try.pinned (OpenSpec.ofChange fnRouteThresholdFindsEveryListedKindWrong)

end Rows
end Go.Proofs.Qxb6604078a
