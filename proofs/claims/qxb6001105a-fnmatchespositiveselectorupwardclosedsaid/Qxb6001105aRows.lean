/-
  No cell of these rows narrows 'for every input' (looked for: loops, veiled, ifaces, maps, wideKeys, modest, calm, conditions, laid).
  DERIVED. THE GIVEN ROWS OF THIS SEAT. 7 by the template 'for every input the law returns true; each argument reads behind the call as it read before'; 0 by the template 'total and deterministic' (their statements: Qxb6001105aTotals.lean).
  GIVEN WITH THE SEED: the statements are not yours to turn. If you find one false, say at which input.
  Laid BY PROGRAM, IN A SANDBOX (cutbox-rows.mjs): the forced cells as the released guide's own fill.sh prints them over the translation 788b551e07cca455… (all of the seat's roots in one cut). By AI agents, Wed Nov 11 2026. No macro, syntax, notation, axiom, sorry.
-/
import Derived.Test.Qxb6001105aChecked
import GoSem.Claim
import GoSem.ClaimJoined
import GoSem.ClaimMapViews
import Derived.JoinedTies
import Derived.KernelRfl
namespace Go.Proofs.Qxb6001105a
/- THE CELL 'sum', in the pinned program and in every row, IS THE sha256 OF THE DUMP (.gsa) THAT Qxb6001105aProg.lean LOADS. Nothing in Lean hashes anything: it is a label: what it is worth is what the hold of that sum in a sandbox is worth. -/
noncomputable def Try.pinned : Pinned := { name := "qxb6001105a", sum := "788b551e07cca4553e7a6de9b555b291d9a230a4ccbb4dd0872ac3f9530017ce", checked := Try.checked }
namespace Rows
def none {H : Type} : Left H := { results := [], args := [] }

/-- 'zzlaws_kubeapi_b1.FnSelectorOfLabelsAgreesWithHolds': WHATEVER THE INPUT: true; the input reads as it did. -/
def fnSelectorOfLabelsAgreesWithHoldsSpec : ChangeSpec := { name := "fnSelectorOfLabelsAgreesWithHolds", fn := fun _ => fun
  | [d1, d2, d3, d4] => { results := [.lit (.bool true)], args := [d1, d2, d3, d4] }
  | _ => none }
def fnSelectorOfLabelsAgreesWithHoldsRow : OpenClaim := { program := "qxb6001105a", sum := "788b551e07cca4553e7a6de9b555b291d9a230a4ccbb4dd0872ac3f9530017ce", func := "example.com/overweave/overweave/zzlaws_kubeapi_b1.FnSelectorOfLabelsAgreesWithHolds", spec := "fnSelectorOfLabelsAgreesWithHolds", apart := false }
def FnSelectorOfLabelsAgreesWithHoldsSaid : Prop := fnSelectorOfLabelsAgreesWithHoldsRow.holds Try.pinned (OpenSpec.ofChange fnSelectorOfLabelsAgreesWithHoldsSpec)

/-- ITS FALSE NEIGHBOUR: 'it returns false'. Refute it at one input. -/
def fnSelectorOfLabelsAgreesWithHoldsWrong : ChangeSpec := { name := "fnSelectorOfLabelsAgreesWithHolds", fn := fun _ => fun
  | [d1, d2, d3, d4] => { results := [.lit (.bool false)], args := [d1, d2, d3, d4] }
  | _ => none }
def FnSelectorOfLabelsAgreesWithHoldsWrongFalsely : Prop := fnSelectorOfLabelsAgreesWithHoldsRow.holds Try.pinned (OpenSpec.ofChange fnSelectorOfLabelsAgreesWithHoldsWrong)

/-- 'zzlaws_kubeapi_b1.FnHoldsReflexiveAntisymmetric': WHATEVER THE INPUT: true; the input reads as it did. -/
def fnHoldsReflexiveAntisymmetricSpec : ChangeSpec := { name := "fnHoldsReflexiveAntisymmetric", fn := fun _ => fun
  | [d1, d2, d3, d4] => { results := [.lit (.bool true)], args := [d1, d2, d3, d4] }
  | _ => none }
def fnHoldsReflexiveAntisymmetricRow : OpenClaim := { program := "qxb6001105a", sum := "788b551e07cca4553e7a6de9b555b291d9a230a4ccbb4dd0872ac3f9530017ce", func := "example.com/overweave/overweave/zzlaws_kubeapi_b1.FnHoldsReflexiveAntisymmetric", spec := "fnHoldsReflexiveAntisymmetric", apart := false }
def FnHoldsReflexiveAntisymmetricSaid : Prop := fnHoldsReflexiveAntisymmetricRow.holds Try.pinned (OpenSpec.ofChange fnHoldsReflexiveAntisymmetricSpec)

/-- ITS FALSE NEIGHBOUR: 'it returns false'. Refute it at one input. -/
def fnHoldsReflexiveAntisymmetricWrong : ChangeSpec := { name := "fnHoldsReflexiveAntisymmetric", fn := fun _ => fun
  | [d1, d2, d3, d4] => { results := [.lit (.bool false)], args := [d1, d2, d3, d4] }
  | _ => none }
def FnHoldsReflexiveAntisymmetricWrongFalsely : Prop := fnHoldsReflexiveAntisymmetricRow.holds Try.pinned (OpenSpec.ofChange fnHoldsReflexiveAntisymmetricWrong)

/-- 'zzlaws_kubeapi_b1.FnHoldsTransitive': WHATEVER THE INPUT: true; the input reads as it did. -/
def fnHoldsTransitiveSpec : ChangeSpec := { name := "fnHoldsTransitive", fn := fun _ => fun
  | [d1, d2, d3, d4, d5, d6] => { results := [.lit (.bool true)], args := [d1, d2, d3, d4, d5, d6] }
  | _ => none }
def fnHoldsTransitiveRow : OpenClaim := { program := "qxb6001105a", sum := "788b551e07cca4553e7a6de9b555b291d9a230a4ccbb4dd0872ac3f9530017ce", func := "example.com/overweave/overweave/zzlaws_kubeapi_b1.FnHoldsTransitive", spec := "fnHoldsTransitive", apart := false }
def FnHoldsTransitiveSaid : Prop := fnHoldsTransitiveRow.holds Try.pinned (OpenSpec.ofChange fnHoldsTransitiveSpec)

/-- ITS FALSE NEIGHBOUR: 'it returns false'. Refute it at one input. -/
def fnHoldsTransitiveWrong : ChangeSpec := { name := "fnHoldsTransitive", fn := fun _ => fun
  | [d1, d2, d3, d4, d5, d6] => { results := [.lit (.bool false)], args := [d1, d2, d3, d4, d5, d6] }
  | _ => none }
def FnHoldsTransitiveWrongFalsely : Prop := fnHoldsTransitiveRow.holds Try.pinned (OpenSpec.ofChange fnHoldsTransitiveWrong)

/-- 'zzlaws_kubeapi_b1.FnMatchesOperatorComplements': WHATEVER THE INPUT: true; the input reads as it did. -/
def fnMatchesOperatorComplementsSpec : ChangeSpec := { name := "fnMatchesOperatorComplements", fn := fun _ => fun
  | [d1, d2, d3, d4] => { results := [.lit (.bool true)], args := [d1, d2, d3, d4] }
  | _ => none }
def fnMatchesOperatorComplementsRow : OpenClaim := { program := "qxb6001105a", sum := "788b551e07cca4553e7a6de9b555b291d9a230a4ccbb4dd0872ac3f9530017ce", func := "example.com/overweave/overweave/zzlaws_kubeapi_b1.FnMatchesOperatorComplements", spec := "fnMatchesOperatorComplements", apart := false }
def FnMatchesOperatorComplementsSaid : Prop := fnMatchesOperatorComplementsRow.holds Try.pinned (OpenSpec.ofChange fnMatchesOperatorComplementsSpec)

/-- ITS FALSE NEIGHBOUR: 'it returns false'. Refute it at one input. -/
def fnMatchesOperatorComplementsWrong : ChangeSpec := { name := "fnMatchesOperatorComplements", fn := fun _ => fun
  | [d1, d2, d3, d4] => { results := [.lit (.bool false)], args := [d1, d2, d3, d4] }
  | _ => none }
def FnMatchesOperatorComplementsWrongFalsely : Prop := fnMatchesOperatorComplementsRow.holds Try.pinned (OpenSpec.ofChange fnMatchesOperatorComplementsWrong)

/-- 'zzlaws_kubeapi_b1.FnMatchesIsConjunctionOrderFree': WHATEVER THE INPUT: true; the input reads as it did. -/
def fnMatchesIsConjunctionOrderFreeSpec : ChangeSpec := { name := "fnMatchesIsConjunctionOrderFree", fn := fun _ => fun
  | [d1, d2, d3, d4, d5, d6, d7, d8, d9, d10] => { results := [.lit (.bool true)], args := [d1, d2, d3, d4, d5, d6, d7, d8, d9, d10] }
  | _ => none }
def fnMatchesIsConjunctionOrderFreeRow : OpenClaim := { program := "qxb6001105a", sum := "788b551e07cca4553e7a6de9b555b291d9a230a4ccbb4dd0872ac3f9530017ce", func := "example.com/overweave/overweave/zzlaws_kubeapi_b1.FnMatchesIsConjunctionOrderFree", spec := "fnMatchesIsConjunctionOrderFree", apart := false }
def FnMatchesIsConjunctionOrderFreeSaid : Prop := fnMatchesIsConjunctionOrderFreeRow.holds Try.pinned (OpenSpec.ofChange fnMatchesIsConjunctionOrderFreeSpec)

/-- ITS FALSE NEIGHBOUR: 'it returns false'. Refute it at one input. -/
def fnMatchesIsConjunctionOrderFreeWrong : ChangeSpec := { name := "fnMatchesIsConjunctionOrderFree", fn := fun _ => fun
  | [d1, d2, d3, d4, d5, d6, d7, d8, d9, d10] => { results := [.lit (.bool false)], args := [d1, d2, d3, d4, d5, d6, d7, d8, d9, d10] }
  | _ => none }
def FnMatchesIsConjunctionOrderFreeWrongFalsely : Prop := fnMatchesIsConjunctionOrderFreeRow.holds Try.pinned (OpenSpec.ofChange fnMatchesIsConjunctionOrderFreeWrong)

/-- 'zzlaws_kubeapi_b1.FnMatchesEmptyAcceptsUnknownOperatorRefuses': WHATEVER THE INPUT: true; the input reads as it did. -/
def fnMatchesEmptyAcceptsUnknownOperatorRefusesSpec : ChangeSpec := { name := "fnMatchesEmptyAcceptsUnknownOperatorRefuses", fn := fun _ => fun
  | [d1, d2, d3, d4, d5] => { results := [.lit (.bool true)], args := [d1, d2, d3, d4, d5] }
  | _ => none }
def fnMatchesEmptyAcceptsUnknownOperatorRefusesRow : OpenClaim := { program := "qxb6001105a", sum := "788b551e07cca4553e7a6de9b555b291d9a230a4ccbb4dd0872ac3f9530017ce", func := "example.com/overweave/overweave/zzlaws_kubeapi_b1.FnMatchesEmptyAcceptsUnknownOperatorRefuses", spec := "fnMatchesEmptyAcceptsUnknownOperatorRefuses", apart := false }
def FnMatchesEmptyAcceptsUnknownOperatorRefusesSaid : Prop := fnMatchesEmptyAcceptsUnknownOperatorRefusesRow.holds Try.pinned (OpenSpec.ofChange fnMatchesEmptyAcceptsUnknownOperatorRefusesSpec)

/-- ITS FALSE NEIGHBOUR: 'it returns false'. Refute it at one input. -/
def fnMatchesEmptyAcceptsUnknownOperatorRefusesWrong : ChangeSpec := { name := "fnMatchesEmptyAcceptsUnknownOperatorRefuses", fn := fun _ => fun
  | [d1, d2, d3, d4, d5] => { results := [.lit (.bool false)], args := [d1, d2, d3, d4, d5] }
  | _ => none }
def FnMatchesEmptyAcceptsUnknownOperatorRefusesWrongFalsely : Prop := fnMatchesEmptyAcceptsUnknownOperatorRefusesRow.holds Try.pinned (OpenSpec.ofChange fnMatchesEmptyAcceptsUnknownOperatorRefusesWrong)

/-- 'zzlaws_kubeapi_b1.FnMatchesPositiveSelectorUpwardClosed': WHATEVER THE INPUT: true; the input reads as it did. -/
def fnMatchesPositiveSelectorUpwardClosedSpec : ChangeSpec := { name := "fnMatchesPositiveSelectorUpwardClosed", fn := fun _ => fun
  | [d1, d2, d3, d4, d5, d6, d7, d8, d9] => { results := [.lit (.bool true)], args := [d1, d2, d3, d4, d5, d6, d7, d8, d9] }
  | _ => none }
def fnMatchesPositiveSelectorUpwardClosedRow : OpenClaim := { program := "qxb6001105a", sum := "788b551e07cca4553e7a6de9b555b291d9a230a4ccbb4dd0872ac3f9530017ce", func := "example.com/overweave/overweave/zzlaws_kubeapi_b1.FnMatchesPositiveSelectorUpwardClosed", spec := "fnMatchesPositiveSelectorUpwardClosed", apart := false }
def FnMatchesPositiveSelectorUpwardClosedSaid : Prop := fnMatchesPositiveSelectorUpwardClosedRow.holds Try.pinned (OpenSpec.ofChange fnMatchesPositiveSelectorUpwardClosedSpec)

/-- ITS FALSE NEIGHBOUR: 'it returns false'. Refute it at one input. -/
def fnMatchesPositiveSelectorUpwardClosedWrong : ChangeSpec := { name := "fnMatchesPositiveSelectorUpwardClosed", fn := fun _ => fun
  | [d1, d2, d3, d4, d5, d6, d7, d8, d9] => { results := [.lit (.bool false)], args := [d1, d2, d3, d4, d5, d6, d7, d8, d9] }
  | _ => none }
def FnMatchesPositiveSelectorUpwardClosedWrongFalsely : Prop := fnMatchesPositiveSelectorUpwardClosedRow.holds Try.pinned (OpenSpec.ofChange fnMatchesPositiveSelectorUpwardClosedWrong)

end Rows
end Go.Proofs.Qxb6001105a
