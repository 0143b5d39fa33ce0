/-
  No cell of these rows narrows 'for every input' (looked for: loops, veiled, ifaces, maps, wideKeys, modest, calm, conditions, laid).
  DERIVED. THE GIVEN ROWS OF THIS SEAT. 3 by the template 'for every input the law returns true; each argument reads behind the call as it read before'; 0 by the template 'total and deterministic' (their statements: Qxb6001770aTotals.lean).
  GIVEN WITH THE SEED: the statements are not yours to turn. If you find one false, say at which input.
  Laid BY PROGRAM, IN A SANDBOX (cutbox-rows.mjs): the forced cells as the released guide's own fill.sh prints them over the translation 16f1ea48084ed725… (all of the seat's roots in one cut). By AI agents, Wed Nov 11 2026. No macro, syntax, notation, axiom, sorry.
-/
import Derived.Test.Qxb6001770aChecked
import GoSem.Claim
import GoSem.ClaimJoined
import GoSem.ClaimMapViews
import Derived.JoinedTies
import Derived.KernelRfl
namespace Go.Proofs.Qxb6001770a
/- THE CELL 'sum', in the pinned program and in every row, IS THE sha256 OF THE DUMP (.gsa) THAT Qxb6001770aProg.lean LOADS. Nothing in Lean hashes anything: it is a label: what it is worth is what the hold of that sum in a sandbox is worth. -/
noncomputable def Try.pinned : Pinned := { name := "qxb6001770a", sum := "16f1ea48084ed72590e506edec96ffec99fd35dd06d00944dcb93b4224f77409", checked := Try.checked }
namespace Rows
def none {H : Type} : Left H := { results := [], args := [] }

/-- 'zzlaws_pkg_expense_b1.FnSpanMembershipMatchesDoc': WHATEVER THE INPUT: true; the input reads as it did. -/
def fnSpanMembershipMatchesDocSpec : ChangeSpec := { name := "fnSpanMembershipMatchesDoc", fn := fun _ => fun
  | [d1, d2, d3] => { results := [.lit (.bool true)], args := [d1, d2, d3] }
  | _ => none }
def fnSpanMembershipMatchesDocRow : OpenClaim := { program := "qxb6001770a", sum := "16f1ea48084ed72590e506edec96ffec99fd35dd06d00944dcb93b4224f77409", func := "example.com/vestledger/vestledger/zzlaws_pkg_expense_b1.FnSpanMembershipMatchesDoc", spec := "fnSpanMembershipMatchesDoc", apart := false }
def FnSpanMembershipMatchesDocSaid : Prop := fnSpanMembershipMatchesDocRow.holds Try.pinned (OpenSpec.ofChange fnSpanMembershipMatchesDocSpec)

/-- ITS FALSE NEIGHBOUR: 'it returns false'. Refute it at one input. -/
def fnSpanMembershipMatchesDocWrong : ChangeSpec := { name := "fnSpanMembershipMatchesDoc", fn := fun _ => fun
  | [d1, d2, d3] => { results := [.lit (.bool false)], args := [d1, d2, d3] }
  | _ => none }
def FnSpanMembershipMatchesDocWrongFalsely : Prop := fnSpanMembershipMatchesDocRow.holds Try.pinned (OpenSpec.ofChange fnSpanMembershipMatchesDocWrong)

/-- 'zzlaws_pkg_expense_b1.FnSpanHasMonthsPeriods': WHATEVER THE INPUT: true; the input reads as it did. -/
def fnSpanHasMonthsPeriodsSpec : ChangeSpec := { name := "fnSpanHasMonthsPeriods", fn := fun _ => fun
  | [d1, d2] => { results := [.lit (.bool true)], args := [d1, d2] }
  | _ => none }
def fnSpanHasMonthsPeriodsRow : OpenClaim := { program := "qxb6001770a", sum := "16f1ea48084ed72590e506edec96ffec99fd35dd06d00944dcb93b4224f77409", func := "example.com/vestledger/vestledger/zzlaws_pkg_expense_b1.FnSpanHasMonthsPeriods", spec := "fnSpanHasMonthsPeriods", apart := false }
def FnSpanHasMonthsPeriodsSaid : Prop := fnSpanHasMonthsPeriodsRow.holds Try.pinned (OpenSpec.ofChange fnSpanHasMonthsPeriodsSpec)

/-- ITS FALSE NEIGHBOUR: 'it returns false'. Refute it at one input. -/
def fnSpanHasMonthsPeriodsWrong : ChangeSpec := { name := "fnSpanHasMonthsPeriods", fn := fun _ => fun
  | [d1, d2] => { results := [.lit (.bool false)], args := [d1, d2] }
  | _ => none }
def FnSpanHasMonthsPeriodsWrongFalsely : Prop := fnSpanHasMonthsPeriodsRow.holds Try.pinned (OpenSpec.ofChange fnSpanHasMonthsPeriodsWrong)

/-- 'zzlaws_pkg_expense_b1.FnSpanNestedAndShifted': WHATEVER THE INPUT: true; the input reads as it did. -/
def fnSpanNestedAndShiftedSpec : ChangeSpec := { name := "fnSpanNestedAndShifted", fn := fun _ => fun
  | [d1, d2] => { results := [.lit (.bool true)], args := [d1, d2] }
  | _ => none }
def fnSpanNestedAndShiftedRow : OpenClaim := { program := "qxb6001770a", sum := "16f1ea48084ed72590e506edec96ffec99fd35dd06d00944dcb93b4224f77409", func := "example.com/vestledger/vestledger/zzlaws_pkg_expense_b1.FnSpanNestedAndShifted", spec := "fnSpanNestedAndShifted", apart := false }
def FnSpanNestedAndShiftedSaid : Prop := fnSpanNestedAndShiftedRow.holds Try.pinned (OpenSpec.ofChange fnSpanNestedAndShiftedSpec)

/-- ITS FALSE NEIGHBOUR: 'it returns false'. Refute it at one input. -/
def fnSpanNestedAndShiftedWrong : ChangeSpec := { name := "fnSpanNestedAndShifted", fn := fun _ => fun
  | [d1, d2] => { results := [.lit (.bool false)], args := [d1, d2] }
  | _ => none }
def FnSpanNestedAndShiftedWrongFalsely : Prop := fnSpanNestedAndShiftedRow.holds Try.pinned (OpenSpec.ofChange fnSpanNestedAndShiftedWrong)

end Rows
end Go.Proofs.Qxb6001770a
