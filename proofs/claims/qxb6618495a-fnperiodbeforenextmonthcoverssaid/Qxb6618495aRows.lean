/-
  No cell of these rows narrows 'for every input' (looked for: loops, veiled, ifaces, maps, wideKeys, modest, calm, conditions, laid).
  DERIVED. THE GIVEN ROWS OF THIS SEAT. 2 by the template 'for every input the law returns true; each argument reads behind the call as it read before'; 0 by the template 'total and deterministic' (their statements: Qxb6618495aTotals.lean).
  GIVEN WITH THE SEED: the statements are not yours to turn. If you find one false, say at which input.
  Laid BY PROGRAM, IN A SANDBOX (cutbox-rows.mjs): the forced cells as the released guide's own fill.sh prints them over the translation bbf0a1c88594a7b0… (all of the seat's roots in one cut). By AI agents, Wed Nov 11 2026. No macro, syntax, notation, axiom, sorry.
-/
import Derived.Test.Qxb6618495aChecked
import GoSem.Claim
import GoSem.ClaimJoined
import GoSem.ClaimMapViews
import Derived.JoinedTies
import Derived.KernelRfl
namespace Go.Proofs.Qxb6618495a
/- THE CELL 'sum', in the pinned program and in every row, IS THE sha256 OF THE DUMP (.gsa) THAT Qxb6618495aProg.lean LOADS. Nothing in Lean hashes anything: it is a label: what it is worth is what the hold of that sum in a sandbox is worth. -/
noncomputable def Try.pinned : Pinned := { name := "qxb6618495a", sum := "bbf0a1c88594a7b0378ab06790f521313f8076aed496b8a1d8e48dec085b1fa0", checked := Try.checked }
namespace Rows
def none {H : Type} : Left H := { results := [], args := [] }

/-- 'zzlaws_pkg_fee_b1.FnPeriodBeforeTrichotomy': WHATEVER THE INPUT: true; the input reads as it did. -/
def fnPeriodBeforeTrichotomySpec : ChangeSpec := { name := "fnPeriodBeforeTrichotomy", fn := fun _ => fun
  | [d1, d2, d3, d4] => { results := [.lit (.bool true)], args := [d1, d2, d3, d4] }
  | _ => none }
def fnPeriodBeforeTrichotomyRow : OpenClaim := { program := "qxb6618495a", sum := "bbf0a1c88594a7b0378ab06790f521313f8076aed496b8a1d8e48dec085b1fa0", func := "example.com/tuoguan/tuoguan/zzlaws_pkg_fee_b1.FnPeriodBeforeTrichotomy", spec := "fnPeriodBeforeTrichotomy", apart := false }
def FnPeriodBeforeTrichotomySaid : Prop := fnPeriodBeforeTrichotomyRow.holds Try.pinned (OpenSpec.ofChange fnPeriodBeforeTrichotomySpec)

/-- ITS FALSE NEIGHBOUR: 'it returns false'. Refute it at one input. -/
def fnPeriodBeforeTrichotomyWrong : ChangeSpec := { name := "fnPeriodBeforeTrichotomy", fn := fun _ => fun
  | [d1, d2, d3, d4] => { results := [.lit (.bool false)], args := [d1, d2, d3, d4] }
  | _ => none }
def FnPeriodBeforeTrichotomyWrongFalsely : Prop := fnPeriodBeforeTrichotomyRow.holds Try.pinned (OpenSpec.ofChange fnPeriodBeforeTrichotomyWrong)

/-- 'zzlaws_pkg_fee_b1.FnPeriodBeforeNextMonthCovers': WHATEVER THE INPUT: true; the input reads as it did. -/
def fnPeriodBeforeNextMonthCoversSpec : ChangeSpec := { name := "fnPeriodBeforeNextMonthCovers", fn := fun _ => fun
  | [d1, d2, d3, d4] => { results := [.lit (.bool true)], args := [d1, d2, d3, d4] }
  | _ => none }
def fnPeriodBeforeNextMonthCoversRow : OpenClaim := { program := "qxb6618495a", sum := "bbf0a1c88594a7b0378ab06790f521313f8076aed496b8a1d8e48dec085b1fa0", func := "example.com/tuoguan/tuoguan/zzlaws_pkg_fee_b1.FnPeriodBeforeNextMonthCovers", spec := "fnPeriodBeforeNextMonthCovers", apart := false }
def FnPeriodBeforeNextMonthCoversSaid : Prop := fnPeriodBeforeNextMonthCoversRow.holds Try.pinned (OpenSpec.ofChange fnPeriodBeforeNextMonthCoversSpec)

/-- ITS FALSE NEIGHBOUR: 'it returns false'. Refute it at one input. -/
def fnPeriodBeforeNextMonthCoversWrong : ChangeSpec := { name := "fnPeriodBeforeNextMonthCovers", fn := fun _ => fun
  | [d1, d2, d3, d4] => { results := [.lit (.bool false)], args := [d1, d2, d3, d4] }
  | _ => none }
def FnPeriodBeforeNextMonthCoversWrongFalsely : Prop := fnPeriodBeforeNextMonthCoversRow.holds Try.pinned (OpenSpec.ofChange fnPeriodBeforeNextMonthCoversWrong)

end Rows
end Go.Proofs.Qxb6618495a
