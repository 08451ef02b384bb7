/-
  No cell of these rows narrows 'for every input' (looked for: loops, veiled, ifaces, maps, wideKeys, modest, calm, conditions, laid).
  DERIVED. THE GIVEN ROWS OF THIS SEAT. 4 by the template 'for every input the law returns true; each argument reads behind the call as it read before'; 0 by the template 'total and deterministic' (their statements: Qxb6617793aTotals.lean).
  GIVEN WITH THE SEED: the statements are not yours to turn. If you find one false, say at which input.
  Laid BY PROGRAM, IN A SANDBOX (cutbox-rows.mjs): the forced cells as the released guide's own fill.sh prints them over the translation 695ed6c484b63ccb… (all of the seat's roots in one cut). By AI agents, Wed Nov 11 2026. No macro, syntax, notation, axiom, sorry.
-/
import Derived.Test.Qxb6617793aChecked
import GoSem.Claim
import GoSem.ClaimJoined
import GoSem.ClaimMapViews
import Derived.JoinedTies
import Derived.KernelRfl
namespace Go.Proofs.Qxb6617793a
/- THE CELL 'sum', in the pinned program and in every row, IS THE sha256 OF THE DUMP (.gsa) THAT Qxb6617793aProg.lean LOADS. Nothing in Lean hashes anything: it is a label: what it is worth is what the hold of that sum in a sandbox is worth. -/
noncomputable def Try.pinned : Pinned := { name := "qxb6617793a", sum := "695ed6c484b63ccb4bcdf275fb279aaf7d53d14998aa4b35c86b44ed52fa7189", checked := Try.checked }
namespace Rows
def none {H : Type} : Left H := { results := [], args := [] }

/-- 'zzlaws_pkg_versions_b1.FnCompareAgreesWithNumericOrder': WHATEVER THE INPUT: true; the input reads as it did. -/
def fnCompareAgreesWithNumericOrderSpec : ChangeSpec := { name := "fnCompareAgreesWithNumericOrder", fn := fun _ => fun
  | [d1, d2, d3, d4, d5, d6, d7, d8] => { results := [.lit (.bool true)], args := [d1, d2, d3, d4, d5, d6, d7, d8] }
  | _ => none }
def fnCompareAgreesWithNumericOrderRow : OpenClaim := { program := "qxb6617793a", sum := "695ed6c484b63ccb4bcdf275fb279aaf7d53d14998aa4b35c86b44ed52fa7189", func := "example.com/labelwright/labelwright/zzlaws_pkg_versions_b1.FnCompareAgreesWithNumericOrder", spec := "fnCompareAgreesWithNumericOrder", inPlace := ["internal/bytealg.abigen_runtime_cmpstring"], apart := false }
def FnCompareAgreesWithNumericOrderSaid : Prop := fnCompareAgreesWithNumericOrderRow.holds Try.pinned (OpenSpec.ofChange fnCompareAgreesWithNumericOrderSpec)

/-- ITS FALSE NEIGHBOUR: 'it returns false'. Refute it at one input. -/
def fnCompareAgreesWithNumericOrderWrong : ChangeSpec := { name := "fnCompareAgreesWithNumericOrder", fn := fun _ => fun
  | [d1, d2, d3, d4, d5, d6, d7, d8] => { results := [.lit (.bool false)], args := [d1, d2, d3, d4, d5, d6, d7, d8] }
  | _ => none }
def FnCompareAgreesWithNumericOrderWrongFalsely : Prop := fnCompareAgreesWithNumericOrderRow.holds Try.pinned (OpenSpec.ofChange fnCompareAgreesWithNumericOrderWrong)

/-- 'zzlaws_pkg_versions_b1.FnIncrementIsNextNumber': WHATEVER THE INPUT: true; the input reads as it did. -/
def fnIncrementIsNextNumberSpec : ChangeSpec := { name := "fnIncrementIsNextNumber", fn := fun _ => fun
  | [d1, d2] => { results := [.lit (.bool true)], args := [d1, d2] }
  | _ => none }
def fnIncrementIsNextNumberRow : OpenClaim := { program := "qxb6617793a", sum := "695ed6c484b63ccb4bcdf275fb279aaf7d53d14998aa4b35c86b44ed52fa7189", func := "example.com/labelwright/labelwright/zzlaws_pkg_versions_b1.FnIncrementIsNextNumber", spec := "fnIncrementIsNextNumber", inPlace := ["internal/bytealg.abigen_runtime_cmpstring"], apart := false }
def FnIncrementIsNextNumberSaid : Prop := fnIncrementIsNextNumberRow.holds Try.pinned (OpenSpec.ofChange fnIncrementIsNextNumberSpec)

/-- ITS FALSE NEIGHBOUR: 'it returns false'. Refute it at one input. -/
def fnIncrementIsNextNumberWrong : ChangeSpec := { name := "fnIncrementIsNextNumber", fn := fun _ => fun
  | [d1, d2] => { results := [.lit (.bool false)], args := [d1, d2] }
  | _ => none }
def FnIncrementIsNextNumberWrongFalsely : Prop := fnIncrementIsNextNumberRow.holds Try.pinned (OpenSpec.ofChange fnIncrementIsNextNumberWrong)

/-- 'zzlaws_pkg_versions_b1.FnIncrementCarriesAcrossAnyCut': WHATEVER THE INPUT: true; the input reads as it did. -/
def fnIncrementCarriesAcrossAnyCutSpec : ChangeSpec := { name := "fnIncrementCarriesAcrossAnyCut", fn := fun _ => fun
  | [d1, d2] => { results := [.lit (.bool true)], args := [d1, d2] }
  | _ => none }
def fnIncrementCarriesAcrossAnyCutRow : OpenClaim := { program := "qxb6617793a", sum := "695ed6c484b63ccb4bcdf275fb279aaf7d53d14998aa4b35c86b44ed52fa7189", func := "example.com/labelwright/labelwright/zzlaws_pkg_versions_b1.FnIncrementCarriesAcrossAnyCut", spec := "fnIncrementCarriesAcrossAnyCut", apart := false }
def FnIncrementCarriesAcrossAnyCutSaid : Prop := fnIncrementCarriesAcrossAnyCutRow.holds Try.pinned (OpenSpec.ofChange fnIncrementCarriesAcrossAnyCutSpec)

/-- ITS FALSE NEIGHBOUR: 'it returns false'. Refute it at one input. -/
def fnIncrementCarriesAcrossAnyCutWrong : ChangeSpec := { name := "fnIncrementCarriesAcrossAnyCut", fn := fun _ => fun
  | [d1, d2] => { results := [.lit (.bool false)], args := [d1, d2] }
  | _ => none }
def FnIncrementCarriesAcrossAnyCutWrongFalsely : Prop := fnIncrementCarriesAcrossAnyCutRow.holds Try.pinned (OpenSpec.ofChange fnIncrementCarriesAcrossAnyCutWrong)

/-- 'zzlaws_pkg_versions_b1.FnCompareBumpOutranksAnyLowerParts': WHATEVER THE INPUT: true; the input reads as it did. -/
def fnCompareBumpOutranksAnyLowerPartsSpec : ChangeSpec := { name := "fnCompareBumpOutranksAnyLowerParts", fn := fun _ => fun
  | [d1, d2, d3, d4, d5, d6, d7, d8] => { results := [.lit (.bool true)], args := [d1, d2, d3, d4, d5, d6, d7, d8] }
  | _ => none }
def fnCompareBumpOutranksAnyLowerPartsRow : OpenClaim := { program := "qxb6617793a", sum := "695ed6c484b63ccb4bcdf275fb279aaf7d53d14998aa4b35c86b44ed52fa7189", func := "example.com/labelwright/labelwright/zzlaws_pkg_versions_b1.FnCompareBumpOutranksAnyLowerParts", spec := "fnCompareBumpOutranksAnyLowerParts", inPlace := ["internal/bytealg.abigen_runtime_cmpstring"], apart := false }
def FnCompareBumpOutranksAnyLowerPartsSaid : Prop := fnCompareBumpOutranksAnyLowerPartsRow.holds Try.pinned (OpenSpec.ofChange fnCompareBumpOutranksAnyLowerPartsSpec)

/-- ITS FALSE NEIGHBOUR: 'it returns false'. Refute it at one input. -/
def fnCompareBumpOutranksAnyLowerPartsWrong : ChangeSpec := { name := "fnCompareBumpOutranksAnyLowerParts", fn := fun _ => fun
  | [d1, d2, d3, d4, d5, d6, d7, d8] => { results := [.lit (.bool false)], args := [d1, d2, d3, d4, d5, d6, d7, d8] }
  | _ => none }
def FnCompareBumpOutranksAnyLowerPartsWrongFalsely : Prop := fnCompareBumpOutranksAnyLowerPartsRow.holds Try.pinned (OpenSpec.ofChange fnCompareBumpOutranksAnyLowerPartsWrong)

end Rows
end Go.Proofs.Qxb6617793a
