/-
  DERIVED. GIVEN WITH THE SEED: THE CARDS: each row of Qxb6617147aDoorRows.lean that lists a variable, with what it lists TIED to the program's text (the seventh form; the later family's looks); each row that meets fmt, with fmt's text TOLD by the authors' own Lean function (tested against real Go, not proved from fmt's source: count such statements apart). THE CARD IS WHAT COUNTS. Prove the row's statement (the work); the ties are given (Qxb6617147aDoorTie.lean); close each card by the builder's one call (the guide's Derived/Test/ToyasCard.lean, 'card_holds'). Laid BY PROGRAM, IN A SANDBOX (cutbox-door.mjs). By AI agents, Wed Nov 11 2026. No macro, syntax, notation, axiom, sorry.
-/
import Derived.Test.Qxb6617147aDoorRows
import GoSem.ClaimSeven
namespace Go.Proofs.Qxb6617147aDoor
namespace Rows

/-- THE TIED CARD OF 'zzlaws_money_b1.FnAppendToIsCanonicalDecimal'. -/
def fnAppendToIsCanonicalDecimalCard : Claim7 := { stood := { row := fnAppendToIsCanonicalDecimalRow, standIns := [], harness := (true, "e7de7e1343be0cd4589c18c6dc3af19b0cba7d5df386cdf4aa1c19048a8e5465"), looks := false }, kinds := [], alts := [], laidByText := true, laidKinds := [.data, .data, .data], laidTests := true, laidLooks := .later }
def FnAppendToIsCanonicalDecimalCardSaid : Prop := Claim7.holds Tryd.pinned (.plain (OpenSpec.ofChange fnAppendToIsCanonicalDecimalSpec)) fnAppendToIsCanonicalDecimalCard

/-- THE TIED CARD OF 'zzlaws_money_b1.FnAppendToOrdersAsNumbers'. -/
def fnAppendToOrdersAsNumbersCard : Claim7 := { stood := { row := fnAppendToOrdersAsNumbersRow, standIns := [], harness := (true, "e7de7e1343be0cd4589c18c6dc3af19b0cba7d5df386cdf4aa1c19048a8e5465"), looks := false }, kinds := [], alts := [], laidByText := true, laidKinds := [.data, .data, .data], laidTests := true, laidLooks := .later }
def FnAppendToOrdersAsNumbersCardSaid : Prop := Claim7.holds Tryd.pinned (.plain (OpenSpec.ofChange fnAppendToOrdersAsNumbersSpec)) fnAppendToOrdersAsNumbersCard
end Rows
end Go.Proofs.Qxb6617147aDoor
