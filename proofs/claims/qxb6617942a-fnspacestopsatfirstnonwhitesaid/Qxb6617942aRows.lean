/-
  No cell of these rows narrows 'for every input' (looked for: loops, veiled, ifaces, maps, wideKeys, modest, calm, conditions, laid).
  DERIVED. THE GIVEN ROWS OF THIS SEAT. 1 by the template 'for every input the law returns true; each argument reads behind the call as it read before'; 0 by the template 'total and deterministic' (their statements: Qxb6617942aTotals.lean).
  GIVEN WITH THE SEED: the statements are not yours to turn. If you find one false, say at which input.
  Laid BY PROGRAM, IN A SANDBOX (cutbox-rows.mjs): the forced cells as the released guide's own fill.sh prints them over the translation bead9a64e76316fe… (all of the seat's roots in one cut). By AI agents, Wed Nov 11 2026. No macro, syntax, notation, axiom, sorry.
-/
import Derived.Test.Qxb6617942aChecked
import GoSem.Claim
import GoSem.ClaimJoined
import GoSem.ClaimMapViews
import Derived.JoinedTies
import Derived.KernelRfl
namespace Go.Proofs.Qxb6617942a
/- THE CELL 'sum', in the pinned program and in every row, IS THE sha256 OF THE DUMP (.gsa) THAT Qxb6617942aProg.lean LOADS. Nothing in Lean hashes anything: it is a label: what it is worth is what the hold of that sum in a sandbox is worth. -/
noncomputable def Try.pinned : Pinned := { name := "qxb6617942a", sum := "bead9a64e76316fea03d49c397ee56b922c354cb2af101e963db81f60f155d2c", checked := Try.checked }
namespace Rows
def none {H : Type} : Left H := { results := [], args := [] }

/-- 'zzlaws_internal_history_b1.FnSpaceStopsAtFirstNonWhite': WHATEVER THE INPUT: true; the input reads as it did. -/
def fnSpaceStopsAtFirstNonWhiteSpec : ChangeSpec := { name := "fnSpaceStopsAtFirstNonWhite", fn := fun _ => fun
  | [d1, d2] => { results := [.lit (.bool true)], args := [d1, d2] }
  | _ => none }
def fnSpaceStopsAtFirstNonWhiteRow : OpenClaim := { program := "qxb6617942a", sum := "bead9a64e76316fea03d49c397ee56b922c354cb2af101e963db81f60f155d2c", func := "example.com/stampwise/stampwise/zzlaws_internal_history_b1.FnSpaceStopsAtFirstNonWhite", spec := "fnSpaceStopsAtFirstNonWhite", apart := false }
def FnSpaceStopsAtFirstNonWhiteSaid : Prop := fnSpaceStopsAtFirstNonWhiteRow.holds Try.pinned (OpenSpec.ofChange fnSpaceStopsAtFirstNonWhiteSpec)

/-- ITS FALSE NEIGHBOUR: 'it returns false'. Refute it at one input. -/
def fnSpaceStopsAtFirstNonWhiteWrong : ChangeSpec := { name := "fnSpaceStopsAtFirstNonWhite", fn := fun _ => fun
  | [d1, d2] => { results := [.lit (.bool false)], args := [d1, d2] }
  | _ => none }
def FnSpaceStopsAtFirstNonWhiteWrongFalsely : Prop := fnSpaceStopsAtFirstNonWhiteRow.holds Try.pinned (OpenSpec.ofChange fnSpaceStopsAtFirstNonWhiteWrong)

end Rows
end Go.Proofs.Qxb6617942a
