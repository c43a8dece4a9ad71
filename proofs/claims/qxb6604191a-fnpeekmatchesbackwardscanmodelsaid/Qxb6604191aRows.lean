/-
  No cell of these rows narrows 'for every input' (looked for: loops, veiled, ifaces, maps, wideKeys, modest, calm, conditions, laid).
  DERIVED. THE GIVEN ROWS OF THIS SEAT. 1 by the template 'for every input the law returns true; each argument reads behind the call as it read before'; 0 by the template 'total and deterministic' (their statements: Qxb6604191aTotals.lean).
  GIVEN WITH THE SEED: the statements are not yours to turn. If you find one false, say at which input.
  Laid BY PROGRAM, IN A SANDBOX (cutbox-rows.mjs): the forced cells as the released guide's own fill.sh prints them over the translation 47180cdb32567c0b… (all of the seat's roots in one cut). By AI agents, Wed Nov 11 2026. No macro, syntax, notation, axiom, sorry.
-/
import Derived.Test.Qxb6604191aChecked
import GoSem.Claim
import GoSem.ClaimJoined
import GoSem.ClaimMapViews
import Derived.JoinedTies
import Derived.KernelRfl
namespace Go.Proofs.Qxb6604191a
/- THE CELL 'sum', in the pinned program and in every row, IS THE sha256 OF THE DUMP (.gsa) THAT Qxb6604191aProg.lean LOADS. Nothing in Lean hashes anything: it is a label: what it is worth is what the hold of that sum in a sandbox is worth. -/
noncomputable def Try.pinned : Pinned := { name := "qxb6604191a", sum := "47180cdb32567c0b806b1640f465970f867163121b503de3d40e71961380f14e", checked := Try.checked }
namespace Rows
def none {H : Type} : Left H := { results := [], args := [] }

/-- 'zzlaws_internal_httpapi_b1.FnPeekMatchesBackwardScanModel': WHATEVER THE INPUT: true; the input reads as it did. -/
def fnPeekMatchesBackwardScanModelSpec : ChangeSpec := { name := "fnPeekMatchesBackwardScanModel", fn := fun _ => fun
  | [d1, d2] => { results := [.lit (.bool true)], args := [d1, d2] }
  | _ => none }
def fnPeekMatchesBackwardScanModelRow : OpenClaim := { program := "qxb6604191a", sum := "47180cdb32567c0b806b1640f465970f867163121b503de3d40e71961380f14e", func := "example.com/probechase/probechase/zzlaws_internal_httpapi_b1.FnPeekMatchesBackwardScanModel", spec := "fnPeekMatchesBackwardScanModel", apart := false }
def FnPeekMatchesBackwardScanModelSaid : Prop := fnPeekMatchesBackwardScanModelRow.holds Try.pinned (OpenSpec.ofChange fnPeekMatchesBackwardScanModelSpec)

/-- ITS FALSE NEIGHBOUR: 'it returns false'. Refute it at one input. -/
def fnPeekMatchesBackwardScanModelWrong : ChangeSpec := { name := "fnPeekMatchesBackwardScanModel", fn := fun _ => fun
  | [d1, d2] => { results := [.lit (.bool false)], args := [d1, d2] }
  | _ => none }
def FnPeekMatchesBackwardScanModelWrongFalsely : Prop := fnPeekMatchesBackwardScanModelRow.holds Try.pinned (OpenSpec.ofChange fnPeekMatchesBackwardScanModelWrong)

end Rows
end Go.Proofs.Qxb6604191a
