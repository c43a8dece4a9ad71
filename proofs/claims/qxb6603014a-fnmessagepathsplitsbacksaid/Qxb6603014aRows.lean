/-
  No cell of these rows narrows 'for every input' (looked for: loops, veiled, ifaces, maps, wideKeys, modest, calm, conditions, laid).
  DERIVED. THE GIVEN ROWS OF THIS SEAT. 1 by the template 'for every input the law returns true; each argument reads behind the call as it read before'; 0 by the template 'total and deterministic' (their statements: Qxb6603014aTotals.lean).
  GIVEN WITH THE SEED: the statements are not yours to turn. If you find one false, say at which input.
  Laid BY PROGRAM, IN A SANDBOX (cutbox-rows.mjs): the forced cells as the released guide's own fill.sh prints them over the translation 2d4bb8938d81aa9f… (all of the seat's roots in one cut). By AI agents, Wed Nov 11 2026. No macro, syntax, notation, axiom, sorry.
-/
import Derived.Test.Qxb6603014aChecked
import GoSem.Claim
import GoSem.ClaimJoined
import GoSem.ClaimMapViews
import Derived.JoinedTies
import Derived.KernelRfl
namespace Go.Proofs.Qxb6603014a
/- THE CELL 'sum', in the pinned program and in every row, IS THE sha256 OF THE DUMP (.gsa) THAT Qxb6603014aProg.lean LOADS. Nothing in Lean hashes anything: it is a label: what it is worth is what the hold of that sum in a sandbox is worth. -/
noncomputable def Try.pinned : Pinned := { name := "qxb6603014a", sum := "2d4bb8938d81aa9f7c7a90fd5160414205ee8bb74cd1c1108a3e921426237e00", checked := Try.checked }
namespace Rows
def none {H : Type} : Left H := { results := [], args := [] }

/-- 'zzlaws_root_b1.FnMessagePathSplitsBack': WHATEVER THE INPUT: true; the input reads as it did. -/
def fnMessagePathSplitsBackSpec : ChangeSpec := { name := "fnMessagePathSplitsBack", fn := fun _ => fun
  | [d1, d2, d3] => { results := [.lit (.bool true)], args := [d1, d2, d3] }
  | _ => none }
def fnMessagePathSplitsBackRow : OpenClaim := { program := "qxb6603014a", sum := "2d4bb8938d81aa9f7c7a90fd5160414205ee8bb74cd1c1108a3e921426237e00", func := "example.com/cubbyhole/cubbyhole/zzlaws_root_b1.FnMessagePathSplitsBack", spec := "fnMessagePathSplitsBack", apart := false }
def FnMessagePathSplitsBackSaid : Prop := fnMessagePathSplitsBackRow.holds Try.pinned (OpenSpec.ofChange fnMessagePathSplitsBackSpec)

/-- ITS FALSE NEIGHBOUR: 'it returns false'. Refute it at one input. -/
def fnMessagePathSplitsBackWrong : ChangeSpec := { name := "fnMessagePathSplitsBack", fn := fun _ => fun
  | [d1, d2, d3] => { results := [.lit (.bool false)], args := [d1, d2, d3] }
  | _ => none }
def FnMessagePathSplitsBackWrongFalsely : Prop := fnMessagePathSplitsBackRow.holds Try.pinned (OpenSpec.ofChange fnMessagePathSplitsBackWrong)

end Rows
end Go.Proofs.Qxb6603014a
