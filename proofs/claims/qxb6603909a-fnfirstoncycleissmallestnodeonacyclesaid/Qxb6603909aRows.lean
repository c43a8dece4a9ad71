/-
  No cell of these rows narrows 'for every input' (looked for: loops, veiled, ifaces, maps, wideKeys, modest, calm, conditions, laid).
  DERIVED. THE GIVEN ROWS OF THIS SEAT. 4 by the template 'for every input the law returns true; each argument reads behind the call as it read before'; 0 by the template 'total and deterministic' (their statements: Qxb6603909aTotals.lean).
  GIVEN WITH THE SEED: the statements are not yours to turn. If you find one false, say at which input.
  Laid BY PROGRAM, IN A SANDBOX (cutbox-rows.mjs): the forced cells as the released guide's own fill.sh prints them over the translation 78f3b3e61a13febe… (all of the seat's roots in one cut). By AI agents, Wed Nov 11 2026. No macro, syntax, notation, axiom, sorry.
-/
import Derived.Test.Qxb6603909aChecked
import GoSem.Claim
import GoSem.ClaimJoined
import GoSem.ClaimMapViews
import Derived.JoinedTies
import Derived.KernelRfl
namespace Go.Proofs.Qxb6603909a
/- THE CELL 'sum', in the pinned program and in every row, IS THE sha256 OF THE DUMP (.gsa) THAT Qxb6603909aProg.lean LOADS. Nothing in Lean hashes anything: it is a label: what it is worth is what the hold of that sum in a sandbox is worth. -/
noncomputable def Try.pinned : Pinned := { name := "qxb6603909a", sum := "78f3b3e61a13febea3f0b69eb92ba0d9b48c99cfdbc923aad36ec31efa8a4758", checked := Try.checked }
namespace Rows
def none {H : Type} : Left H := { results := [], args := [] }

/-- 'zzlaws_root_b1.FnFirstOnCycleIsSmallestNodeOnACycle': WHATEVER THE INPUT: true; the input reads as it did. -/
def fnFirstOnCycleIsSmallestNodeOnACycleSpec : ChangeSpec := { name := "fnFirstOnCycleIsSmallestNodeOnACycle", fn := fun _ => fun
  | [d1, d2] => { results := [.lit (.bool true)], args := [d1, d2] }
  | _ => none }
def fnFirstOnCycleIsSmallestNodeOnACycleRow : OpenClaim := { program := "qxb6603909a", sum := "78f3b3e61a13febea3f0b69eb92ba0d9b48c99cfdbc923aad36ec31efa8a4758", func := "example.com/serialine/serialine/zzlaws_root_b1.FnFirstOnCycleIsSmallestNodeOnACycle", spec := "fnFirstOnCycleIsSmallestNodeOnACycle", unfollowed := true, recurses := true, apart := false }
def FnFirstOnCycleIsSmallestNodeOnACycleSaid : Prop := fnFirstOnCycleIsSmallestNodeOnACycleRow.holds Try.pinned (OpenSpec.ofChange fnFirstOnCycleIsSmallestNodeOnACycleSpec)

/-- ITS FALSE NEIGHBOUR: 'it returns false'. Refute it at one input. -/
def fnFirstOnCycleIsSmallestNodeOnACycleWrong : ChangeSpec := { name := "fnFirstOnCycleIsSmallestNodeOnACycle", fn := fun _ => fun
  | [d1, d2] => { results := [.lit (.bool false)], args := [d1, d2] }
  | _ => none }
def FnFirstOnCycleIsSmallestNodeOnACycleWrongFalsely : Prop := fnFirstOnCycleIsSmallestNodeOnACycleRow.holds Try.pinned (OpenSpec.ofChange fnFirstOnCycleIsSmallestNodeOnACycleWrong)

/-- 'zzlaws_root_b1.FnRelabelSpreadsSmallestRoomyRangeEvenly': WHATEVER THE INPUT: true; the input reads as it did. -/
def fnRelabelSpreadsSmallestRoomyRangeEvenlySpec : ChangeSpec := { name := "fnRelabelSpreadsSmallestRoomyRangeEvenly", fn := fun _ => fun
  | [d1, d2, d3, d4, d5, d6] => { results := [.lit (.bool true)], args := [d1, d2, d3, d4, d5, d6] }
  | _ => none }
def fnRelabelSpreadsSmallestRoomyRangeEvenlyRow : OpenClaim := { program := "qxb6603909a", sum := "78f3b3e61a13febea3f0b69eb92ba0d9b48c99cfdbc923aad36ec31efa8a4758", func := "example.com/serialine/serialine/zzlaws_root_b1.FnRelabelSpreadsSmallestRoomyRangeEvenly", spec := "fnRelabelSpreadsSmallestRoomyRangeEvenly", apart := false }
def FnRelabelSpreadsSmallestRoomyRangeEvenlySaid : Prop := fnRelabelSpreadsSmallestRoomyRangeEvenlyRow.holds Try.pinned (OpenSpec.ofChange fnRelabelSpreadsSmallestRoomyRangeEvenlySpec)

/-- ITS FALSE NEIGHBOUR: 'it returns false'. Refute it at one input. -/
def fnRelabelSpreadsSmallestRoomyRangeEvenlyWrong : ChangeSpec := { name := "fnRelabelSpreadsSmallestRoomyRangeEvenly", fn := fun _ => fun
  | [d1, d2, d3, d4, d5, d6] => { results := [.lit (.bool false)], args := [d1, d2, d3, d4, d5, d6] }
  | _ => none }
def FnRelabelSpreadsSmallestRoomyRangeEvenlyWrongFalsely : Prop := fnRelabelSpreadsSmallestRoomyRangeEvenlyRow.holds Try.pinned (OpenSpec.ofChange fnRelabelSpreadsSmallestRoomyRangeEvenlyWrong)

/-- 'zzlaws_root_b1.FnRelabelKeepsOrderAndMakesRoom': WHATEVER THE INPUT: true; the input reads as it did. -/
def fnRelabelKeepsOrderAndMakesRoomSpec : ChangeSpec := { name := "fnRelabelKeepsOrderAndMakesRoom", fn := fun _ => fun
  | [d1, d2, d3, d4, d5, d6] => { results := [.lit (.bool true)], args := [d1, d2, d3, d4, d5, d6] }
  | _ => none }
def fnRelabelKeepsOrderAndMakesRoomRow : OpenClaim := { program := "qxb6603909a", sum := "78f3b3e61a13febea3f0b69eb92ba0d9b48c99cfdbc923aad36ec31efa8a4758", func := "example.com/serialine/serialine/zzlaws_root_b1.FnRelabelKeepsOrderAndMakesRoom", spec := "fnRelabelKeepsOrderAndMakesRoom", apart := false }
def FnRelabelKeepsOrderAndMakesRoomSaid : Prop := fnRelabelKeepsOrderAndMakesRoomRow.holds Try.pinned (OpenSpec.ofChange fnRelabelKeepsOrderAndMakesRoomSpec)

/-- ITS FALSE NEIGHBOUR: 'it returns false'. Refute it at one input. -/
def fnRelabelKeepsOrderAndMakesRoomWrong : ChangeSpec := { name := "fnRelabelKeepsOrderAndMakesRoom", fn := fun _ => fun
  | [d1, d2, d3, d4, d5, d6] => { results := [.lit (.bool false)], args := [d1, d2, d3, d4, d5, d6] }
  | _ => none }
def FnRelabelKeepsOrderAndMakesRoomWrongFalsely : Prop := fnRelabelKeepsOrderAndMakesRoomRow.holds Try.pinned (OpenSpec.ofChange fnRelabelKeepsOrderAndMakesRoomWrong)

/-- 'zzlaws_root_b1.FnPairIntoIsEarliestConflictingPair': WHATEVER THE INPUT: true; the input reads as it did. -/
def fnPairIntoIsEarliestConflictingPairSpec : ChangeSpec := { name := "fnPairIntoIsEarliestConflictingPair", fn := fun _ => fun
  | [d1, d2, d3, d4, d5, d6, d7, d8, d9, d10, d11] => { results := [.lit (.bool true)], args := [d1, d2, d3, d4, d5, d6, d7, d8, d9, d10, d11] }
  | _ => none }
def fnPairIntoIsEarliestConflictingPairRow : OpenClaim := { program := "qxb6603909a", sum := "78f3b3e61a13febea3f0b69eb92ba0d9b48c99cfdbc923aad36ec31efa8a4758", func := "example.com/serialine/serialine/zzlaws_root_b1.FnPairIntoIsEarliestConflictingPair", spec := "fnPairIntoIsEarliestConflictingPair", apart := false }
def FnPairIntoIsEarliestConflictingPairSaid : Prop := fnPairIntoIsEarliestConflictingPairRow.holds Try.pinned (OpenSpec.ofChange fnPairIntoIsEarliestConflictingPairSpec)

/-- ITS FALSE NEIGHBOUR: 'it returns false'. Refute it at one input. -/
def fnPairIntoIsEarliestConflictingPairWrong : ChangeSpec := { name := "fnPairIntoIsEarliestConflictingPair", fn := fun _ => fun
  | [d1, d2, d3, d4, d5, d6, d7, d8, d9, d10, d11] => { results := [.lit (.bool false)], args := [d1, d2, d3, d4, d5, d6, d7, d8, d9, d10, d11] }
  | _ => none }
def FnPairIntoIsEarliestConflictingPairWrongFalsely : Prop := fnPairIntoIsEarliestConflictingPairRow.holds Try.pinned (OpenSpec.ofChange fnPairIntoIsEarliestConflictingPairWrong)

end Rows
end Go.Proofs.Qxb6603909a
