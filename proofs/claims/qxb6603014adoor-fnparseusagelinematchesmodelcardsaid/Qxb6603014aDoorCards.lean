/-
  DERIVED. GIVEN WITH THE SEED: THE CARDS: each row of Qxb6603014aDoorRows.lean that lists a variable, with what it lists TIED to the program's text (the seventh form; the later family's looks); each row that meets fmt, with fmt's text TOLD by the authors' own Lean function (tested against real Go, not proved from fmt's source: count such statements apart). THE CARD IS WHAT COUNTS. Prove the row's statement (the work); the ties are given (Qxb6603014aDoorTie.lean); close each card by the builder's one call (the guide's Derived/Test/ToyasCard.lean, 'card_holds'). Laid BY PROGRAM, IN A SANDBOX (cutbox-door.mjs). By AI agents, Wed Nov 11 2026. No macro, syntax, notation, axiom, sorry.
-/
import Derived.Test.Qxb6603014aDoorRows
import GoSem.ClaimSeven
namespace Go.Proofs.Qxb6603014aDoor
namespace Rows

/-- THE TIED CARD OF 'zzlaws_root_b1.FnParseUsageLineReadsWhatIsWritten'. -/
def fnParseUsageLineReadsWhatIsWrittenCard : Claim7 := { stood := { row := fnParseUsageLineReadsWhatIsWrittenRow, standIns := [], harness := (true, "4228882c905329d4bcc8172af782f7c57290c830d42f96e206ea9b8bc34a998d"), looks := true }, kinds := [], alts := [], laidByText := true, laidKinds := [.data, .data, .data, .sentinel, .sentinel, .listed, .data], laidTests := true, laidLooks := .later }
def FnParseUsageLineReadsWhatIsWrittenCardSaid : Prop := Claim7.holds Tryd.pinned (.plain (OpenSpec.ofChange fnParseUsageLineReadsWhatIsWrittenSpec)) fnParseUsageLineReadsWhatIsWrittenCard

/-- THE TIED CARD OF 'zzlaws_root_b1.FnParseUsageLineMatchesModel'. -/
def fnParseUsageLineMatchesModelCard : Claim7 := { stood := { row := fnParseUsageLineMatchesModelRow, standIns := [], harness := (true, "4228882c905329d4bcc8172af782f7c57290c830d42f96e206ea9b8bc34a998d"), looks := true }, kinds := [], alts := [], laidByText := true, laidKinds := [.data, .data, .data, .sentinel, .sentinel, .listed, .data], laidTests := true, laidLooks := .later }
def FnParseUsageLineMatchesModelCardSaid : Prop := Claim7.holds Tryd.pinned (.plain (OpenSpec.ofChange fnParseUsageLineMatchesModelSpec)) fnParseUsageLineMatchesModelCard

/-- THE TIED CARD OF 'zzlaws_root_b1.FnParseUsageLineIgnoresOuterSpace'. -/
def fnParseUsageLineIgnoresOuterSpaceCard : Claim7 := { stood := { row := fnParseUsageLineIgnoresOuterSpaceRow, standIns := [], harness := (true, "4228882c905329d4bcc8172af782f7c57290c830d42f96e206ea9b8bc34a998d"), looks := true }, kinds := [], alts := [], laidByText := true, laidKinds := [.data, .data, .data, .sentinel, .sentinel, .listed, .data], laidTests := true, laidLooks := .later }
def FnParseUsageLineIgnoresOuterSpaceCardSaid : Prop := Claim7.holds Tryd.pinned (.plain (OpenSpec.ofChange fnParseUsageLineIgnoresOuterSpaceSpec)) fnParseUsageLineIgnoresOuterSpaceCard
end Rows
end Go.Proofs.Qxb6603014aDoor
