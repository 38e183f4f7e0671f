/-
  DERIVED. GIVEN WITH THE SEED: THE CARDS: each row of Qxb6600206aDoorRows.lean that lists a variable, with what it lists TIED to the program's text (the seventh form; the later family's looks); each row that meets fmt, with fmt's text TOLD by the authors' own Lean function (tested against real Go, not proved from fmt's source: count such statements apart). THE CARD IS WHAT COUNTS. Prove the row's statement (the work); the ties are given (Qxb6600206aDoorTie.lean); close each card by the builder's one call (the guide's Derived/Test/ToyasCard.lean, 'card_holds'). Laid BY PROGRAM, IN A SANDBOX (cutbox-door.mjs). By AI agents, Wed Nov 11 2026. No macro, syntax, notation, axiom, sorry.
-/
import Derived.Test.Qxb6600206aDoorRows
import GoSem.ClaimSeven
namespace Go.Proofs.Qxb6600206aDoor
namespace Rows

/-- THE TIED CARD OF 'zzlaws_pkg_dnsmsg_b1.FnParseNumberedMatchesDigitModel'. -/
def fnParseNumberedMatchesDigitModelCard : Claim7 := { stood := { row := fnParseNumberedMatchesDigitModelRow, standIns := [], harness := (true, "ed50b7c2f10885b8272e6fdd07e73fbe201e881e3616c282b2f4a87625ddd544"), looks := true }, kinds := [], alts := [], laidByText := true, laidKinds := [.data, .data, .data, .sentinel, .sentinel], laidTests := true, laidLooks := .later }
def FnParseNumberedMatchesDigitModelCardSaid : Prop := Claim7.holds Tryd.pinned (.plain (OpenSpec.ofChange fnParseNumberedMatchesDigitModelSpec)) fnParseNumberedMatchesDigitModelCard

/-- THE TIED CARD OF 'zzlaws_pkg_dnsmsg_b1.FnParseNumberedReadsBackWhatIsWritten'. -/
def fnParseNumberedReadsBackWhatIsWrittenCard : Claim7 := { stood := { row := fnParseNumberedReadsBackWhatIsWrittenRow, standIns := [], harness := (true, "ed50b7c2f10885b8272e6fdd07e73fbe201e881e3616c282b2f4a87625ddd544"), looks := true }, kinds := [], alts := [], laidByText := true, laidKinds := [.data, .data, .data, .sentinel, .sentinel], laidTests := true, laidLooks := .later }
def FnParseNumberedReadsBackWhatIsWrittenCardSaid : Prop := Claim7.holds Tryd.pinned (.plain (OpenSpec.ofChange fnParseNumberedReadsBackWhatIsWrittenSpec)) fnParseNumberedReadsBackWhatIsWrittenCard
end Rows
end Go.Proofs.Qxb6600206aDoor
