/-
  DERIVED. GIVEN WITH THE SEED: THE CARDS: each row of Qxb6603688aDoorRows.lean that lists a variable, with what it lists TIED to the program's text (the seventh form; the later family's looks); each row that meets fmt, with fmt's text TOLD by the authors' own Lean function (tested against real Go, not proved from fmt's source: count such statements apart). THE CARD IS WHAT COUNTS. Prove the row's statement (the work); the ties are given (Qxb6603688aDoorTie.lean); close each card by the builder's one call (the guide's Derived/Test/ToyasCard.lean, 'card_holds'). Laid BY PROGRAM, IN A SANDBOX (cutbox-door.mjs). By AI agents, Wed Nov 11 2026. No macro, syntax, notation, axiom, sorry.
-/
import Derived.Test.Qxb6603688aDoorRows
import GoSem.ClaimSeven
namespace Go.Proofs.Qxb6603688aDoor
namespace Rows

/-- THE TIED CARD OF 'zzlaws_epp_b1.FnCharRefMatchesXMLGrammar'. -/
def fnCharRefMatchesXMLGrammarCard : Claim7 := { stood := { row := fnCharRefMatchesXMLGrammarRow, standIns := [], harness := (true, "c090ad296b736899426a4f3877215adbf708b58c82cdbbe8361563adddf07379"), looks := true }, kinds := [], alts := [], laidByText := true, laidKinds := [.data, .data, .data, .sentinel, .sentinel], laidTests := true, laidLooks := .later }
def FnCharRefMatchesXMLGrammarCardSaid : Prop := Claim7.holds Tryd.pinned (.plain (OpenSpec.ofChange fnCharRefMatchesXMLGrammarSpec)) fnCharRefMatchesXMLGrammarCard

/-- THE TIED CARD OF 'zzlaws_epp_b1.FnCharRefReadsBackItsEncoding'. -/
def fnCharRefReadsBackItsEncodingCard : Claim7 := { stood := { row := fnCharRefReadsBackItsEncodingRow, standIns := [], harness := (true, "c090ad296b736899426a4f3877215adbf708b58c82cdbbe8361563adddf07379"), looks := true }, kinds := [], alts := [], laidByText := true, laidKinds := [.data, .data, .data, .sentinel, .sentinel], laidTests := true, laidLooks := .later }
def FnCharRefReadsBackItsEncodingCardSaid : Prop := Claim7.holds Tryd.pinned (.plain (OpenSpec.ofChange fnCharRefReadsBackItsEncodingSpec)) fnCharRefReadsBackItsEncodingCard
end Rows
end Go.Proofs.Qxb6603688aDoor
