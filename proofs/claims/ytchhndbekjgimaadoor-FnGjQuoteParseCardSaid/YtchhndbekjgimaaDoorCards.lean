/-
  DERIVED. GIVEN WITH THE SEED: THE CARDS: each row of YtchhndbekjgimaaDoorRows.lean that lists a variable, with what it lists TIED to the program's text (the seventh form; the later family's looks); each row that meets fmt, with fmt's text TOLD by the authors' own Lean function (tested against real Go, not proved from fmt's source: count such statements apart). THE CARD IS WHAT COUNTS. Prove the row's statement (the work); the ties are given (YtchhndbekjgimaaDoorTie.lean); close each card by the builder's one call (the guide's Derived/Test/ToyasCard.lean, 'card_holds'). Laid BY PROGRAM, IN A SANDBOX (cutbox-door.mjs). By AI agents, Wed Nov 11 2026. No macro, syntax, notation, axiom, sorry.
-/
import Derived.Test.YtchhndbekjgimaaDoorRows
import GoSem.ClaimSeven
namespace Go.Proofs.YtchhndbekjgimaaDoor
namespace Rows

/-- THE TIED CARD OF 'laws.FnGjQuoteParse'. -/
def fnGjQuoteParseCard : Claim7 := { stood := { row := fnGjQuoteParseRow, standIns := [], harness := (true, "a59aaa1e6ecc8ac24debdaae045a5aac10ac5b21566cffa8e048a5d9c3e32bc2"), looks := true }, kinds := [], alts := [], laidByText := true, laidKinds := [.data, .data, .widerDeep, .widerDeep, .data, .data, .data, .data, .data, .data, .sentinel, .sentinel, .data, .pinned, .pinned, .pinned], laidTests := true, laidLooks := .later }
def FnGjQuoteParseCardSaid : Prop := Claim7.holds Tryd.pinned (.plain (OpenSpec.ofChange fnGjQuoteParseSpec)) fnGjQuoteParseCard

/-- THE SECOND FORM's CARD OF 'laws.FnGjQuoteParse'. -/
def fnGjQuoteParseUptoCard : Claim7 := { stood := { row := fnGjQuoteParseUptoRow, standIns := [], harness := (true, "a59aaa1e6ecc8ac24debdaae045a5aac10ac5b21566cffa8e048a5d9c3e32bc2"), looks := true }, kinds := [], alts := [], laidByText := true, laidKinds := [.data, .data, .widerDeep, .widerDeep, .data, .data, .data, .data, .data, .data, .sentinel, .sentinel, .data, .pinned, .pinned, .pinned], laidTests := true, laidLooks := .later }
def FnGjQuoteParseUptoCardSaid : Prop := Claim7.holds Tryd.pinned (.plain (OpenSpec.upto fnGjQuoteParseSpec)) fnGjQuoteParseUptoCard
end Rows
end Go.Proofs.YtchhndbekjgimaaDoor
