/-
  DERIVED. GIVEN WITH THE SEED: THE CARDS: each row of YtaigbkkgmncipaaDoorRows.lean that lists a variable, with what it lists TIED to the program's text (the seventh form; the later family's looks); each row that meets fmt, with fmt's text TOLD by the authors' own Lean function (tested against real Go, not proved from fmt's source: count such statements apart). THE CARD IS WHAT COUNTS. Prove the row's statement (the work); the ties are given (YtaigbkkgmncipaaDoorTie.lean); close each card by the builder's one call (the guide's Derived/Test/ToyasCard.lean, 'card_holds'). Laid BY PROGRAM, IN A SANDBOX (cutbox-door.mjs). By AI agents, Wed Nov 11 2026. No macro, syntax, notation, axiom, sorry.
-/
import Derived.Test.YtaigbkkgmncipaaDoorRows
import GoSem.ClaimSeven
namespace Go.Proofs.YtaigbkkgmncipaaDoor
namespace Rows

/-- THE TIED CARD OF 'laws.FnMtAllowable'. -/
def fnMtAllowableCard : Claim7 := { stood := { row := fnMtAllowableRow, standIns := [], harness := (true, "c57bc85803711fc22e656b689d5e1c65426e45cc361052fe5a9c5ab3c78a401b"), looks := true }, kinds := [], alts := [], laidByText := true, laidKinds := [.data, .widerDeep, .pinned], laidTests := true, laidLooks := .later }
def FnMtAllowableCardSaid : Prop := Claim7.holds Tryd.pinned (.plain (OpenSpec.ofChange fnMtAllowableSpec)) fnMtAllowableCard

/-- THE TIED CARD OF 'laws.FnJpParseStringForms'. -/
def fnJpParseStringFormsCard : Claim7 := { stood := { row := fnJpParseStringFormsRow, standIns := [], harness := (true, "c57bc85803711fc22e656b689d5e1c65426e45cc361052fe5a9c5ab3c78a401b"), looks := true }, kinds := [], alts := [], laidByText := true, laidKinds := [.data, .data, .sentinel, .sentinel], laidTests := true, laidLooks := .later }
def FnJpParseStringFormsCardSaid : Prop := Claim7.holds Tryd.pinned (.plain (OpenSpec.ofChange fnJpParseStringFormsSpec)) fnJpParseStringFormsCard

/-- THE TIED CARD OF 'laws.FnJrUnescape'. -/
def fnJrUnescapeCard : Claim7 := { stood := { row := fnJrUnescapeRow, standIns := [], harness := (true, "c57bc85803711fc22e656b689d5e1c65426e45cc361052fe5a9c5ab3c78a401b"), looks := true }, kinds := [], alts := [], laidByText := true, laidKinds := [.data, .data, .sentinel, .sentinel, .sentinel, .sentinel, .sentinel, .sentinel, .sentinel, .sentinel, .sentinel, .sentinel], laidTests := true, laidLooks := .later }
def FnJrUnescapeCardSaid : Prop := Claim7.holds Tryd.pinned (.plain (OpenSpec.ofChange fnJrUnescapeSpec)) fnJrUnescapeCard

/-- THE TIED CARD OF 'laws.FnGjUnescapeWhole'. -/
def fnGjUnescapeWholeCard : Claim7 := { stood := { row := fnGjUnescapeWholeRow, standIns := [], harness := (true, "c57bc85803711fc22e656b689d5e1c65426e45cc361052fe5a9c5ab3c78a401b"), looks := true }, kinds := [], alts := [], laidByText := true, laidKinds := [.data, .data, .data, .sentinel, .sentinel], laidTests := true, laidLooks := .later }
def FnGjUnescapeWholeCardSaid : Prop := Claim7.holds Tryd.pinned (.plain (OpenSpec.ofChange fnGjUnescapeWholeSpec)) fnGjUnescapeWholeCard

/-- THE TIED CARD OF 'laws.FnGjStringText'. -/
def fnGjStringTextCard : Claim7 := { stood := { row := fnGjStringTextRow, standIns := [], harness := (true, "c57bc85803711fc22e656b689d5e1c65426e45cc361052fe5a9c5ab3c78a401b"), looks := true }, kinds := [], alts := [], laidByText := true, laidKinds := [.data, .data, .data, .sentinel, .sentinel], laidTests := true, laidLooks := .later }
def FnGjStringTextCardSaid : Prop := Claim7.holds Tryd.pinned (.plain (OpenSpec.ofChange fnGjStringTextSpec)) fnGjStringTextCard

/-- THE SECOND FORM's CARD OF 'laws.FnMtAllowable'. -/
def fnMtAllowableUptoCard : Claim7 := { stood := { row := fnMtAllowableUptoRow, standIns := [], harness := (true, "c57bc85803711fc22e656b689d5e1c65426e45cc361052fe5a9c5ab3c78a401b"), looks := true }, kinds := [], alts := [], laidByText := true, laidKinds := [.data, .widerDeep, .pinned], laidTests := true, laidLooks := .later }
def FnMtAllowableUptoCardSaid : Prop := Claim7.holds Tryd.pinned (.plain (OpenSpec.upto fnMtAllowableSpec)) fnMtAllowableUptoCard

/-- THE SECOND FORM's CARD OF 'laws.FnJpParseStringForms'. -/
def fnJpParseStringFormsUptoCard : Claim7 := { stood := { row := fnJpParseStringFormsUptoRow, standIns := [], harness := (true, "c57bc85803711fc22e656b689d5e1c65426e45cc361052fe5a9c5ab3c78a401b"), looks := true }, kinds := [], alts := [], laidByText := true, laidKinds := [.data, .data, .sentinel, .sentinel], laidTests := true, laidLooks := .later }
def FnJpParseStringFormsUptoCardSaid : Prop := Claim7.holds Tryd.pinned (.plain (OpenSpec.upto fnJpParseStringFormsSpec)) fnJpParseStringFormsUptoCard

/-- THE SECOND FORM's CARD OF 'laws.FnJrUnescape'. -/
def fnJrUnescapeUptoCard : Claim7 := { stood := { row := fnJrUnescapeUptoRow, standIns := [], harness := (true, "c57bc85803711fc22e656b689d5e1c65426e45cc361052fe5a9c5ab3c78a401b"), looks := true }, kinds := [], alts := [], laidByText := true, laidKinds := [.data, .data, .sentinel, .sentinel, .sentinel, .sentinel, .sentinel, .sentinel, .sentinel, .sentinel, .sentinel, .sentinel], laidTests := true, laidLooks := .later }
def FnJrUnescapeUptoCardSaid : Prop := Claim7.holds Tryd.pinned (.plain (OpenSpec.upto fnJrUnescapeSpec)) fnJrUnescapeUptoCard

/-- THE SECOND FORM's CARD OF 'laws.FnGjUnescapeWhole'. -/
def fnGjUnescapeWholeUptoCard : Claim7 := { stood := { row := fnGjUnescapeWholeUptoRow, standIns := [], harness := (true, "c57bc85803711fc22e656b689d5e1c65426e45cc361052fe5a9c5ab3c78a401b"), looks := true }, kinds := [], alts := [], laidByText := true, laidKinds := [.data, .data, .data, .sentinel, .sentinel], laidTests := true, laidLooks := .later }
def FnGjUnescapeWholeUptoCardSaid : Prop := Claim7.holds Tryd.pinned (.plain (OpenSpec.upto fnGjUnescapeWholeSpec)) fnGjUnescapeWholeUptoCard

/-- THE SECOND FORM's CARD OF 'laws.FnGjStringText'. -/
def fnGjStringTextUptoCard : Claim7 := { stood := { row := fnGjStringTextUptoRow, standIns := [], harness := (true, "c57bc85803711fc22e656b689d5e1c65426e45cc361052fe5a9c5ab3c78a401b"), looks := true }, kinds := [], alts := [], laidByText := true, laidKinds := [.data, .data, .data, .sentinel, .sentinel], laidTests := true, laidLooks := .later }
def FnGjStringTextUptoCardSaid : Prop := Claim7.holds Tryd.pinned (.plain (OpenSpec.upto fnGjStringTextSpec)) fnGjStringTextUptoCard
end Rows
end Go.Proofs.YtaigbkkgmncipaaDoor
