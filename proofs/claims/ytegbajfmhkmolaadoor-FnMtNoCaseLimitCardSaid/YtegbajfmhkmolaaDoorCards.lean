/-
  DERIVED. GIVEN WITH THE SEED: THE CARDS: each row of YtegbajfmhkmolaaDoorRows.lean that lists a variable, with what it lists TIED to the program's text (the seventh form; the later family's looks); each row that meets fmt, with fmt's text TOLD by the authors' own Lean function (tested against real Go, not proved from fmt's source: count such statements apart). THE CARD IS WHAT COUNTS. Prove the row's statement (the work); the ties are given (YtegbajfmhkmolaaDoorTie.lean); close each card by the builder's one call (the guide's Derived/Test/ToyasCard.lean, 'card_holds'). Laid BY PROGRAM, IN A SANDBOX (cutbox-door.mjs). By AI agents, Wed Nov 11 2026. No macro, syntax, notation, axiom, sorry.
-/
import Derived.Test.YtegbajfmhkmolaaDoorRows
import GoSem.ClaimSeven
namespace Go.Proofs.YtegbajfmhkmolaaDoor
namespace Rows

/-- THE TIED CARD OF 'laws.FnSjStringExact'. -/
def fnSjStringExactCard : Claim7 := { stood := { row := fnSjStringExactRow, standIns := [], harness := (true, "083f880b82a7ea5949b1e64f8ea81e68854f380bce7546e1abb7aebb6e262795"), looks := false }, kinds := [], alts := [], laidByText := true, laidKinds := [.data, .pinned], laidTests := true, laidLooks := .later }
def FnSjStringExactCardSaid : Prop := Claim7.holds Tryd.pinned (.plain (OpenSpec.ofChange fnSjStringExactSpec)) fnSjStringExactCard

/-- THE TIED CARD OF 'laws.FnGjQuoteApart'. -/
def fnGjQuoteApartCard : Claim7 := { stood := { row := fnGjQuoteApartRow, standIns := [], harness := (true, "083f880b82a7ea5949b1e64f8ea81e68854f380bce7546e1abb7aebb6e262795"), looks := false }, kinds := [], alts := [], laidByText := true, laidKinds := [.data, .data, .pinned], laidTests := true, laidLooks := .later }
def FnGjQuoteApartCardSaid : Prop := Claim7.holds Tryd.pinned (.plain (OpenSpec.ofChange fnGjQuoteApartSpec)) fnGjQuoteApartCard

/-- THE TIED CARD OF 'laws.FnGjToStrText'. -/
def fnGjToStrTextCard : Claim7 := { stood := { row := fnGjToStrTextRow, standIns := [], harness := (true, "083f880b82a7ea5949b1e64f8ea81e68854f380bce7546e1abb7aebb6e262795"), looks := false }, kinds := [], alts := [], laidByText := true, laidKinds := [.data, .data, .pinned], laidTests := true, laidLooks := .later }
def FnGjToStrTextCardSaid : Prop := Claim7.holds Tryd.pinned (.plain (OpenSpec.ofChange fnGjToStrTextSpec)) fnGjToStrTextCard

/-- THE TIED CARD OF 'laws.FnMtAllowable'. -/
def fnMtAllowableCard : Claim7 := { stood := { row := fnMtAllowableRow, standIns := [], harness := (true, "083f880b82a7ea5949b1e64f8ea81e68854f380bce7546e1abb7aebb6e262795"), looks := false }, kinds := [], alts := [], laidByText := true, laidKinds := [.data, .widerDeep, .pinned], laidTests := true, laidLooks := .later }
def FnMtAllowableCardSaid : Prop := Claim7.holds Tryd.pinned (.plain (OpenSpec.ofChange fnMtAllowableSpec)) fnMtAllowableCard

/-- THE TIED CARD OF 'laws.FnMtCount'. -/
def fnMtCountCard : Claim7 := { stood := { row := fnMtCountRow, standIns := [], harness := (true, "083f880b82a7ea5949b1e64f8ea81e68854f380bce7546e1abb7aebb6e262795"), looks := false }, kinds := [], alts := [], laidByText := true, laidKinds := [.data, .pinned], laidTests := true, laidLooks := .later }
def FnMtCountCardSaid : Prop := Claim7.holds Tryd.pinned (.plain (OpenSpec.ofChange fnMtCountSpec)) fnMtCountCard

/-- THE TIED CARD OF 'laws.FnJpParseStringForms'. -/
def fnJpParseStringFormsCard : Claim7 := { stood := { row := fnJpParseStringFormsRow, standIns := [], harness := (true, "083f880b82a7ea5949b1e64f8ea81e68854f380bce7546e1abb7aebb6e262795"), looks := false }, kinds := [], alts := [], laidByText := true, laidKinds := [.data, .data, .sentinel, .sentinel], laidTests := true, laidLooks := .later }
def FnJpParseStringFormsCardSaid : Prop := Claim7.holds Tryd.pinned (.plain (OpenSpec.ofChange fnJpParseStringFormsSpec)) fnJpParseStringFormsCard

/-- THE TIED CARD OF 'laws.FnMtNoCaseLimit'. -/
def fnMtNoCaseLimitCard : Claim7 := { stood := { row := fnMtNoCaseLimitRow, standIns := [], harness := (true, "083f880b82a7ea5949b1e64f8ea81e68854f380bce7546e1abb7aebb6e262795"), looks := false }, kinds := [], alts := [], laidByText := true, laidKinds := [.data, .pinned], laidTests := true, laidLooks := .later }
def FnMtNoCaseLimitCardSaid : Prop := Claim7.holds Tryd.pinned (.plain (OpenSpec.ofChange fnMtNoCaseLimitSpec)) fnMtNoCaseLimitCard

/-- THE SECOND FORM's CARD OF 'laws.FnSjStringExact'. -/
def fnSjStringExactUptoCard : Claim7 := { stood := { row := fnSjStringExactUptoRow, standIns := [], harness := (true, "083f880b82a7ea5949b1e64f8ea81e68854f380bce7546e1abb7aebb6e262795"), looks := false }, kinds := [], alts := [], laidByText := true, laidKinds := [.data, .pinned], laidTests := true, laidLooks := .later }
def FnSjStringExactUptoCardSaid : Prop := Claim7.holds Tryd.pinned (.plain (OpenSpec.upto fnSjStringExactSpec)) fnSjStringExactUptoCard

/-- THE SECOND FORM's CARD OF 'laws.FnGjQuoteApart'. -/
def fnGjQuoteApartUptoCard : Claim7 := { stood := { row := fnGjQuoteApartUptoRow, standIns := [], harness := (true, "083f880b82a7ea5949b1e64f8ea81e68854f380bce7546e1abb7aebb6e262795"), looks := false }, kinds := [], alts := [], laidByText := true, laidKinds := [.data, .data, .pinned], laidTests := true, laidLooks := .later }
def FnGjQuoteApartUptoCardSaid : Prop := Claim7.holds Tryd.pinned (.plain (OpenSpec.upto fnGjQuoteApartSpec)) fnGjQuoteApartUptoCard

/-- THE SECOND FORM's CARD OF 'laws.FnGjToStrText'. -/
def fnGjToStrTextUptoCard : Claim7 := { stood := { row := fnGjToStrTextUptoRow, standIns := [], harness := (true, "083f880b82a7ea5949b1e64f8ea81e68854f380bce7546e1abb7aebb6e262795"), looks := false }, kinds := [], alts := [], laidByText := true, laidKinds := [.data, .data, .pinned], laidTests := true, laidLooks := .later }
def FnGjToStrTextUptoCardSaid : Prop := Claim7.holds Tryd.pinned (.plain (OpenSpec.upto fnGjToStrTextSpec)) fnGjToStrTextUptoCard

/-- THE SECOND FORM's CARD OF 'laws.FnMtAllowable'. -/
def fnMtAllowableUptoCard : Claim7 := { stood := { row := fnMtAllowableUptoRow, standIns := [], harness := (true, "083f880b82a7ea5949b1e64f8ea81e68854f380bce7546e1abb7aebb6e262795"), looks := false }, kinds := [], alts := [], laidByText := true, laidKinds := [.data, .widerDeep, .pinned], laidTests := true, laidLooks := .later }
def FnMtAllowableUptoCardSaid : Prop := Claim7.holds Tryd.pinned (.plain (OpenSpec.upto fnMtAllowableSpec)) fnMtAllowableUptoCard

/-- THE SECOND FORM's CARD OF 'laws.FnMtCount'. -/
def fnMtCountUptoCard : Claim7 := { stood := { row := fnMtCountUptoRow, standIns := [], harness := (true, "083f880b82a7ea5949b1e64f8ea81e68854f380bce7546e1abb7aebb6e262795"), looks := false }, kinds := [], alts := [], laidByText := true, laidKinds := [.data, .pinned], laidTests := true, laidLooks := .later }
def FnMtCountUptoCardSaid : Prop := Claim7.holds Tryd.pinned (.plain (OpenSpec.upto fnMtCountSpec)) fnMtCountUptoCard

/-- THE SECOND FORM's CARD OF 'laws.FnJpParseStringForms'. -/
def fnJpParseStringFormsUptoCard : Claim7 := { stood := { row := fnJpParseStringFormsUptoRow, standIns := [], harness := (true, "083f880b82a7ea5949b1e64f8ea81e68854f380bce7546e1abb7aebb6e262795"), looks := false }, kinds := [], alts := [], laidByText := true, laidKinds := [.data, .data, .sentinel, .sentinel], laidTests := true, laidLooks := .later }
def FnJpParseStringFormsUptoCardSaid : Prop := Claim7.holds Tryd.pinned (.plain (OpenSpec.upto fnJpParseStringFormsSpec)) fnJpParseStringFormsUptoCard

/-- THE SECOND FORM's CARD OF 'laws.FnMtNoCaseLimit'. -/
def fnMtNoCaseLimitUptoCard : Claim7 := { stood := { row := fnMtNoCaseLimitUptoRow, standIns := [], harness := (true, "083f880b82a7ea5949b1e64f8ea81e68854f380bce7546e1abb7aebb6e262795"), looks := false }, kinds := [], alts := [], laidByText := true, laidKinds := [.data, .pinned], laidTests := true, laidLooks := .later }
def FnMtNoCaseLimitUptoCardSaid : Prop := Claim7.holds Tryd.pinned (.plain (OpenSpec.upto fnMtNoCaseLimitSpec)) fnMtNoCaseLimitUptoCard
end Rows
end Go.Proofs.YtegbajfmhkmolaaDoor
