/-
  DERIVED. GIVEN WITH THE SEED: THE CARDS: each row of YtafbdpdbagkbgaaDoorRows.lean that lists a variable, with what it lists TIED to the program's text (the seventh form; the later family's looks); each row that meets fmt, with fmt's text TOLD by the authors' own Lean function (tested against real Go, not proved from fmt's source: count such statements apart). THE CARD IS WHAT COUNTS. Prove the row's statement (the work); the ties are given (YtafbdpdbagkbgaaDoorTie.lean); close each card by the builder's one call (the guide's Derived/Test/ToyasCard.lean, 'card_holds'). Laid BY PROGRAM, IN A SANDBOX (cutbox-door.mjs). By AI agents, Wed Nov 11 2026. No macro, syntax, notation, axiom, sorry.
-/
import Derived.Test.YtafbdpdbagkbgaaDoorRows
import GoSem.ClaimSeven
namespace Go.Proofs.YtafbdpdbagkbgaaDoor
namespace Rows

/-- THE TIED CARD OF 'laws.FnJqParsePath'. -/
def fnJqParsePathCard : Claim7 := { stood := { row := fnJqParsePathRow, standIns := [], harness := (true, "22ef6b267f4aaae20c4a538467c7df2f3c618e268ea04196fb83213bfc22e2e5"), looks := true }, kinds := [], alts := [], laidByText := true, laidKinds := [.data, .data, .sentinel, .sentinel, .sentinel, .sentinel], laidTests := true, laidLooks := .later }
def FnJqParsePathCardSaid : Prop := Claim7.holds Tryd.pinned (.plain (OpenSpec.ofChange fnJqParsePathSpec)) fnJqParsePathCard

/-- THE TIED CARD OF 'laws.FnFjLoose'. -/
def fnFjLooseCard : Claim7 := { stood := { row := fnFjLooseRow, standIns := [], harness := (true, "22ef6b267f4aaae20c4a538467c7df2f3c618e268ea04196fb83213bfc22e2e5"), looks := true }, kinds := [], alts := [], laidByText := true, laidKinds := [.data, .pinned, .pinned, .pinned, .pinned, .pinned, .pinned], laidTests := true, laidLooks := .later }
def FnFjLooseCardSaid : Prop := Claim7.holds Tryd.pinned (.plain (OpenSpec.ofChange fnFjLooseSpec)) fnFjLooseCard

/-- THE TIED CARD OF 'laws.FnJpGetSelf'. -/
def fnJpGetSelfCard : Claim7 := { stood := { row := fnJpGetSelfRow, standIns := [], harness := (true, "22ef6b267f4aaae20c4a538467c7df2f3c618e268ea04196fb83213bfc22e2e5"), looks := true }, kinds := [], alts := [], laidByText := true, laidKinds := [.data, .data, .data, .sentinel, .sentinel, .data, .data, .sentinel, .sentinel, .sentinel, .sentinel, .sentinel, .sentinel, .sentinel], laidTests := true, laidLooks := .later }
def FnJpGetSelfCardSaid : Prop := Claim7.holds Tryd.pinned (.plain (OpenSpec.ofChange fnJpGetSelfSpec)) fnJpGetSelfCard

/-- THE TIED CARD OF 'laws.FnJpGetInt'. -/
def fnJpGetIntCard : Claim7 := { stood := { row := fnJpGetIntRow, standIns := [], harness := (true, "22ef6b267f4aaae20c4a538467c7df2f3c618e268ea04196fb83213bfc22e2e5"), looks := true }, kinds := [], alts := [], laidByText := true, laidKinds := [.data, .data, .data, .sentinel, .sentinel, .data, .data, .sentinel, .sentinel, .sentinel, .sentinel, .sentinel, .sentinel, .sentinel, .sentinel, .sentinel, .sentinel], laidTests := true, laidLooks := .later }
def FnJpGetIntCardSaid : Prop := Claim7.holds Tryd.pinned (.plain (OpenSpec.ofChange fnJpGetIntSpec)) fnJpGetIntCard

/-- THE TIED CARD OF 'laws.FnJqUint'. -/
def fnJqUintCard : Claim7 := { stood := { row := fnJqUintRow, standIns := [], harness := (true, "22ef6b267f4aaae20c4a538467c7df2f3c618e268ea04196fb83213bfc22e2e5"), looks := true }, kinds := [], alts := [], laidByText := true, laidKinds := [.data, .data, .data, .sentinel, .sentinel, .data, .data, .sentinel, .sentinel, .sentinel, .sentinel, .sentinel, .sentinel, .sentinel, .sentinel, .sentinel, .sentinel], laidTests := true, laidLooks := .later }
def FnJqUintCardSaid : Prop := Claim7.holds Tryd.pinned (.plain (OpenSpec.ofChange fnJqUintSpec)) fnJqUintCard

/-- THE SECOND FORM's CARD OF 'laws.FnJqParsePath'. -/
def fnJqParsePathUptoCard : Claim7 := { stood := { row := fnJqParsePathUptoRow, standIns := [], harness := (true, "22ef6b267f4aaae20c4a538467c7df2f3c618e268ea04196fb83213bfc22e2e5"), looks := true }, kinds := [], alts := [], laidByText := true, laidKinds := [.data, .data, .sentinel, .sentinel, .sentinel, .sentinel], laidTests := true, laidLooks := .later }
def FnJqParsePathUptoCardSaid : Prop := Claim7.holds Tryd.pinned (.plain (OpenSpec.upto fnJqParsePathSpec)) fnJqParsePathUptoCard

/-- THE SECOND FORM's CARD OF 'laws.FnFjLoose'. -/
def fnFjLooseUptoCard : Claim7 := { stood := { row := fnFjLooseUptoRow, standIns := [], harness := (true, "22ef6b267f4aaae20c4a538467c7df2f3c618e268ea04196fb83213bfc22e2e5"), looks := true }, kinds := [], alts := [], laidByText := true, laidKinds := [.data, .pinned, .pinned, .pinned, .pinned, .pinned, .pinned], laidTests := true, laidLooks := .later }
def FnFjLooseUptoCardSaid : Prop := Claim7.holds Tryd.pinned (.plain (OpenSpec.upto fnFjLooseSpec)) fnFjLooseUptoCard

/-- THE SECOND FORM's CARD OF 'laws.FnJpGetSelf'. -/
def fnJpGetSelfUptoCard : Claim7 := { stood := { row := fnJpGetSelfUptoRow, standIns := [], harness := (true, "22ef6b267f4aaae20c4a538467c7df2f3c618e268ea04196fb83213bfc22e2e5"), looks := true }, kinds := [], alts := [], laidByText := true, laidKinds := [.data, .data, .data, .sentinel, .sentinel, .data, .data, .sentinel, .sentinel, .sentinel, .sentinel, .sentinel, .sentinel, .sentinel], laidTests := true, laidLooks := .later }
def FnJpGetSelfUptoCardSaid : Prop := Claim7.holds Tryd.pinned (.plain (OpenSpec.upto fnJpGetSelfSpec)) fnJpGetSelfUptoCard

/-- THE SECOND FORM's CARD OF 'laws.FnJpGetInt'. -/
def fnJpGetIntUptoCard : Claim7 := { stood := { row := fnJpGetIntUptoRow, standIns := [], harness := (true, "22ef6b267f4aaae20c4a538467c7df2f3c618e268ea04196fb83213bfc22e2e5"), looks := true }, kinds := [], alts := [], laidByText := true, laidKinds := [.data, .data, .data, .sentinel, .sentinel, .data, .data, .sentinel, .sentinel, .sentinel, .sentinel, .sentinel, .sentinel, .sentinel, .sentinel, .sentinel, .sentinel], laidTests := true, laidLooks := .later }
def FnJpGetIntUptoCardSaid : Prop := Claim7.holds Tryd.pinned (.plain (OpenSpec.upto fnJpGetIntSpec)) fnJpGetIntUptoCard

/-- THE SECOND FORM's CARD OF 'laws.FnJqUint'. -/
def fnJqUintUptoCard : Claim7 := { stood := { row := fnJqUintUptoRow, standIns := [], harness := (true, "22ef6b267f4aaae20c4a538467c7df2f3c618e268ea04196fb83213bfc22e2e5"), looks := true }, kinds := [], alts := [], laidByText := true, laidKinds := [.data, .data, .data, .sentinel, .sentinel, .data, .data, .sentinel, .sentinel, .sentinel, .sentinel, .sentinel, .sentinel, .sentinel, .sentinel, .sentinel, .sentinel], laidTests := true, laidLooks := .later }
def FnJqUintUptoCardSaid : Prop := Claim7.holds Tryd.pinned (.plain (OpenSpec.upto fnJqUintSpec)) fnJqUintUptoCard
end Rows
end Go.Proofs.YtafbdpdbagkbgaaDoor
