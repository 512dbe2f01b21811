/-
  DERIVED. GIVEN WITH THE SEED: THE CARDS: each row of YthmjfmpgmcgonaaDoorRows.lean that lists a variable, with what it lists TIED to the program's text (the seventh form; the later family's looks); each row that meets fmt, with fmt's text TOLD by the authors' own Lean function (tested against real Go, not proved from fmt's source: count such statements apart). THE CARD IS WHAT COUNTS. Prove the row's statement (the work); the ties are given (YthmjfmpgmcgonaaDoorTie.lean); close each card by the builder's one call (the guide's Derived/Test/ToyasCard.lean, 'card_holds'). Laid BY PROGRAM, IN A SANDBOX (cutbox-door.mjs). By AI agents, Wed Nov 11 2026. No macro, syntax, notation, axiom, sorry.
-/
import Derived.Test.YthmjfmpgmcgonaaDoorRows
import GoSem.ClaimSeven
namespace Go.Proofs.YthmjfmpgmcgonaaDoor
namespace Rows

/-- THE TIED CARD OF 'laws.FnJpGetSelf'. -/
def fnJpGetSelfCard : Claim7 := { stood := { row := fnJpGetSelfRow, standIns := [], harness := (true, "0758ea775d452469450be72bc7ba34b5b3047afc73132cd559f310fa23d3cd54"), looks := true }, kinds := [], alts := [], laidByText := true, laidKinds := [.data, .data, .data, .sentinel, .sentinel, .data, .data, .sentinel, .sentinel, .sentinel, .sentinel, .sentinel, .sentinel, .sentinel], laidTests := true, laidLooks := .later }
def FnJpGetSelfCardSaid : Prop := Claim7.holds Tryd.pinned (.plain (OpenSpec.ofChange fnJpGetSelfSpec)) fnJpGetSelfCard

/-- THE TIED CARD OF 'laws.FnJpGetInt'. -/
def fnJpGetIntCard : Claim7 := { stood := { row := fnJpGetIntRow, standIns := [], harness := (true, "0758ea775d452469450be72bc7ba34b5b3047afc73132cd559f310fa23d3cd54"), looks := true }, kinds := [], alts := [], laidByText := true, laidKinds := [.data, .data, .data, .sentinel, .sentinel, .data, .data, .sentinel, .sentinel, .sentinel, .sentinel, .sentinel, .sentinel, .sentinel, .sentinel, .sentinel, .sentinel], laidTests := true, laidLooks := .later }
def FnJpGetIntCardSaid : Prop := Claim7.holds Tryd.pinned (.plain (OpenSpec.ofChange fnJpGetIntSpec)) fnJpGetIntCard

/-- THE TIED CARD OF 'laws.FnJqUint'. -/
def fnJqUintCard : Claim7 := { stood := { row := fnJqUintRow, standIns := [], harness := (true, "0758ea775d452469450be72bc7ba34b5b3047afc73132cd559f310fa23d3cd54"), looks := true }, kinds := [], alts := [], laidByText := true, laidKinds := [.data, .data, .data, .sentinel, .sentinel, .data, .data, .sentinel, .sentinel, .sentinel, .sentinel, .sentinel, .sentinel, .sentinel, .sentinel, .sentinel, .sentinel], laidTests := true, laidLooks := .later }
def FnJqUintCardSaid : Prop := Claim7.holds Tryd.pinned (.plain (OpenSpec.ofChange fnJqUintSpec)) fnJqUintCard

/-- THE TIED CARD OF 'laws.FnJpObjectEach'. -/
def fnJpObjectEachCard : Claim7 := { stood := { row := fnJpObjectEachRow, standIns := [], harness := (true, "0758ea775d452469450be72bc7ba34b5b3047afc73132cd559f310fa23d3cd54"), looks := true }, kinds := [], alts := [], laidByText := true, laidKinds := [.data, .data, .data, .sentinel, .sentinel, .data, .data, .sentinel, .sentinel, .sentinel, .sentinel, .sentinel, .sentinel, .sentinel], laidTests := true, laidLooks := .later }
def FnJpObjectEachCardSaid : Prop := Claim7.holds Tryd.pinned (.plain (OpenSpec.ofChange fnJpObjectEachSpec)) fnJpObjectEachCard

/-- THE SECOND FORM's CARD OF 'laws.FnJpGetSelf'. -/
def fnJpGetSelfUptoCard : Claim7 := { stood := { row := fnJpGetSelfUptoRow, standIns := [], harness := (true, "0758ea775d452469450be72bc7ba34b5b3047afc73132cd559f310fa23d3cd54"), looks := true }, kinds := [], alts := [], laidByText := true, laidKinds := [.data, .data, .data, .sentinel, .sentinel, .data, .data, .sentinel, .sentinel, .sentinel, .sentinel, .sentinel, .sentinel, .sentinel], laidTests := true, laidLooks := .later }
def FnJpGetSelfUptoCardSaid : Prop := Claim7.holds Tryd.pinned (.plain (OpenSpec.upto fnJpGetSelfSpec)) fnJpGetSelfUptoCard

/-- THE SECOND FORM's CARD OF 'laws.FnJpGetInt'. -/
def fnJpGetIntUptoCard : Claim7 := { stood := { row := fnJpGetIntUptoRow, standIns := [], harness := (true, "0758ea775d452469450be72bc7ba34b5b3047afc73132cd559f310fa23d3cd54"), looks := true }, kinds := [], alts := [], laidByText := true, laidKinds := [.data, .data, .data, .sentinel, .sentinel, .data, .data, .sentinel, .sentinel, .sentinel, .sentinel, .sentinel, .sentinel, .sentinel, .sentinel, .sentinel, .sentinel], laidTests := true, laidLooks := .later }
def FnJpGetIntUptoCardSaid : Prop := Claim7.holds Tryd.pinned (.plain (OpenSpec.upto fnJpGetIntSpec)) fnJpGetIntUptoCard

/-- THE SECOND FORM's CARD OF 'laws.FnJqUint'. -/
def fnJqUintUptoCard : Claim7 := { stood := { row := fnJqUintUptoRow, standIns := [], harness := (true, "0758ea775d452469450be72bc7ba34b5b3047afc73132cd559f310fa23d3cd54"), looks := true }, kinds := [], alts := [], laidByText := true, laidKinds := [.data, .data, .data, .sentinel, .sentinel, .data, .data, .sentinel, .sentinel, .sentinel, .sentinel, .sentinel, .sentinel, .sentinel, .sentinel, .sentinel, .sentinel], laidTests := true, laidLooks := .later }
def FnJqUintUptoCardSaid : Prop := Claim7.holds Tryd.pinned (.plain (OpenSpec.upto fnJqUintSpec)) fnJqUintUptoCard

/-- THE SECOND FORM's CARD OF 'laws.FnJpObjectEach'. -/
def fnJpObjectEachUptoCard : Claim7 := { stood := { row := fnJpObjectEachUptoRow, standIns := [], harness := (true, "0758ea775d452469450be72bc7ba34b5b3047afc73132cd559f310fa23d3cd54"), looks := true }, kinds := [], alts := [], laidByText := true, laidKinds := [.data, .data, .data, .sentinel, .sentinel, .data, .data, .sentinel, .sentinel, .sentinel, .sentinel, .sentinel, .sentinel, .sentinel], laidTests := true, laidLooks := .later }
def FnJpObjectEachUptoCardSaid : Prop := Claim7.holds Tryd.pinned (.plain (OpenSpec.upto fnJpObjectEachSpec)) fnJpObjectEachUptoCard
end Rows
end Go.Proofs.YthmjfmpgmcgonaaDoor
