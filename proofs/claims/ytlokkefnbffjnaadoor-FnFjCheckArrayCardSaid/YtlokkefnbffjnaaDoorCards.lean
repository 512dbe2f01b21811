/-
  DERIVED. GIVEN WITH THE SEED: THE CARDS: each row of YtlokkefnbffjnaaDoorRows.lean that lists a variable, with what it lists TIED to the program's text (the seventh form; the later family's looks); each row that meets fmt, with fmt's text TOLD by the authors' own Lean function (tested against real Go, not proved from fmt's source: count such statements apart). THE CARD IS WHAT COUNTS. Prove the row's statement (the work); the ties are given (YtlokkefnbffjnaaDoorTie.lean); close each card by the builder's one call (the guide's Derived/Test/ToyasCard.lean, 'card_holds'). Laid BY PROGRAM, IN A SANDBOX (cutbox-door.mjs). By AI agents, Wed Nov 11 2026. No macro, syntax, notation, axiom, sorry.
-/
import Derived.Test.YtlokkefnbffjnaaDoorRows
import GoSem.ClaimSeven
namespace Go.Proofs.YtlokkefnbffjnaaDoor
namespace Rows

/-- THE TIED CARD OF 'laws.FnJrUnescape'. -/
def fnJrUnescapeCard : Claim7 := { stood := { row := fnJrUnescapeRow, standIns := [], harness := (true, "ee661f544bd59827acec672b04e0fd5d097be4207fdc9da0d42e091ecf88bd4c"), looks := true }, kinds := [], alts := [], laidByText := true, laidKinds := [.data, .data, .sentinel, .sentinel, .sentinel, .sentinel, .sentinel, .sentinel, .sentinel, .sentinel, .sentinel, .sentinel], laidTests := true, laidLooks := .later }
def FnJrUnescapeCardSaid : Prop := Claim7.holds Tryd.pinned (.plain (OpenSpec.ofChange fnJrUnescapeSpec)) fnJrUnescapeCard

/-- THE TIED CARD OF 'laws.FnFfUint64'. -/
def fnFfUint64Card : Claim7 := { stood := { row := fnFfUint64Row, standIns := [], harness := (true, "ee661f544bd59827acec672b04e0fd5d097be4207fdc9da0d42e091ecf88bd4c"), looks := true }, kinds := [], alts := [], laidByText := true, laidKinds := [.data, .data, .data, .sentinel, .sentinel], laidTests := true, laidLooks := .later }
def FnFfUint64CardSaid : Prop := Claim7.holds Tryd.pinned (.plain (OpenSpec.ofChange fnFfUint64Spec)) fnFfUint64Card

/-- THE TIED CARD OF 'laws.FnGjUnescapeWhole'. -/
def fnGjUnescapeWholeCard : Claim7 := { stood := { row := fnGjUnescapeWholeRow, standIns := [], harness := (true, "ee661f544bd59827acec672b04e0fd5d097be4207fdc9da0d42e091ecf88bd4c"), looks := true }, kinds := [], alts := [], laidByText := true, laidKinds := [.data, .data, .data, .sentinel, .sentinel], laidTests := true, laidLooks := .later }
def FnGjUnescapeWholeCardSaid : Prop := Claim7.holds Tryd.pinned (.plain (OpenSpec.ofChange fnGjUnescapeWholeSpec)) fnGjUnescapeWholeCard

/-- THE TIED CARD OF 'laws.FnGjStringText'. -/
def fnGjStringTextCard : Claim7 := { stood := { row := fnGjStringTextRow, standIns := [], harness := (true, "ee661f544bd59827acec672b04e0fd5d097be4207fdc9da0d42e091ecf88bd4c"), looks := true }, kinds := [], alts := [], laidByText := true, laidKinds := [.data, .data, .data, .sentinel, .sentinel], laidTests := true, laidLooks := .later }
def FnGjStringTextCardSaid : Prop := Claim7.holds Tryd.pinned (.plain (OpenSpec.ofChange fnGjStringTextSpec)) fnGjStringTextCard

/-- THE TIED CARD OF 'laws.FnFjLoose'. -/
def fnFjLooseCard : Claim7 := { stood := { row := fnFjLooseRow, standIns := [], harness := (true, "ee661f544bd59827acec672b04e0fd5d097be4207fdc9da0d42e091ecf88bd4c"), looks := true }, kinds := [], alts := [], laidByText := true, laidKinds := [.data, .pinned, .pinned, .pinned, .pinned, .pinned, .pinned], laidTests := true, laidLooks := .later }
def FnFjLooseCardSaid : Prop := Claim7.holds Tryd.pinned (.plain (OpenSpec.ofChange fnFjLooseSpec)) fnFjLooseCard

/-- THE TIED CARD OF 'laws.FnFjCheckArray'. -/
def fnFjCheckArrayCard : Claim7 := { stood := { row := fnFjCheckArrayRow, standIns := [], harness := (true, "ee661f544bd59827acec672b04e0fd5d097be4207fdc9da0d42e091ecf88bd4c"), looks := true }, kinds := [], alts := [], laidByText := true, laidKinds := [.data, .data, .data, .sentinel, .sentinel], laidTests := true, laidLooks := .later }
def FnFjCheckArrayCardSaid : Prop := Claim7.holds Tryd.pinned (.plain (OpenSpec.ofChange fnFjCheckArraySpec)) fnFjCheckArrayCard

/-- THE TIED CARD OF 'laws.FnFjValid'. -/
def fnFjValidCard : Claim7 := { stood := { row := fnFjValidRow, standIns := [], harness := (true, "ee661f544bd59827acec672b04e0fd5d097be4207fdc9da0d42e091ecf88bd4c"), looks := true }, kinds := [], alts := [], laidByText := true, laidKinds := [.data, .data, .data, .sentinel, .sentinel], laidTests := true, laidLooks := .later }
def FnFjValidCardSaid : Prop := Claim7.holds Tryd.pinned (.plain (OpenSpec.ofChange fnFjValidSpec)) fnFjValidCard

/-- THE SECOND FORM's CARD OF 'laws.FnJrUnescape'. -/
def fnJrUnescapeUptoCard : Claim7 := { stood := { row := fnJrUnescapeUptoRow, standIns := [], harness := (true, "ee661f544bd59827acec672b04e0fd5d097be4207fdc9da0d42e091ecf88bd4c"), looks := true }, kinds := [], alts := [], laidByText := true, laidKinds := [.data, .data, .sentinel, .sentinel, .sentinel, .sentinel, .sentinel, .sentinel, .sentinel, .sentinel, .sentinel, .sentinel], laidTests := true, laidLooks := .later }
def FnJrUnescapeUptoCardSaid : Prop := Claim7.holds Tryd.pinned (.plain (OpenSpec.upto fnJrUnescapeSpec)) fnJrUnescapeUptoCard

/-- THE SECOND FORM's CARD OF 'laws.FnFfUint64'. -/
def fnFfUint64UptoCard : Claim7 := { stood := { row := fnFfUint64UptoRow, standIns := [], harness := (true, "ee661f544bd59827acec672b04e0fd5d097be4207fdc9da0d42e091ecf88bd4c"), looks := true }, kinds := [], alts := [], laidByText := true, laidKinds := [.data, .data, .data, .sentinel, .sentinel], laidTests := true, laidLooks := .later }
def FnFfUint64UptoCardSaid : Prop := Claim7.holds Tryd.pinned (.plain (OpenSpec.upto fnFfUint64Spec)) fnFfUint64UptoCard

/-- THE SECOND FORM's CARD OF 'laws.FnGjUnescapeWhole'. -/
def fnGjUnescapeWholeUptoCard : Claim7 := { stood := { row := fnGjUnescapeWholeUptoRow, standIns := [], harness := (true, "ee661f544bd59827acec672b04e0fd5d097be4207fdc9da0d42e091ecf88bd4c"), looks := true }, kinds := [], alts := [], laidByText := true, laidKinds := [.data, .data, .data, .sentinel, .sentinel], laidTests := true, laidLooks := .later }
def FnGjUnescapeWholeUptoCardSaid : Prop := Claim7.holds Tryd.pinned (.plain (OpenSpec.upto fnGjUnescapeWholeSpec)) fnGjUnescapeWholeUptoCard

/-- THE SECOND FORM's CARD OF 'laws.FnGjStringText'. -/
def fnGjStringTextUptoCard : Claim7 := { stood := { row := fnGjStringTextUptoRow, standIns := [], harness := (true, "ee661f544bd59827acec672b04e0fd5d097be4207fdc9da0d42e091ecf88bd4c"), looks := true }, kinds := [], alts := [], laidByText := true, laidKinds := [.data, .data, .data, .sentinel, .sentinel], laidTests := true, laidLooks := .later }
def FnGjStringTextUptoCardSaid : Prop := Claim7.holds Tryd.pinned (.plain (OpenSpec.upto fnGjStringTextSpec)) fnGjStringTextUptoCard

/-- THE SECOND FORM's CARD OF 'laws.FnFjLoose'. -/
def fnFjLooseUptoCard : Claim7 := { stood := { row := fnFjLooseUptoRow, standIns := [], harness := (true, "ee661f544bd59827acec672b04e0fd5d097be4207fdc9da0d42e091ecf88bd4c"), looks := true }, kinds := [], alts := [], laidByText := true, laidKinds := [.data, .pinned, .pinned, .pinned, .pinned, .pinned, .pinned], laidTests := true, laidLooks := .later }
def FnFjLooseUptoCardSaid : Prop := Claim7.holds Tryd.pinned (.plain (OpenSpec.upto fnFjLooseSpec)) fnFjLooseUptoCard

/-- THE SECOND FORM's CARD OF 'laws.FnFjCheckArray'. -/
def fnFjCheckArrayUptoCard : Claim7 := { stood := { row := fnFjCheckArrayUptoRow, standIns := [], harness := (true, "ee661f544bd59827acec672b04e0fd5d097be4207fdc9da0d42e091ecf88bd4c"), looks := true }, kinds := [], alts := [], laidByText := true, laidKinds := [.data, .data, .data, .sentinel, .sentinel], laidTests := true, laidLooks := .later }
def FnFjCheckArrayUptoCardSaid : Prop := Claim7.holds Tryd.pinned (.plain (OpenSpec.upto fnFjCheckArraySpec)) fnFjCheckArrayUptoCard

/-- THE SECOND FORM's CARD OF 'laws.FnFjValid'. -/
def fnFjValidUptoCard : Claim7 := { stood := { row := fnFjValidUptoRow, standIns := [], harness := (true, "ee661f544bd59827acec672b04e0fd5d097be4207fdc9da0d42e091ecf88bd4c"), looks := true }, kinds := [], alts := [], laidByText := true, laidKinds := [.data, .data, .data, .sentinel, .sentinel], laidTests := true, laidLooks := .later }
def FnFjValidUptoCardSaid : Prop := Claim7.holds Tryd.pinned (.plain (OpenSpec.upto fnFjValidSpec)) fnFjValidUptoCard
end Rows
end Go.Proofs.YtlokkefnbffjnaaDoor
