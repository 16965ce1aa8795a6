/-
  DERIVED. GIVEN WITH THE SEED: THE CARDS: each row of YtgbliniamkpocaaDoorRows.lean that lists a variable, with what it lists TIED to the program's text (the seventh form; the later family's looks); each row that meets fmt, with fmt's text TOLD by the authors' own Lean function (tested against real Go, not proved from fmt's source: count such statements apart). THE CARD IS WHAT COUNTS. Prove the row's statement (the work); the ties are given (YtgbliniamkpocaaDoorTie.lean); close each card by the builder's one call (the guide's Derived/Test/ToyasCard.lean, 'card_holds'). Laid BY PROGRAM, IN A SANDBOX (cutbox-door.mjs). By AI agents, Wed Nov 11 2026. No macro, syntax, notation, axiom, sorry.
-/
import Derived.Test.YtgbliniamkpocaaDoorRows
import GoSem.ClaimSeven
namespace Go.Proofs.YtgbliniamkpocaaDoor
namespace Rows

/-- THE TIED CARD OF 'laws.FnJpUnescapeRoom'. -/
def fnJpUnescapeRoomCard : Claim7 := { stood := { row := fnJpUnescapeRoomRow, standIns := [], harness := (true, "160f44d64e66052b19b028ad38ee80bbe6a2991b777d839a98894af91dad02f3"), looks := true }, kinds := [], alts := [], laidByText := true, laidKinds := [.data, .data, .sentinel], laidTests := true, laidLooks := .later }
def FnJpUnescapeRoomCardSaid : Prop := Claim7.holds Tryd.pinned (.plain (OpenSpec.ofChange fnJpUnescapeRoomSpec)) fnJpUnescapeRoomCard

/-- THE TIED CARD OF 'laws.FnJpSearchMisses'. -/
def fnJpSearchMissesCard : Claim7 := { stood := { row := fnJpSearchMissesRow, standIns := [], harness := (true, "160f44d64e66052b19b028ad38ee80bbe6a2991b777d839a98894af91dad02f3"), looks := true }, kinds := [], alts := [], laidByText := true, laidKinds := [.data, .data, .data, .sentinel, .sentinel, .data, .data, .sentinel, .sentinel, .sentinel, .sentinel, .sentinel, .sentinel, .sentinel], laidTests := true, laidLooks := .later }
def FnJpSearchMissesCardSaid : Prop := Claim7.holds Tryd.pinned (.plain (OpenSpec.ofChange fnJpSearchMissesSpec)) fnJpSearchMissesCard

/-- THE TIED CARD OF 'laws.FnJpCutWhole'. -/
def fnJpCutWholeCard : Claim7 := { stood := { row := fnJpCutWholeRow, standIns := [], harness := (true, "160f44d64e66052b19b028ad38ee80bbe6a2991b777d839a98894af91dad02f3"), looks := true }, kinds := [], alts := [], laidByText := true, laidKinds := [.data, .data, .data, .sentinel, .sentinel, .data, .data, .sentinel, .sentinel, .sentinel, .sentinel, .sentinel, .sentinel, .sentinel], laidTests := true, laidLooks := .later }
def FnJpCutWholeCardSaid : Prop := Claim7.holds Tryd.pinned (.plain (OpenSpec.ofChange fnJpCutWholeSpec)) fnJpCutWholeCard

/-- THE TIED CARD OF 'laws.FnJpGetFirst'. -/
def fnJpGetFirstCard : Claim7 := { stood := { row := fnJpGetFirstRow, standIns := [], harness := (true, "160f44d64e66052b19b028ad38ee80bbe6a2991b777d839a98894af91dad02f3"), looks := true }, kinds := [], alts := [], laidByText := true, laidKinds := [.data, .data, .data, .sentinel, .sentinel, .data, .data, .sentinel, .sentinel, .sentinel, .sentinel, .sentinel, .sentinel, .sentinel], laidTests := true, laidLooks := .later }
def FnJpGetFirstCardSaid : Prop := Claim7.holds Tryd.pinned (.plain (OpenSpec.ofChange fnJpGetFirstSpec)) fnJpGetFirstCard

/-- THE TIED CARD OF 'laws.FnJpGetNested'. -/
def fnJpGetNestedCard : Claim7 := { stood := { row := fnJpGetNestedRow, standIns := [], harness := (true, "160f44d64e66052b19b028ad38ee80bbe6a2991b777d839a98894af91dad02f3"), looks := true }, kinds := [], alts := [], laidByText := true, laidKinds := [.data, .data, .data, .sentinel, .sentinel, .data, .data, .sentinel, .sentinel, .sentinel, .sentinel, .sentinel, .sentinel, .sentinel], laidTests := true, laidLooks := .later }
def FnJpGetNestedCardSaid : Prop := Claim7.holds Tryd.pinned (.plain (OpenSpec.ofChange fnJpGetNestedSpec)) fnJpGetNestedCard

/-- THE TIED CARD OF 'laws.FnJpSetCommute'. -/
def fnJpSetCommuteCard : Claim7 := { stood := { row := fnJpSetCommuteRow, standIns := [], harness := (true, "160f44d64e66052b19b028ad38ee80bbe6a2991b777d839a98894af91dad02f3"), looks := true }, kinds := [], alts := [], laidByText := true, laidKinds := [.data, .data, .data, .sentinel, .sentinel, .data, .data, .sentinel, .sentinel, .sentinel, .sentinel, .sentinel, .sentinel, .sentinel], laidTests := true, laidLooks := .later }
def FnJpSetCommuteCardSaid : Prop := Claim7.holds Tryd.pinned (.plain (OpenSpec.ofChange fnJpSetCommuteSpec)) fnJpSetCommuteCard

/-- THE TIED CARD OF 'laws.FnJqAppendBytes'. -/
def fnJqAppendBytesCard : Claim7 := { stood := { row := fnJqAppendBytesRow, standIns := [], harness := (true, "160f44d64e66052b19b028ad38ee80bbe6a2991b777d839a98894af91dad02f3"), looks := true }, kinds := [], alts := [], laidByText := true, laidKinds := [.data, .data, .data, .sentinel, .sentinel, .data, .data, .sentinel, .sentinel, .sentinel, .sentinel, .sentinel, .sentinel, .sentinel], laidTests := true, laidLooks := .later }
def FnJqAppendBytesCardSaid : Prop := Claim7.holds Tryd.pinned (.plain (OpenSpec.ofChange fnJqAppendBytesSpec)) fnJqAppendBytesCard

/-- THE SECOND FORM's CARD OF 'laws.FnJpUnescapeRoom'. -/
def fnJpUnescapeRoomUptoCard : Claim7 := { stood := { row := fnJpUnescapeRoomUptoRow, standIns := [], harness := (true, "160f44d64e66052b19b028ad38ee80bbe6a2991b777d839a98894af91dad02f3"), looks := true }, kinds := [], alts := [], laidByText := true, laidKinds := [.data, .data, .sentinel], laidTests := true, laidLooks := .later }
def FnJpUnescapeRoomUptoCardSaid : Prop := Claim7.holds Tryd.pinned (.plain (OpenSpec.upto fnJpUnescapeRoomSpec)) fnJpUnescapeRoomUptoCard

/-- THE SECOND FORM's CARD OF 'laws.FnJpSearchMisses'. -/
def fnJpSearchMissesUptoCard : Claim7 := { stood := { row := fnJpSearchMissesUptoRow, standIns := [], harness := (true, "160f44d64e66052b19b028ad38ee80bbe6a2991b777d839a98894af91dad02f3"), looks := true }, kinds := [], alts := [], laidByText := true, laidKinds := [.data, .data, .data, .sentinel, .sentinel, .data, .data, .sentinel, .sentinel, .sentinel, .sentinel, .sentinel, .sentinel, .sentinel], laidTests := true, laidLooks := .later }
def FnJpSearchMissesUptoCardSaid : Prop := Claim7.holds Tryd.pinned (.plain (OpenSpec.upto fnJpSearchMissesSpec)) fnJpSearchMissesUptoCard

/-- THE SECOND FORM's CARD OF 'laws.FnJpCutWhole'. -/
def fnJpCutWholeUptoCard : Claim7 := { stood := { row := fnJpCutWholeUptoRow, standIns := [], harness := (true, "160f44d64e66052b19b028ad38ee80bbe6a2991b777d839a98894af91dad02f3"), looks := true }, kinds := [], alts := [], laidByText := true, laidKinds := [.data, .data, .data, .sentinel, .sentinel, .data, .data, .sentinel, .sentinel, .sentinel, .sentinel, .sentinel, .sentinel, .sentinel], laidTests := true, laidLooks := .later }
def FnJpCutWholeUptoCardSaid : Prop := Claim7.holds Tryd.pinned (.plain (OpenSpec.upto fnJpCutWholeSpec)) fnJpCutWholeUptoCard

/-- THE SECOND FORM's CARD OF 'laws.FnJpGetFirst'. -/
def fnJpGetFirstUptoCard : Claim7 := { stood := { row := fnJpGetFirstUptoRow, standIns := [], harness := (true, "160f44d64e66052b19b028ad38ee80bbe6a2991b777d839a98894af91dad02f3"), looks := true }, kinds := [], alts := [], laidByText := true, laidKinds := [.data, .data, .data, .sentinel, .sentinel, .data, .data, .sentinel, .sentinel, .sentinel, .sentinel, .sentinel, .sentinel, .sentinel], laidTests := true, laidLooks := .later }
def FnJpGetFirstUptoCardSaid : Prop := Claim7.holds Tryd.pinned (.plain (OpenSpec.upto fnJpGetFirstSpec)) fnJpGetFirstUptoCard

/-- THE SECOND FORM's CARD OF 'laws.FnJpGetNested'. -/
def fnJpGetNestedUptoCard : Claim7 := { stood := { row := fnJpGetNestedUptoRow, standIns := [], harness := (true, "160f44d64e66052b19b028ad38ee80bbe6a2991b777d839a98894af91dad02f3"), looks := true }, kinds := [], alts := [], laidByText := true, laidKinds := [.data, .data, .data, .sentinel, .sentinel, .data, .data, .sentinel, .sentinel, .sentinel, .sentinel, .sentinel, .sentinel, .sentinel], laidTests := true, laidLooks := .later }
def FnJpGetNestedUptoCardSaid : Prop := Claim7.holds Tryd.pinned (.plain (OpenSpec.upto fnJpGetNestedSpec)) fnJpGetNestedUptoCard

/-- THE SECOND FORM's CARD OF 'laws.FnJpSetCommute'. -/
def fnJpSetCommuteUptoCard : Claim7 := { stood := { row := fnJpSetCommuteUptoRow, standIns := [], harness := (true, "160f44d64e66052b19b028ad38ee80bbe6a2991b777d839a98894af91dad02f3"), looks := true }, kinds := [], alts := [], laidByText := true, laidKinds := [.data, .data, .data, .sentinel, .sentinel, .data, .data, .sentinel, .sentinel, .sentinel, .sentinel, .sentinel, .sentinel, .sentinel], laidTests := true, laidLooks := .later }
def FnJpSetCommuteUptoCardSaid : Prop := Claim7.holds Tryd.pinned (.plain (OpenSpec.upto fnJpSetCommuteSpec)) fnJpSetCommuteUptoCard

/-- THE SECOND FORM's CARD OF 'laws.FnJqAppendBytes'. -/
def fnJqAppendBytesUptoCard : Claim7 := { stood := { row := fnJqAppendBytesUptoRow, standIns := [], harness := (true, "160f44d64e66052b19b028ad38ee80bbe6a2991b777d839a98894af91dad02f3"), looks := true }, kinds := [], alts := [], laidByText := true, laidKinds := [.data, .data, .data, .sentinel, .sentinel, .data, .data, .sentinel, .sentinel, .sentinel, .sentinel, .sentinel, .sentinel, .sentinel], laidTests := true, laidLooks := .later }
def FnJqAppendBytesUptoCardSaid : Prop := Claim7.holds Tryd.pinned (.plain (OpenSpec.upto fnJqAppendBytesSpec)) fnJqAppendBytesUptoCard
end Rows
end Go.Proofs.YtgbliniamkpocaaDoor
