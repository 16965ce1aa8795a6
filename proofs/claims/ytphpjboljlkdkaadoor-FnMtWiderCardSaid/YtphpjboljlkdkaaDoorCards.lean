/-
  DERIVED. GIVEN WITH THE SEED: THE CARDS: each row of YtphpjboljlkdkaaDoorRows.lean that lists a variable, with what it lists TIED to the program's text (the seventh form; the later family's looks); each row that meets fmt, with fmt's text TOLD by the authors' own Lean function (tested against real Go, not proved from fmt's source: count such statements apart). THE CARD IS WHAT COUNTS. Prove the row's statement (the work); the ties are given (YtphpjboljlkdkaaDoorTie.lean); close each card by the builder's one call (the guide's Derived/Test/ToyasCard.lean, 'card_holds'). Laid BY PROGRAM, IN A SANDBOX (cutbox-door.mjs). By AI agents, Wed Nov 11 2026. No macro, syntax, notation, axiom, sorry.
-/
import Derived.Test.YtphpjboljlkdkaaDoorRows
import GoSem.ClaimSeven
namespace Go.Proofs.YtphpjboljlkdkaaDoor
namespace Rows

/-- THE TIED CARD OF 'laws.FnMtStars'. -/
def fnMtStarsCard : Claim7 := { stood := { row := fnMtStarsRow, standIns := [], harness := (true, "01f743a6910bc16453fecadd5a4a71154e855b84cc5a3cc8f807d8baec9cf478"), looks := true }, kinds := [], alts := [], laidByText := true, laidKinds := [.data, .pinned], laidTests := true, laidLooks := .later }
def FnMtStarsCardSaid : Prop := Claim7.holds Tryd.pinned (.plain (OpenSpec.ofChange fnMtStarsSpec)) fnMtStarsCard

/-- THE TIED CARD OF 'laws.FnMtWider'. -/
def fnMtWiderCard : Claim7 := { stood := { row := fnMtWiderRow, standIns := [], harness := (true, "01f743a6910bc16453fecadd5a4a71154e855b84cc5a3cc8f807d8baec9cf478"), looks := true }, kinds := [], alts := [], laidByText := true, laidKinds := [.data, .pinned], laidTests := true, laidLooks := .later }
def FnMtWiderCardSaid : Prop := Claim7.holds Tryd.pinned (.plain (OpenSpec.ofChange fnMtWiderSpec)) fnMtWiderCard

/-- THE TIED CARD OF 'laws.FnGjTrueish'. -/
def fnGjTrueishCard : Claim7 := { stood := { row := fnGjTrueishRow, standIns := [], harness := (true, "01f743a6910bc16453fecadd5a4a71154e855b84cc5a3cc8f807d8baec9cf478"), looks := true }, kinds := [], alts := [], laidByText := true, laidKinds := [.data, .data, .data, .sentinel, .sentinel], laidTests := true, laidLooks := .later }
def FnGjTrueishCardSaid : Prop := Claim7.holds Tryd.pinned (.plain (OpenSpec.ofChange fnGjTrueishSpec)) fnGjTrueishCard

/-- THE TIED CARD OF 'laws.FnGjResultIntText'. -/
def fnGjResultIntTextCard : Claim7 := { stood := { row := fnGjResultIntTextRow, standIns := [], harness := (true, "01f743a6910bc16453fecadd5a4a71154e855b84cc5a3cc8f807d8baec9cf478"), looks := true }, kinds := [], alts := [], laidByText := true, laidKinds := [.data, .data, .widerDeep, .widerDeep, .data, .data, .data, .data, .data, .sentinel, .sentinel, .pinned, .pinned], laidTests := true, laidLooks := .later }
def FnGjResultIntTextCardSaid : Prop := Claim7.holds Tryd.pinned (.plain (OpenSpec.ofChange fnGjResultIntTextSpec)) fnGjResultIntTextCard

/-- THE TIED CARD OF 'laws.FnPrLessNames'. -/
def fnPrLessNamesCard : Claim7 := { stood := { row := fnPrLessNamesRow, standIns := [], harness := (true, "01f743a6910bc16453fecadd5a4a71154e855b84cc5a3cc8f807d8baec9cf478"), looks := true }, kinds := [], alts := [], laidByText := true, laidKinds := [.data, .data, .widerDeep, .widerDeep, .data, .data, .data, .data, .data, .data, .sentinel, .sentinel, .pinned, .pinned, .pinned], laidTests := true, laidLooks := .later }
def FnPrLessNamesCardSaid : Prop := Claim7.holds Tryd.pinned (.plain (OpenSpec.ofChange fnPrLessNamesSpec)) fnPrLessNamesCard

/-- THE TIED CARD OF 'laws.FnGjLessNumbers'. -/
def fnGjLessNumbersCard : Claim7 := { stood := { row := fnGjLessNumbersRow, standIns := [], harness := (true, "01f743a6910bc16453fecadd5a4a71154e855b84cc5a3cc8f807d8baec9cf478"), looks := true }, kinds := [], alts := [], laidByText := true, laidKinds := [.data, .data, .widerDeep, .widerDeep, .data, .data, .data, .data, .data, .sentinel, .sentinel, .pinned, .pinned], laidTests := true, laidLooks := .later }
def FnGjLessNumbersCardSaid : Prop := Claim7.holds Tryd.pinned (.plain (OpenSpec.ofChange fnGjLessNumbersSpec)) fnGjLessNumbersCard

/-- THE TIED CARD OF 'laws.FnGjUint'. -/
def fnGjUintCard : Claim7 := { stood := { row := fnGjUintRow, standIns := [], harness := (true, "01f743a6910bc16453fecadd5a4a71154e855b84cc5a3cc8f807d8baec9cf478"), looks := true }, kinds := [], alts := [], laidByText := true, laidKinds := [.data, .data, .widerDeep, .widerDeep, .data, .data, .data, .data, .data, .sentinel, .sentinel, .pinned, .pinned], laidTests := true, laidLooks := .later }
def FnGjUintCardSaid : Prop := Claim7.holds Tryd.pinned (.plain (OpenSpec.ofChange fnGjUintSpec)) fnGjUintCard

/-- THE TIED CARD OF 'laws.FnFfFloatOther'. -/
def fnFfFloatOtherCard : Claim7 := { stood := { row := fnFfFloatOtherRow, standIns := [], harness := (true, "01f743a6910bc16453fecadd5a4a71154e855b84cc5a3cc8f807d8baec9cf478"), looks := true }, kinds := [], alts := [], laidByText := true, laidKinds := [.data, .data, .widerDeep, .widerDeep, .data, .data, .data, .data, .data, .data, .data, .data, .sentinel, .sentinel, .data, .pinned, .pinned], laidTests := true, laidLooks := .later }
def FnFfFloatOtherCardSaid : Prop := Claim7.holds Tryd.pinned (.plain (OpenSpec.ofChange fnFfFloatOtherSpec)) fnFfFloatOtherCard

/-- THE SECOND FORM's CARD OF 'laws.FnMtStars'. -/
def fnMtStarsUptoCard : Claim7 := { stood := { row := fnMtStarsUptoRow, standIns := [], harness := (true, "01f743a6910bc16453fecadd5a4a71154e855b84cc5a3cc8f807d8baec9cf478"), looks := true }, kinds := [], alts := [], laidByText := true, laidKinds := [.data, .pinned], laidTests := true, laidLooks := .later }
def FnMtStarsUptoCardSaid : Prop := Claim7.holds Tryd.pinned (.plain (OpenSpec.upto fnMtStarsSpec)) fnMtStarsUptoCard

/-- THE SECOND FORM's CARD OF 'laws.FnMtWider'. -/
def fnMtWiderUptoCard : Claim7 := { stood := { row := fnMtWiderUptoRow, standIns := [], harness := (true, "01f743a6910bc16453fecadd5a4a71154e855b84cc5a3cc8f807d8baec9cf478"), looks := true }, kinds := [], alts := [], laidByText := true, laidKinds := [.data, .pinned], laidTests := true, laidLooks := .later }
def FnMtWiderUptoCardSaid : Prop := Claim7.holds Tryd.pinned (.plain (OpenSpec.upto fnMtWiderSpec)) fnMtWiderUptoCard

/-- THE SECOND FORM's CARD OF 'laws.FnGjTrueish'. -/
def fnGjTrueishUptoCard : Claim7 := { stood := { row := fnGjTrueishUptoRow, standIns := [], harness := (true, "01f743a6910bc16453fecadd5a4a71154e855b84cc5a3cc8f807d8baec9cf478"), looks := true }, kinds := [], alts := [], laidByText := true, laidKinds := [.data, .data, .data, .sentinel, .sentinel], laidTests := true, laidLooks := .later }
def FnGjTrueishUptoCardSaid : Prop := Claim7.holds Tryd.pinned (.plain (OpenSpec.upto fnGjTrueishSpec)) fnGjTrueishUptoCard

/-- THE SECOND FORM's CARD OF 'laws.FnGjResultIntText'. -/
def fnGjResultIntTextUptoCard : Claim7 := { stood := { row := fnGjResultIntTextUptoRow, standIns := [], harness := (true, "01f743a6910bc16453fecadd5a4a71154e855b84cc5a3cc8f807d8baec9cf478"), looks := true }, kinds := [], alts := [], laidByText := true, laidKinds := [.data, .data, .widerDeep, .widerDeep, .data, .data, .data, .data, .data, .sentinel, .sentinel, .pinned, .pinned], laidTests := true, laidLooks := .later }
def FnGjResultIntTextUptoCardSaid : Prop := Claim7.holds Tryd.pinned (.plain (OpenSpec.upto fnGjResultIntTextSpec)) fnGjResultIntTextUptoCard

/-- THE SECOND FORM's CARD OF 'laws.FnPrLessNames'. -/
def fnPrLessNamesUptoCard : Claim7 := { stood := { row := fnPrLessNamesUptoRow, standIns := [], harness := (true, "01f743a6910bc16453fecadd5a4a71154e855b84cc5a3cc8f807d8baec9cf478"), looks := true }, kinds := [], alts := [], laidByText := true, laidKinds := [.data, .data, .widerDeep, .widerDeep, .data, .data, .data, .data, .data, .data, .sentinel, .sentinel, .pinned, .pinned, .pinned], laidTests := true, laidLooks := .later }
def FnPrLessNamesUptoCardSaid : Prop := Claim7.holds Tryd.pinned (.plain (OpenSpec.upto fnPrLessNamesSpec)) fnPrLessNamesUptoCard

/-- THE SECOND FORM's CARD OF 'laws.FnGjLessNumbers'. -/
def fnGjLessNumbersUptoCard : Claim7 := { stood := { row := fnGjLessNumbersUptoRow, standIns := [], harness := (true, "01f743a6910bc16453fecadd5a4a71154e855b84cc5a3cc8f807d8baec9cf478"), looks := true }, kinds := [], alts := [], laidByText := true, laidKinds := [.data, .data, .widerDeep, .widerDeep, .data, .data, .data, .data, .data, .sentinel, .sentinel, .pinned, .pinned], laidTests := true, laidLooks := .later }
def FnGjLessNumbersUptoCardSaid : Prop := Claim7.holds Tryd.pinned (.plain (OpenSpec.upto fnGjLessNumbersSpec)) fnGjLessNumbersUptoCard

/-- THE SECOND FORM's CARD OF 'laws.FnGjUint'. -/
def fnGjUintUptoCard : Claim7 := { stood := { row := fnGjUintUptoRow, standIns := [], harness := (true, "01f743a6910bc16453fecadd5a4a71154e855b84cc5a3cc8f807d8baec9cf478"), looks := true }, kinds := [], alts := [], laidByText := true, laidKinds := [.data, .data, .widerDeep, .widerDeep, .data, .data, .data, .data, .data, .sentinel, .sentinel, .pinned, .pinned], laidTests := true, laidLooks := .later }
def FnGjUintUptoCardSaid : Prop := Claim7.holds Tryd.pinned (.plain (OpenSpec.upto fnGjUintSpec)) fnGjUintUptoCard

/-- THE SECOND FORM's CARD OF 'laws.FnFfFloatOther'. -/
def fnFfFloatOtherUptoCard : Claim7 := { stood := { row := fnFfFloatOtherUptoRow, standIns := [], harness := (true, "01f743a6910bc16453fecadd5a4a71154e855b84cc5a3cc8f807d8baec9cf478"), looks := true }, kinds := [], alts := [], laidByText := true, laidKinds := [.data, .data, .widerDeep, .widerDeep, .data, .data, .data, .data, .data, .data, .data, .data, .sentinel, .sentinel, .data, .pinned, .pinned], laidTests := true, laidLooks := .later }
def FnFfFloatOtherUptoCardSaid : Prop := Claim7.holds Tryd.pinned (.plain (OpenSpec.upto fnFfFloatOtherSpec)) fnFfFloatOtherUptoCard
end Rows
end Go.Proofs.YtphpjboljlkdkaaDoor
