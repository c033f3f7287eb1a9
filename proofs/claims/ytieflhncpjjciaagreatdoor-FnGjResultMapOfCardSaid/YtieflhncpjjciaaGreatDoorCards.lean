/-
  DERIVED. GIVEN WITH THE SEED: THE CARDS: each row of YtieflhncpjjciaaGreatDoorRows.lean that lists a variable, with what it lists TIED to the program's text (the seventh form; the later family's looks); each row that meets fmt, with fmt's text TOLD by the authors' own Lean function (tested against real Go, not proved from fmt's source: count such statements apart). THE CARD IS WHAT COUNTS. Prove the row's statement (the work); the ties are given (YtieflhncpjjciaaGreatDoorTie.lean); close each card by the builder's one call (the guide's Derived/Test/ToyasCard.lean, 'card_holds'). Laid BY PROGRAM, IN A SANDBOX (cutbox-door.mjs). By AI agents, Wed Nov 11 2026. No macro, syntax, notation, axiom, sorry.
-/
import Derived.Test.YtieflhncpjjciaaGreatDoorRows
import GoSem.ClaimSeven
namespace Go.Proofs.YtieflhncpjjciaaGreatDoor
namespace Rows

/-- THE TIED CARD OF 'laws.FnGjLines'. -/
def fnGjLinesCard : Claim7 := { stood := { row := fnGjLinesRow, standIns := [], harness := (true, "b1dcc411c499c5894b71696f58e9455ba2b5aa11ffa77ebcc77e305c263be0e2"), looks := true }, kinds := [], alts := [], laidByText := true, laidKinds := [.data, .data, .widerDeep, .widerDeep, .data, .data, .data, .data, .data, .sentinel, .sentinel, .data, .pinned, .pinned], laidTests := true, laidLooks := .later }
def FnGjLinesCardSaid : Prop := Claim7.holds Tryz.pinned (.plain (OpenSpec.ofChange fnGjLinesSpec)) fnGjLinesCard

/-- THE TIED CARD OF 'laws.FnPrItems'. -/
def fnPrItemsCard : Claim7 := { stood := { row := fnPrItemsRow, standIns := [], harness := (true, "b1dcc411c499c5894b71696f58e9455ba2b5aa11ffa77ebcc77e305c263be0e2"), looks := true }, kinds := [], alts := [], laidByText := true, laidKinds := [.data, .data, .widerDeep, .widerDeep, .data, .data, .data, .data, .data, .sentinel, .sentinel, .data, .pinned, .pinned], laidTests := true, laidLooks := .later }
def FnPrItemsCardSaid : Prop := Claim7.holds Tryz.pinned (.plain (OpenSpec.ofChange fnPrItemsSpec)) fnPrItemsCard

/-- THE TIED CARD OF 'laws.FnGjSquashItems'. -/
def fnGjSquashItemsCard : Claim7 := { stood := { row := fnGjSquashItemsRow, standIns := [], harness := (true, "b1dcc411c499c5894b71696f58e9455ba2b5aa11ffa77ebcc77e305c263be0e2"), looks := true }, kinds := [], alts := [], laidByText := true, laidKinds := [.data, .data, .widerDeep, .widerDeep, .data, .data, .data, .data, .data, .sentinel, .sentinel, .data, .pinned, .pinned], laidTests := true, laidLooks := .later }
def FnGjSquashItemsCardSaid : Prop := Claim7.holds Tryz.pinned (.plain (OpenSpec.ofChange fnGjSquashItemsSpec)) fnGjSquashItemsCard

/-- THE TIED CARD OF 'laws.FnGjResultMapOf'. -/
def fnGjResultMapOfCard : Claim7 := { stood := { row := fnGjResultMapOfRow, standIns := [], harness := (true, "b1dcc411c499c5894b71696f58e9455ba2b5aa11ffa77ebcc77e305c263be0e2"), looks := true }, kinds := [], alts := [], laidByText := true, laidKinds := [.data, .data, .widerDeep, .widerDeep, .data, .data, .data, .data, .data, .sentinel, .sentinel, .pinned, .pinned], laidTests := true, laidLooks := .later }
def FnGjResultMapOfCardSaid : Prop := Claim7.holds Tryz.pinned (.plain (OpenSpec.ofChange fnGjResultMapOfSpec)) fnGjResultMapOfCard

/-- THE TIED CARD OF 'laws.FnGjKeysSeq'. -/
def fnGjKeysSeqCard : Claim7 := { stood := { row := fnGjKeysSeqRow, standIns := [], harness := (true, "b1dcc411c499c5894b71696f58e9455ba2b5aa11ffa77ebcc77e305c263be0e2"), looks := true }, kinds := [], alts := [], laidByText := true, laidKinds := [.data, .data, .widerDeep, .widerDeep, .data, .data, .data, .data, .data, .sentinel, .sentinel, .data, .pinned, .pinned], laidTests := true, laidLooks := .later }
def FnGjKeysSeqCardSaid : Prop := Claim7.holds Tryz.pinned (.plain (OpenSpec.ofChange fnGjKeysSeqSpec)) fnGjKeysSeqCard

/-- THE SECOND FORM's CARD OF 'laws.FnGjLines'. -/
def fnGjLinesUptoCard : Claim7 := { stood := { row := fnGjLinesUptoRow, standIns := [], harness := (true, "b1dcc411c499c5894b71696f58e9455ba2b5aa11ffa77ebcc77e305c263be0e2"), looks := true }, kinds := [], alts := [], laidByText := true, laidKinds := [.data, .data, .widerDeep, .widerDeep, .data, .data, .data, .data, .data, .sentinel, .sentinel, .data, .pinned, .pinned], laidTests := true, laidLooks := .later }
def FnGjLinesUptoCardSaid : Prop := Claim7.holds Tryz.pinned (.plain (OpenSpec.upto fnGjLinesSpec)) fnGjLinesUptoCard

/-- THE SECOND FORM's CARD OF 'laws.FnPrItems'. -/
def fnPrItemsUptoCard : Claim7 := { stood := { row := fnPrItemsUptoRow, standIns := [], harness := (true, "b1dcc411c499c5894b71696f58e9455ba2b5aa11ffa77ebcc77e305c263be0e2"), looks := true }, kinds := [], alts := [], laidByText := true, laidKinds := [.data, .data, .widerDeep, .widerDeep, .data, .data, .data, .data, .data, .sentinel, .sentinel, .data, .pinned, .pinned], laidTests := true, laidLooks := .later }
def FnPrItemsUptoCardSaid : Prop := Claim7.holds Tryz.pinned (.plain (OpenSpec.upto fnPrItemsSpec)) fnPrItemsUptoCard

/-- THE SECOND FORM's CARD OF 'laws.FnGjSquashItems'. -/
def fnGjSquashItemsUptoCard : Claim7 := { stood := { row := fnGjSquashItemsUptoRow, standIns := [], harness := (true, "b1dcc411c499c5894b71696f58e9455ba2b5aa11ffa77ebcc77e305c263be0e2"), looks := true }, kinds := [], alts := [], laidByText := true, laidKinds := [.data, .data, .widerDeep, .widerDeep, .data, .data, .data, .data, .data, .sentinel, .sentinel, .data, .pinned, .pinned], laidTests := true, laidLooks := .later }
def FnGjSquashItemsUptoCardSaid : Prop := Claim7.holds Tryz.pinned (.plain (OpenSpec.upto fnGjSquashItemsSpec)) fnGjSquashItemsUptoCard

/-- THE SECOND FORM's CARD OF 'laws.FnGjResultMapOf'. -/
def fnGjResultMapOfUptoCard : Claim7 := { stood := { row := fnGjResultMapOfUptoRow, standIns := [], harness := (true, "b1dcc411c499c5894b71696f58e9455ba2b5aa11ffa77ebcc77e305c263be0e2"), looks := true }, kinds := [], alts := [], laidByText := true, laidKinds := [.data, .data, .widerDeep, .widerDeep, .data, .data, .data, .data, .data, .sentinel, .sentinel, .pinned, .pinned], laidTests := true, laidLooks := .later }
def FnGjResultMapOfUptoCardSaid : Prop := Claim7.holds Tryz.pinned (.plain (OpenSpec.upto fnGjResultMapOfSpec)) fnGjResultMapOfUptoCard

/-- THE SECOND FORM's CARD OF 'laws.FnGjKeysSeq'. -/
def fnGjKeysSeqUptoCard : Claim7 := { stood := { row := fnGjKeysSeqUptoRow, standIns := [], harness := (true, "b1dcc411c499c5894b71696f58e9455ba2b5aa11ffa77ebcc77e305c263be0e2"), looks := true }, kinds := [], alts := [], laidByText := true, laidKinds := [.data, .data, .widerDeep, .widerDeep, .data, .data, .data, .data, .data, .sentinel, .sentinel, .data, .pinned, .pinned], laidTests := true, laidLooks := .later }
def FnGjKeysSeqUptoCardSaid : Prop := Claim7.holds Tryz.pinned (.plain (OpenSpec.upto fnGjKeysSeqSpec)) fnGjKeysSeqUptoCard
end Rows
end Go.Proofs.YtieflhncpjjciaaGreatDoor
