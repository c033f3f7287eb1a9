/-
  DERIVED. GIVEN WITH THE SEED: THE CARDS: each row of YtjemobfhlfejlaaGreatDoorRows.lean that lists a variable, with what it lists TIED to the program's text (the seventh form; the later family's looks); each row that meets fmt, with fmt's text TOLD by the authors' own Lean function (tested against real Go, not proved from fmt's source: count such statements apart). THE CARD IS WHAT COUNTS. Prove the row's statement (the work); the ties are given (YtjemobfhlfejlaaGreatDoorTie.lean); close each card by the builder's one call (the guide's Derived/Test/ToyasCard.lean, 'card_holds'). Laid BY PROGRAM, IN A SANDBOX (cutbox-door.mjs). By AI agents, Wed Nov 11 2026. No macro, syntax, notation, axiom, sorry.
-/
import Derived.Test.YtjemobfhlfejlaaGreatDoorRows
import GoSem.ClaimSeven
namespace Go.Proofs.YtjemobfhlfejlaaGreatDoor
namespace Rows

/-- THE TIED CARD OF 'laws.FnFjFloatNear'. -/
def fnFjFloatNearCard : Claim7 := { stood := { row := fnFjFloatNearRow, standIns := [], harness := (true, "8ec3049e533f4e768d321ab52e435b5e691532e0089a518e26fdfe2038af7ba9"), looks := true }, kinds := [], alts := [], laidByText := true, laidKinds := [.data, .data, .widerDeep, .widerDeep, .data, .data, .data, .data, .data, .data, .data, .data, .sentinel, .sentinel, .data, .pinned, .pinned], laidTests := true, laidLooks := .later }
def FnFjFloatNearCardSaid : Prop := Claim7.holds Tryz.pinned (.plain (OpenSpec.ofChange fnFjFloatNearSpec)) fnFjFloatNearCard

/-- THE SECOND FORM's CARD OF 'laws.FnFjFloatNear'. -/
def fnFjFloatNearUptoCard : Claim7 := { stood := { row := fnFjFloatNearUptoRow, standIns := [], harness := (true, "8ec3049e533f4e768d321ab52e435b5e691532e0089a518e26fdfe2038af7ba9"), looks := true }, kinds := [], alts := [], laidByText := true, laidKinds := [.data, .data, .widerDeep, .widerDeep, .data, .data, .data, .data, .data, .data, .data, .data, .sentinel, .sentinel, .data, .pinned, .pinned], laidTests := true, laidLooks := .later }
def FnFjFloatNearUptoCardSaid : Prop := Claim7.holds Tryz.pinned (.plain (OpenSpec.upto fnFjFloatNearSpec)) fnFjFloatNearUptoCard
end Rows
end Go.Proofs.YtjemobfhlfejlaaGreatDoor
