/-
  DERIVED. GIVEN WITH THE SEED: THE CARDS: each row of YtkkedekgniffoaaDoorRows.lean that lists a variable, with what it lists TIED to the program's text (the seventh form; the later family's looks); each row that meets fmt, with fmt's text TOLD by the authors' own Lean function (tested against real Go, not proved from fmt's source: count such statements apart). THE CARD IS WHAT COUNTS. Prove the row's statement (the work); the ties are given (YtkkedekgniffoaaDoorTie.lean); close each card by the builder's one call (the guide's Derived/Test/ToyasCard.lean, 'card_holds'). Laid BY PROGRAM, IN A SANDBOX (cutbox-door.mjs). By AI agents, Wed Nov 11 2026. No macro, syntax, notation, axiom, sorry.
-/
import Derived.Test.YtkkedekgniffoaaDoorRows
import GoSem.ClaimSeven
namespace Go.Proofs.YtkkedekgniffoaaDoor
namespace Rows

/-- THE TIED CARD OF 'laws.FnFramesMasks'. -/
def fnFramesMasksCard : Claim7 := { stood := { row := fnFramesMasksRow, standIns := [], harness := (true, "729dec59b846bfa4c18daf3fbf86963e273ceaefabf48c4f62f97f86a5352e5e"), looks := false }, kinds := [], alts := [], laidByText := true, laidKinds := [.data, .sentinel, .pinned], laidTests := true, laidLooks := .later }
def FnFramesMasksCardSaid : Prop := Claim7.holds Tryd.pinned (.plain (OpenSpec.ofChange fnFramesMasksSpec)) fnFramesMasksCard

/-- THE TIED CARD OF 'laws.FnFramesMore'. -/
def fnFramesMoreCard : Claim7 := { stood := { row := fnFramesMoreRow, standIns := [], harness := (true, "729dec59b846bfa4c18daf3fbf86963e273ceaefabf48c4f62f97f86a5352e5e"), looks := false }, kinds := [], alts := [], laidByText := true, laidKinds := [.data, .sentinel, .pinned], laidTests := true, laidLooks := .later }
def FnFramesMoreCardSaid : Prop := Claim7.holds Tryd.pinned (.plain (OpenSpec.ofChange fnFramesMoreSpec)) fnFramesMoreCard

/-- THE TIED CARD OF 'laws.FnFramesRefused'. -/
def fnFramesRefusedCard : Claim7 := { stood := { row := fnFramesRefusedRow, standIns := [], harness := (true, "729dec59b846bfa4c18daf3fbf86963e273ceaefabf48c4f62f97f86a5352e5e"), looks := false }, kinds := [], alts := [], laidByText := true, laidKinds := [.data, .sentinel, .pinned], laidTests := true, laidLooks := .later }
def FnFramesRefusedCardSaid : Prop := Claim7.holds Tryd.pinned (.plain (OpenSpec.ofChange fnFramesRefusedSpec)) fnFramesRefusedCard

/-- THE SECOND FORM's CARD OF 'laws.FnFramesMasks'. -/
def fnFramesMasksUptoCard : Claim7 := { stood := { row := fnFramesMasksUptoRow, standIns := [], harness := (true, "729dec59b846bfa4c18daf3fbf86963e273ceaefabf48c4f62f97f86a5352e5e"), looks := false }, kinds := [], alts := [], laidByText := true, laidKinds := [.data, .sentinel, .pinned], laidTests := true, laidLooks := .later }
def FnFramesMasksUptoCardSaid : Prop := Claim7.holds Tryd.pinned (.plain (OpenSpec.upto fnFramesMasksSpec)) fnFramesMasksUptoCard

/-- THE SECOND FORM's CARD OF 'laws.FnFramesMore'. -/
def fnFramesMoreUptoCard : Claim7 := { stood := { row := fnFramesMoreUptoRow, standIns := [], harness := (true, "729dec59b846bfa4c18daf3fbf86963e273ceaefabf48c4f62f97f86a5352e5e"), looks := false }, kinds := [], alts := [], laidByText := true, laidKinds := [.data, .sentinel, .pinned], laidTests := true, laidLooks := .later }
def FnFramesMoreUptoCardSaid : Prop := Claim7.holds Tryd.pinned (.plain (OpenSpec.upto fnFramesMoreSpec)) fnFramesMoreUptoCard

/-- THE SECOND FORM's CARD OF 'laws.FnFramesRefused'. -/
def fnFramesRefusedUptoCard : Claim7 := { stood := { row := fnFramesRefusedUptoRow, standIns := [], harness := (true, "729dec59b846bfa4c18daf3fbf86963e273ceaefabf48c4f62f97f86a5352e5e"), looks := false }, kinds := [], alts := [], laidByText := true, laidKinds := [.data, .sentinel, .pinned], laidTests := true, laidLooks := .later }
def FnFramesRefusedUptoCardSaid : Prop := Claim7.holds Tryd.pinned (.plain (OpenSpec.upto fnFramesRefusedSpec)) fnFramesRefusedUptoCard
end Rows
end Go.Proofs.YtkkedekgniffoaaDoor
