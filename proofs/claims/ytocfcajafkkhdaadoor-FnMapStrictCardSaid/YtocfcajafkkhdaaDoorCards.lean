/-
  DERIVED. GIVEN WITH THE SEED: THE CARDS: each row of YtocfcajafkkhdaaDoorRows.lean that lists a variable, with what it lists TIED to the program's text (the seventh form; the later family's looks); each row that meets fmt, with fmt's text TOLD by the authors' own Lean function (tested against real Go, not proved from fmt's source: count such statements apart). THE CARD IS WHAT COUNTS. Prove the row's statement (the work); the ties are given (YtocfcajafkkhdaaDoorTie.lean); close each card by the builder's one call (the guide's Derived/Test/ToyasCard.lean, 'card_holds'). Laid BY PROGRAM, IN A SANDBOX (cutbox-door.mjs). By AI agents, Wed Nov 11 2026. No macro, syntax, notation, axiom, sorry.
-/
import Derived.Test.YtocfcajafkkhdaaDoorRows
import GoSem.ClaimSeven
namespace Go.Proofs.YtocfcajafkkhdaaDoor
namespace Rows

/-- THE TIED CARD OF 'laws.FnMap'. -/
def fnMapCard : Claim7 := { stood := { row := fnMapRow, standIns := [], harness := (true, "500e348922acbadb054cde697e1ca87caaeed1324221aa60055df8e694418da8"), looks := true }, kinds := [], alts := [], laidByText := true, laidKinds := [.sentinel, .sentinel, .sentinel, .sentinel, .sentinel, .sentinel, .sentinel, .sentinel, .sentinel, .sentinel], laidTests := true, laidLooks := .later }
def FnMapCardSaid : Prop := Claim7.holds Tryd.pinned (.plain (OpenSpec.ofChange fnMapSpec)) fnMapCard

/-- THE TIED CARD OF 'laws.FnMapRest'. -/
def fnMapRestCard : Claim7 := { stood := { row := fnMapRestRow, standIns := [], harness := (true, "500e348922acbadb054cde697e1ca87caaeed1324221aa60055df8e694418da8"), looks := true }, kinds := [], alts := [], laidByText := true, laidKinds := [.sentinel, .sentinel, .sentinel, .sentinel, .sentinel, .sentinel, .sentinel, .sentinel, .sentinel, .sentinel], laidTests := true, laidLooks := .later }
def FnMapRestCardSaid : Prop := Claim7.holds Tryd.pinned (.plain (OpenSpec.ofChange fnMapRestSpec)) fnMapRestCard

/-- THE TIED CARD OF 'laws.FnMapStrict'. -/
def fnMapStrictCard : Claim7 := { stood := { row := fnMapStrictRow, standIns := [], harness := (true, "500e348922acbadb054cde697e1ca87caaeed1324221aa60055df8e694418da8"), looks := true }, kinds := [], alts := [], laidByText := true, laidKinds := [.sentinel, .sentinel, .sentinel, .sentinel, .sentinel, .sentinel, .sentinel, .sentinel, .sentinel, .sentinel], laidTests := true, laidLooks := .later }
def FnMapStrictCardSaid : Prop := Claim7.holds Tryd.pinned (.plain (OpenSpec.ofChange fnMapStrictSpec)) fnMapStrictCard

/-- THE SECOND FORM's CARD OF 'laws.FnMap'. -/
def fnMapUptoCard : Claim7 := { stood := { row := fnMapUptoRow, standIns := [], harness := (true, "500e348922acbadb054cde697e1ca87caaeed1324221aa60055df8e694418da8"), looks := true }, kinds := [], alts := [], laidByText := true, laidKinds := [.sentinel, .sentinel, .sentinel, .sentinel, .sentinel, .sentinel, .sentinel, .sentinel, .sentinel, .sentinel], laidTests := true, laidLooks := .later }
def FnMapUptoCardSaid : Prop := Claim7.holds Tryd.pinned (.plain (OpenSpec.upto fnMapSpec)) fnMapUptoCard

/-- THE SECOND FORM's CARD OF 'laws.FnMapRest'. -/
def fnMapRestUptoCard : Claim7 := { stood := { row := fnMapRestUptoRow, standIns := [], harness := (true, "500e348922acbadb054cde697e1ca87caaeed1324221aa60055df8e694418da8"), looks := true }, kinds := [], alts := [], laidByText := true, laidKinds := [.sentinel, .sentinel, .sentinel, .sentinel, .sentinel, .sentinel, .sentinel, .sentinel, .sentinel, .sentinel], laidTests := true, laidLooks := .later }
def FnMapRestUptoCardSaid : Prop := Claim7.holds Tryd.pinned (.plain (OpenSpec.upto fnMapRestSpec)) fnMapRestUptoCard

/-- THE SECOND FORM's CARD OF 'laws.FnMapStrict'. -/
def fnMapStrictUptoCard : Claim7 := { stood := { row := fnMapStrictUptoRow, standIns := [], harness := (true, "500e348922acbadb054cde697e1ca87caaeed1324221aa60055df8e694418da8"), looks := true }, kinds := [], alts := [], laidByText := true, laidKinds := [.sentinel, .sentinel, .sentinel, .sentinel, .sentinel, .sentinel, .sentinel, .sentinel, .sentinel, .sentinel], laidTests := true, laidLooks := .later }
def FnMapStrictUptoCardSaid : Prop := Claim7.holds Tryd.pinned (.plain (OpenSpec.upto fnMapStrictSpec)) fnMapStrictUptoCard
end Rows
end Go.Proofs.YtocfcajafkkhdaaDoor
