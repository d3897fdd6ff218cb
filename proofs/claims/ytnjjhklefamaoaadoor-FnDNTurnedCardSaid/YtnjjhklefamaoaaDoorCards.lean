/-
  DERIVED. GIVEN WITH THE SEED: THE CARDS: each row of YtnjjhklefamaoaaDoorRows.lean that lists a variable, with what it lists TIED to the program's text (the seventh form; the later family's looks); each row that meets fmt, with fmt's text TOLD by the authors' own Lean function (tested against real Go, not proved from fmt's source: count such statements apart). THE CARD IS WHAT COUNTS. Prove the row's statement (the work); the ties are given (YtnjjhklefamaoaaDoorTie.lean); close each card by the builder's one call (the guide's Derived/Test/ToyasCard.lean, 'card_holds'). Laid BY PROGRAM, IN A SANDBOX (cutbox-door.mjs). By AI agents, Wed Nov 11 2026. No macro, syntax, notation, axiom, sorry.
-/
import Derived.Test.YtnjjhklefamaoaaDoorRows
import GoSem.ClaimSeven
namespace Go.Proofs.YtnjjhklefamaoaaDoor
namespace Rows

/-- THE TIED CARD OF 'laws.FnDNParse'. -/
def fnDNParseCard : Claim7 := { stood := { row := fnDNParseRow, standIns := [], harness := (true, "d203c29d11a9a8d035b961caba2b990a46f2b7ad81cba38e9d365fe71f806fdf"), looks := false }, kinds := [], alts := [], laidByText := true, laidKinds := [.sentinel], laidTests := true, laidLooks := .later }
def FnDNParseCardSaid : Prop := Claim7.holds Tryd.pinned (.plain (OpenSpec.ofChange fnDNParseSpec)) fnDNParseCard

/-- THE TIED CARD OF 'laws.FnDNAncestor'. -/
def fnDNAncestorCard : Claim7 := { stood := { row := fnDNAncestorRow, standIns := [], harness := (true, "d203c29d11a9a8d035b961caba2b990a46f2b7ad81cba38e9d365fe71f806fdf"), looks := false }, kinds := [], alts := [], laidByText := true, laidKinds := [.sentinel], laidTests := true, laidLooks := .later }
def FnDNAncestorCardSaid : Prop := Claim7.holds Tryd.pinned (.plain (OpenSpec.ofChange fnDNAncestorSpec)) fnDNAncestorCard

/-- THE TIED CARD OF 'laws.FnDNTurned'. -/
def fnDNTurnedCard : Claim7 := { stood := { row := fnDNTurnedRow, standIns := [], harness := (true, "d203c29d11a9a8d035b961caba2b990a46f2b7ad81cba38e9d365fe71f806fdf"), looks := false }, kinds := [], alts := [], laidByText := true, laidKinds := [.sentinel], laidTests := true, laidLooks := .later }
def FnDNTurnedCardSaid : Prop := Claim7.holds Tryd.pinned (.plain (OpenSpec.ofChange fnDNTurnedSpec)) fnDNTurnedCard

/-- THE SECOND FORM's CARD OF 'laws.FnDNParse'. -/
def fnDNParseUptoCard : Claim7 := { stood := { row := fnDNParseUptoRow, standIns := [], harness := (true, "d203c29d11a9a8d035b961caba2b990a46f2b7ad81cba38e9d365fe71f806fdf"), looks := false }, kinds := [], alts := [], laidByText := true, laidKinds := [.sentinel], laidTests := true, laidLooks := .later }
def FnDNParseUptoCardSaid : Prop := Claim7.holds Tryd.pinned (.plain (OpenSpec.upto fnDNParseSpec)) fnDNParseUptoCard

/-- THE SECOND FORM's CARD OF 'laws.FnDNAncestor'. -/
def fnDNAncestorUptoCard : Claim7 := { stood := { row := fnDNAncestorUptoRow, standIns := [], harness := (true, "d203c29d11a9a8d035b961caba2b990a46f2b7ad81cba38e9d365fe71f806fdf"), looks := false }, kinds := [], alts := [], laidByText := true, laidKinds := [.sentinel], laidTests := true, laidLooks := .later }
def FnDNAncestorUptoCardSaid : Prop := Claim7.holds Tryd.pinned (.plain (OpenSpec.upto fnDNAncestorSpec)) fnDNAncestorUptoCard

/-- THE SECOND FORM's CARD OF 'laws.FnDNTurned'. -/
def fnDNTurnedUptoCard : Claim7 := { stood := { row := fnDNTurnedUptoRow, standIns := [], harness := (true, "d203c29d11a9a8d035b961caba2b990a46f2b7ad81cba38e9d365fe71f806fdf"), looks := false }, kinds := [], alts := [], laidByText := true, laidKinds := [.sentinel], laidTests := true, laidLooks := .later }
def FnDNTurnedUptoCardSaid : Prop := Claim7.holds Tryd.pinned (.plain (OpenSpec.upto fnDNTurnedSpec)) fnDNTurnedUptoCard
end Rows
end Go.Proofs.YtnjjhklefamaoaaDoor
