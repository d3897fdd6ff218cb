/-
  DERIVED. GIVEN WITH THE SEED: THE CARDS: each row of YtchphfdoneckeaaDoorRows.lean that lists a variable, with what it lists TIED to the program's text (the seventh form; the later family's looks); each row that meets fmt, with fmt's text TOLD by the authors' own Lean function (tested against real Go, not proved from fmt's source: count such statements apart). THE CARD IS WHAT COUNTS. Prove the row's statement (the work); the ties are given (YtchphfdoneckeaaDoorTie.lean); close each card by the builder's one call (the guide's Derived/Test/ToyasCard.lean, 'card_holds'). Laid BY PROGRAM, IN A SANDBOX (cutbox-door.mjs). By AI agents, Wed Nov 11 2026. No macro, syntax, notation, axiom, sorry.
-/
import Derived.Test.YtchphfdoneckeaaDoorRows
import GoSem.ClaimSeven
namespace Go.Proofs.YtchphfdoneckeaaDoor
namespace Rows

/-- THE TIED CARD OF 'laws.FnConsumerOrder'. -/
def fnConsumerOrderCard : Claim7 := { stood := { row := fnConsumerOrderRow, standIns := [], harness := (true, "128e1e05697d222fa3790e467c489683e41af58c3276647fe502e5c79505b299"), looks := false }, kinds := [], alts := [], laidByText := true, laidKinds := [.sentinel, .sentinel, .sentinel, .sentinel], laidTests := true, laidLooks := .later }
def FnConsumerOrderCardSaid : Prop := Claim7.holds Tryd.pinned (.plain (OpenSpec.ofChange fnConsumerOrderSpec)) fnConsumerOrderCard

/-- THE TIED CARD OF 'laws.FnConsumerTwice'. -/
def fnConsumerTwiceCard : Claim7 := { stood := { row := fnConsumerTwiceRow, standIns := [], harness := (true, "128e1e05697d222fa3790e467c489683e41af58c3276647fe502e5c79505b299"), looks := false }, kinds := [], alts := [], laidByText := true, laidKinds := [.sentinel, .sentinel, .sentinel, .sentinel], laidTests := true, laidLooks := .later }
def FnConsumerTwiceCardSaid : Prop := Claim7.holds Tryd.pinned (.plain (OpenSpec.ofChange fnConsumerTwiceSpec)) fnConsumerTwiceCard

/-- THE TIED CARD OF 'laws.FnConsumerUpdate'. -/
def fnConsumerUpdateCard : Claim7 := { stood := { row := fnConsumerUpdateRow, standIns := [], harness := (true, "128e1e05697d222fa3790e467c489683e41af58c3276647fe502e5c79505b299"), looks := false }, kinds := [], alts := [], laidByText := true, laidKinds := [.sentinel, .sentinel, .sentinel, .sentinel], laidTests := true, laidLooks := .later }
def FnConsumerUpdateCardSaid : Prop := Claim7.holds Tryd.pinned (.plain (OpenSpec.ofChange fnConsumerUpdateSpec)) fnConsumerUpdateCard

/-- THE TIED CARD OF 'laws.FnConsumerBack'. -/
def fnConsumerBackCard : Claim7 := { stood := { row := fnConsumerBackRow, standIns := [], harness := (true, "128e1e05697d222fa3790e467c489683e41af58c3276647fe502e5c79505b299"), looks := false }, kinds := [], alts := [], laidByText := true, laidKinds := [.sentinel, .sentinel, .sentinel, .sentinel, .sentinel], laidTests := true, laidLooks := .later }
def FnConsumerBackCardSaid : Prop := Claim7.holds Tryd.pinned (.plain (OpenSpec.ofChange fnConsumerBackSpec)) fnConsumerBackCard

/-- THE SECOND FORM's CARD OF 'laws.FnConsumerOrder'. -/
def fnConsumerOrderUptoCard : Claim7 := { stood := { row := fnConsumerOrderUptoRow, standIns := [], harness := (true, "128e1e05697d222fa3790e467c489683e41af58c3276647fe502e5c79505b299"), looks := false }, kinds := [], alts := [], laidByText := true, laidKinds := [.sentinel, .sentinel, .sentinel, .sentinel], laidTests := true, laidLooks := .later }
def FnConsumerOrderUptoCardSaid : Prop := Claim7.holds Tryd.pinned (.plain (OpenSpec.upto fnConsumerOrderSpec)) fnConsumerOrderUptoCard

/-- THE SECOND FORM's CARD OF 'laws.FnConsumerTwice'. -/
def fnConsumerTwiceUptoCard : Claim7 := { stood := { row := fnConsumerTwiceUptoRow, standIns := [], harness := (true, "128e1e05697d222fa3790e467c489683e41af58c3276647fe502e5c79505b299"), looks := false }, kinds := [], alts := [], laidByText := true, laidKinds := [.sentinel, .sentinel, .sentinel, .sentinel], laidTests := true, laidLooks := .later }
def FnConsumerTwiceUptoCardSaid : Prop := Claim7.holds Tryd.pinned (.plain (OpenSpec.upto fnConsumerTwiceSpec)) fnConsumerTwiceUptoCard

/-- THE SECOND FORM's CARD OF 'laws.FnConsumerUpdate'. -/
def fnConsumerUpdateUptoCard : Claim7 := { stood := { row := fnConsumerUpdateUptoRow, standIns := [], harness := (true, "128e1e05697d222fa3790e467c489683e41af58c3276647fe502e5c79505b299"), looks := false }, kinds := [], alts := [], laidByText := true, laidKinds := [.sentinel, .sentinel, .sentinel, .sentinel], laidTests := true, laidLooks := .later }
def FnConsumerUpdateUptoCardSaid : Prop := Claim7.holds Tryd.pinned (.plain (OpenSpec.upto fnConsumerUpdateSpec)) fnConsumerUpdateUptoCard

/-- THE SECOND FORM's CARD OF 'laws.FnConsumerBack'. -/
def fnConsumerBackUptoCard : Claim7 := { stood := { row := fnConsumerBackUptoRow, standIns := [], harness := (true, "128e1e05697d222fa3790e467c489683e41af58c3276647fe502e5c79505b299"), looks := false }, kinds := [], alts := [], laidByText := true, laidKinds := [.sentinel, .sentinel, .sentinel, .sentinel, .sentinel], laidTests := true, laidLooks := .later }
def FnConsumerBackUptoCardSaid : Prop := Claim7.holds Tryd.pinned (.plain (OpenSpec.upto fnConsumerBackSpec)) fnConsumerBackUptoCard
end Rows
end Go.Proofs.YtchphfdoneckeaaDoor
