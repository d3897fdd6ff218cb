/-
  DERIVED. GIVEN WITH THE SEED: THE CARDS: each row of YtjaodjeommkjgaaDoorRows.lean that lists a variable, with what it lists TIED to the program's text (the seventh form; the later family's looks); each row that meets fmt, with fmt's text TOLD by the authors' own Lean function (tested against real Go, not proved from fmt's source: count such statements apart). THE CARD IS WHAT COUNTS. Prove the row's statement (the work); the ties are given (YtjaodjeommkjgaaDoorTie.lean); close each card by the builder's one call (the guide's Derived/Test/ToyasCard.lean, 'card_holds'). Laid BY PROGRAM, IN A SANDBOX (cutbox-door.mjs). By AI agents, Wed Nov 11 2026. No macro, syntax, notation, axiom, sorry.
-/
import Derived.Test.YtjaodjeommkjgaaDoorRows
import GoSem.ClaimSeven
namespace Go.Proofs.YtjaodjeommkjgaaDoor
namespace Rows

/-- THE TIED CARD OF 'laws.FnLengthCuts'. -/
def fnLengthCutsCard : Claim7 := { stood := { row := fnLengthCutsRow, standIns := [], harness := (true, "abac83bc015bc61b0905f37a3236d868e563a744a0ef93f31df2bcb0ca0b8e82"), looks := false }, kinds := [], alts := [], laidByText := true, laidKinds := [.sentinel], laidTests := true, laidLooks := .later }
def FnLengthCutsCardSaid : Prop := Claim7.holds Tryd.pinned (.plain (OpenSpec.ofChange fnLengthCutsSpec)) fnLengthCutsCard

/-- THE TIED CARD OF 'laws.FnReadLength'. -/
def fnReadLengthCard : Claim7 := { stood := { row := fnReadLengthRow, standIns := [], harness := (true, "abac83bc015bc61b0905f37a3236d868e563a744a0ef93f31df2bcb0ca0b8e82"), looks := false }, kinds := [], alts := [], laidByText := true, laidKinds := [.sentinel], laidTests := true, laidLooks := .later }
def FnReadLengthCardSaid : Prop := Claim7.holds Tryd.pinned (.plain (OpenSpec.ofChange fnReadLengthSpec)) fnReadLengthCard

/-- THE TIED CARD OF 'laws.FnPublishBack'. -/
def fnPublishBackCard : Claim7 := { stood := { row := fnPublishBackRow, standIns := [], harness := (true, "abac83bc015bc61b0905f37a3236d868e563a744a0ef93f31df2bcb0ca0b8e82"), looks := false }, kinds := [], alts := [], laidByText := true, laidKinds := [.data, .sentinel, .sentinel, .sentinel, .pinned], laidTests := true, laidLooks := .later }
def FnPublishBackCardSaid : Prop := Claim7.holds Tryd.pinned (.plain (OpenSpec.ofChange fnPublishBackSpec)) fnPublishBackCard

/-- THE TIED CARD OF 'laws.FnTopicApart'. -/
def fnTopicApartCard : Claim7 := { stood := { row := fnTopicApartRow, standIns := [], harness := (true, "abac83bc015bc61b0905f37a3236d868e563a744a0ef93f31df2bcb0ca0b8e82"), looks := false }, kinds := [], alts := [], laidByText := true, laidKinds := [.data, .sentinel, .sentinel, .sentinel, .pinned], laidTests := true, laidLooks := .later }
def FnTopicApartCardSaid : Prop := Claim7.holds Tryd.pinned (.plain (OpenSpec.ofChange fnTopicApartSpec)) fnTopicApartCard

/-- THE TIED CARD OF 'laws.FnTopic'. -/
def fnTopicCard : Claim7 := { stood := { row := fnTopicRow, standIns := [], harness := (true, "abac83bc015bc61b0905f37a3236d868e563a744a0ef93f31df2bcb0ca0b8e82"), looks := false }, kinds := [], alts := [], laidByText := true, laidKinds := [.data, .sentinel, .sentinel, .sentinel, .pinned], laidTests := true, laidLooks := .later }
def FnTopicCardSaid : Prop := Claim7.holds Tryd.pinned (.plain (OpenSpec.ofChange fnTopicSpec)) fnTopicCard

/-- THE SECOND FORM's CARD OF 'laws.FnLengthCuts'. -/
def fnLengthCutsUptoCard : Claim7 := { stood := { row := fnLengthCutsUptoRow, standIns := [], harness := (true, "abac83bc015bc61b0905f37a3236d868e563a744a0ef93f31df2bcb0ca0b8e82"), looks := false }, kinds := [], alts := [], laidByText := true, laidKinds := [.sentinel], laidTests := true, laidLooks := .later }
def FnLengthCutsUptoCardSaid : Prop := Claim7.holds Tryd.pinned (.plain (OpenSpec.upto fnLengthCutsSpec)) fnLengthCutsUptoCard

/-- THE SECOND FORM's CARD OF 'laws.FnReadLength'. -/
def fnReadLengthUptoCard : Claim7 := { stood := { row := fnReadLengthUptoRow, standIns := [], harness := (true, "abac83bc015bc61b0905f37a3236d868e563a744a0ef93f31df2bcb0ca0b8e82"), looks := false }, kinds := [], alts := [], laidByText := true, laidKinds := [.sentinel], laidTests := true, laidLooks := .later }
def FnReadLengthUptoCardSaid : Prop := Claim7.holds Tryd.pinned (.plain (OpenSpec.upto fnReadLengthSpec)) fnReadLengthUptoCard

/-- THE SECOND FORM's CARD OF 'laws.FnPublishBack'. -/
def fnPublishBackUptoCard : Claim7 := { stood := { row := fnPublishBackUptoRow, standIns := [], harness := (true, "abac83bc015bc61b0905f37a3236d868e563a744a0ef93f31df2bcb0ca0b8e82"), looks := false }, kinds := [], alts := [], laidByText := true, laidKinds := [.data, .sentinel, .sentinel, .sentinel, .pinned], laidTests := true, laidLooks := .later }
def FnPublishBackUptoCardSaid : Prop := Claim7.holds Tryd.pinned (.plain (OpenSpec.upto fnPublishBackSpec)) fnPublishBackUptoCard

/-- THE SECOND FORM's CARD OF 'laws.FnTopicApart'. -/
def fnTopicApartUptoCard : Claim7 := { stood := { row := fnTopicApartUptoRow, standIns := [], harness := (true, "abac83bc015bc61b0905f37a3236d868e563a744a0ef93f31df2bcb0ca0b8e82"), looks := false }, kinds := [], alts := [], laidByText := true, laidKinds := [.data, .sentinel, .sentinel, .sentinel, .pinned], laidTests := true, laidLooks := .later }
def FnTopicApartUptoCardSaid : Prop := Claim7.holds Tryd.pinned (.plain (OpenSpec.upto fnTopicApartSpec)) fnTopicApartUptoCard

/-- THE SECOND FORM's CARD OF 'laws.FnTopic'. -/
def fnTopicUptoCard : Claim7 := { stood := { row := fnTopicUptoRow, standIns := [], harness := (true, "abac83bc015bc61b0905f37a3236d868e563a744a0ef93f31df2bcb0ca0b8e82"), looks := false }, kinds := [], alts := [], laidByText := true, laidKinds := [.data, .sentinel, .sentinel, .sentinel, .pinned], laidTests := true, laidLooks := .later }
def FnTopicUptoCardSaid : Prop := Claim7.holds Tryd.pinned (.plain (OpenSpec.upto fnTopicSpec)) fnTopicUptoCard
end Rows
end Go.Proofs.YtjaodjeommkjgaaDoor
