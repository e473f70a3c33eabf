/-
  DERIVED. GIVEN WITH THE SEED: THE CARDS: each row of YtcnallabiffemaaGreatDoorRows.lean that lists a variable, with what it lists TIED to the program's text (the seventh form; the later family's looks); each row that meets fmt, with fmt's text TOLD by the authors' own Lean function (tested against real Go, not proved from fmt's source: count such statements apart). THE CARD IS WHAT COUNTS. Prove the row's statement (the work); the ties are given (YtcnallabiffemaaGreatDoorTie.lean); close each card by the builder's one call (the guide's Derived/Test/ToyasCard.lean, 'card_holds'). Laid BY PROGRAM, IN A SANDBOX (cutbox-door.mjs). By AI agents, Wed Nov 11 2026. No macro, syntax, notation, axiom, sorry.
-/
import Derived.Test.YtcnallabiffemaaGreatDoorRows
import GoSem.ClaimSeven
namespace Go.Proofs.YtcnallabiffemaaGreatDoor
namespace Rows

/-- THE TIED CARD OF 'laws.FnEncode'. -/
def fnEncodeCard : Claim7 := { stood := { row := fnEncodeRow, standIns := [], harness := (true, "3c02546d83fb1081b50c595e10acd152b50cfb822275c845e90c4a4ec066cdf2"), looks := false }, kinds := [], alts := [], laidByText := true, laidKinds := [.data, .pinned], laidTests := true, laidLooks := .later }
def FnEncodeCardSaid : Prop := Claim7.holds Tryz.pinned (.plain (OpenSpec.ofChange fnEncodeSpec)) fnEncodeCard

/-- THE TIED CARD OF 'laws.FnSymbol'. -/
def fnSymbolCard : Claim7 := { stood := { row := fnSymbolRow, standIns := [], harness := (true, "3c02546d83fb1081b50c595e10acd152b50cfb822275c845e90c4a4ec066cdf2"), looks := false }, kinds := [], alts := [], laidByText := true, laidKinds := [.data, .pinned], laidTests := true, laidLooks := .later }
def FnSymbolCardSaid : Prop := Claim7.holds Tryz.pinned (.plain (OpenSpec.ofChange fnSymbolSpec)) fnSymbolCard

/-- THE TIED CARD OF 'laws.FnHighLevel'. -/
def fnHighLevelCard : Claim7 := { stood := { row := fnHighLevelRow, standIns := [], harness := (true, "3c02546d83fb1081b50c595e10acd152b50cfb822275c845e90c4a4ec066cdf2"), looks := false }, kinds := [], alts := [], laidByText := true, laidKinds := [.data, .pinned], laidTests := true, laidLooks := .later }
def FnHighLevelCardSaid : Prop := Claim7.holds Tryz.pinned (.plain (OpenSpec.ofChange fnHighLevelSpec)) fnHighLevelCard

/-- THE TIED CARD OF 'laws.FnPlace'. -/
def fnPlaceCard : Claim7 := { stood := { row := fnPlaceRow, standIns := [], harness := (true, "3c02546d83fb1081b50c595e10acd152b50cfb822275c845e90c4a4ec066cdf2"), looks := false }, kinds := [], alts := [], laidByText := true, laidKinds := [.data, .pinned], laidTests := true, laidLooks := .later }
def FnPlaceCardSaid : Prop := Claim7.holds Tryz.pinned (.plain (OpenSpec.ofChange fnPlaceSpec)) fnPlaceCard

/-- THE TIED CARD OF 'laws.FnCheck'. -/
def fnCheckCard : Claim7 := { stood := { row := fnCheckRow, standIns := [], harness := (true, "3c02546d83fb1081b50c595e10acd152b50cfb822275c845e90c4a4ec066cdf2"), looks := false }, kinds := [], alts := [], laidByText := true, laidKinds := [.data, .pinned], laidTests := true, laidLooks := .later }
def FnCheckCardSaid : Prop := Claim7.holds Tryz.pinned (.plain (OpenSpec.ofChange fnCheckSpec)) fnCheckCard

/-- THE SECOND FORM's CARD OF 'laws.FnEncode'. -/
def fnEncodeUptoCard : Claim7 := { stood := { row := fnEncodeUptoRow, standIns := [], harness := (true, "3c02546d83fb1081b50c595e10acd152b50cfb822275c845e90c4a4ec066cdf2"), looks := false }, kinds := [], alts := [], laidByText := true, laidKinds := [.data, .pinned], laidTests := true, laidLooks := .later }
def FnEncodeUptoCardSaid : Prop := Claim7.holds Tryz.pinned (.plain (OpenSpec.upto fnEncodeSpec)) fnEncodeUptoCard

/-- THE SECOND FORM's CARD OF 'laws.FnSymbol'. -/
def fnSymbolUptoCard : Claim7 := { stood := { row := fnSymbolUptoRow, standIns := [], harness := (true, "3c02546d83fb1081b50c595e10acd152b50cfb822275c845e90c4a4ec066cdf2"), looks := false }, kinds := [], alts := [], laidByText := true, laidKinds := [.data, .pinned], laidTests := true, laidLooks := .later }
def FnSymbolUptoCardSaid : Prop := Claim7.holds Tryz.pinned (.plain (OpenSpec.upto fnSymbolSpec)) fnSymbolUptoCard

/-- THE SECOND FORM's CARD OF 'laws.FnHighLevel'. -/
def fnHighLevelUptoCard : Claim7 := { stood := { row := fnHighLevelUptoRow, standIns := [], harness := (true, "3c02546d83fb1081b50c595e10acd152b50cfb822275c845e90c4a4ec066cdf2"), looks := false }, kinds := [], alts := [], laidByText := true, laidKinds := [.data, .pinned], laidTests := true, laidLooks := .later }
def FnHighLevelUptoCardSaid : Prop := Claim7.holds Tryz.pinned (.plain (OpenSpec.upto fnHighLevelSpec)) fnHighLevelUptoCard

/-- THE SECOND FORM's CARD OF 'laws.FnPlace'. -/
def fnPlaceUptoCard : Claim7 := { stood := { row := fnPlaceUptoRow, standIns := [], harness := (true, "3c02546d83fb1081b50c595e10acd152b50cfb822275c845e90c4a4ec066cdf2"), looks := false }, kinds := [], alts := [], laidByText := true, laidKinds := [.data, .pinned], laidTests := true, laidLooks := .later }
def FnPlaceUptoCardSaid : Prop := Claim7.holds Tryz.pinned (.plain (OpenSpec.upto fnPlaceSpec)) fnPlaceUptoCard

/-- THE SECOND FORM's CARD OF 'laws.FnCheck'. -/
def fnCheckUptoCard : Claim7 := { stood := { row := fnCheckUptoRow, standIns := [], harness := (true, "3c02546d83fb1081b50c595e10acd152b50cfb822275c845e90c4a4ec066cdf2"), looks := false }, kinds := [], alts := [], laidByText := true, laidKinds := [.data, .pinned], laidTests := true, laidLooks := .later }
def FnCheckUptoCardSaid : Prop := Claim7.holds Tryz.pinned (.plain (OpenSpec.upto fnCheckSpec)) fnCheckUptoCard
end Rows
end Go.Proofs.YtcnallabiffemaaGreatDoor
