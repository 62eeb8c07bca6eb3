/-
  DERIVED. GIVEN WITH THE SEED: THE CARDS: each row of YtajifebphcgcpaaDoorRows.lean that lists a variable, with what it lists TIED to the program's text (the seventh form; the later family's looks); each row that meets fmt, with fmt's text TOLD by the authors' own Lean function (tested against real Go, not proved from fmt's source: count such statements apart). THE CARD IS WHAT COUNTS. Prove the row's statement (the work); the ties are given (YtajifebphcgcpaaDoorTie.lean); close each card by the builder's one call (the guide's Derived/Test/ToyasCard.lean, 'card_holds'). Laid BY PROGRAM, IN A SANDBOX (cutbox-door.mjs). By AI agents, Wed Nov 11 2026. No macro, syntax, notation, axiom, sorry.
-/
import Derived.Test.YtajifebphcgcpaaDoorRows
import GoSem.ClaimSeven
namespace Go.Proofs.YtajifebphcgcpaaDoor
namespace Rows

/-- THE TIED CARD OF 'laws.FnSeqOne'. -/
def fnSeqOneCard : Claim7 := { stood := { row := fnSeqOneRow, standIns := [], harness := (true, "f24a1fdb3d8bca0b21c6abd75b661d7b505a05057f3e760f66ecf62e75671951"), looks := true }, kinds := [], alts := [], laidByText := true, laidKinds := [.data, .data, .data], laidTests := true, laidLooks := .later }
def FnSeqOneCardSaid : Prop := Claim7.holds Tryd.pinned (.plain (OpenSpec.ofChange fnSeqOneSpec)) fnSeqOneCard

/-- THE TIED CARD OF 'laws.FnSeqOf'. -/
def fnSeqOfCard : Claim7 := { stood := { row := fnSeqOfRow, standIns := [], harness := (true, "f24a1fdb3d8bca0b21c6abd75b661d7b505a05057f3e760f66ecf62e75671951"), looks := true }, kinds := [], alts := [], laidByText := true, laidKinds := [.data, .data, .data, .sentinel, .sentinel], laidTests := true, laidLooks := .later }
def FnSeqOfCardSaid : Prop := Claim7.holds Tryd.pinned (.plain (OpenSpec.ofChange fnSeqOfSpec)) fnSeqOfCard

/-- THE TIED CARD OF 'laws.FnSeqHas'. -/
def fnSeqHasCard : Claim7 := { stood := { row := fnSeqHasRow, standIns := [], harness := (true, "f24a1fdb3d8bca0b21c6abd75b661d7b505a05057f3e760f66ecf62e75671951"), looks := true }, kinds := [], alts := [], laidByText := true, laidKinds := [.data, .data, .data, .sentinel, .sentinel], laidTests := true, laidLooks := .later }
def FnSeqHasCardSaid : Prop := Claim7.holds Tryd.pinned (.plain (OpenSpec.ofChange fnSeqHasSpec)) fnSeqHasCard

/-- THE TIED CARD OF 'laws.FnSeqPlayed'. -/
def fnSeqPlayedCard : Claim7 := { stood := { row := fnSeqPlayedRow, standIns := [], harness := (true, "f24a1fdb3d8bca0b21c6abd75b661d7b505a05057f3e760f66ecf62e75671951"), looks := true }, kinds := [], alts := [], laidByText := true, laidKinds := [.data, .data, .data, .sentinel, .sentinel], laidTests := true, laidLooks := .later }
def FnSeqPlayedCardSaid : Prop := Claim7.holds Tryd.pinned (.plain (OpenSpec.ofChange fnSeqPlayedSpec)) fnSeqPlayedCard

/-- THE SECOND FORM's CARD OF 'laws.FnSeqOne'. -/
def fnSeqOneUptoCard : Claim7 := { stood := { row := fnSeqOneUptoRow, standIns := [], harness := (true, "f24a1fdb3d8bca0b21c6abd75b661d7b505a05057f3e760f66ecf62e75671951"), looks := true }, kinds := [], alts := [], laidByText := true, laidKinds := [.data, .data, .data], laidTests := true, laidLooks := .later }
def FnSeqOneUptoCardSaid : Prop := Claim7.holds Tryd.pinned (.plain (OpenSpec.upto fnSeqOneSpec)) fnSeqOneUptoCard

/-- THE SECOND FORM's CARD OF 'laws.FnSeqOf'. -/
def fnSeqOfUptoCard : Claim7 := { stood := { row := fnSeqOfUptoRow, standIns := [], harness := (true, "f24a1fdb3d8bca0b21c6abd75b661d7b505a05057f3e760f66ecf62e75671951"), looks := true }, kinds := [], alts := [], laidByText := true, laidKinds := [.data, .data, .data, .sentinel, .sentinel], laidTests := true, laidLooks := .later }
def FnSeqOfUptoCardSaid : Prop := Claim7.holds Tryd.pinned (.plain (OpenSpec.upto fnSeqOfSpec)) fnSeqOfUptoCard

/-- THE SECOND FORM's CARD OF 'laws.FnSeqHas'. -/
def fnSeqHasUptoCard : Claim7 := { stood := { row := fnSeqHasUptoRow, standIns := [], harness := (true, "f24a1fdb3d8bca0b21c6abd75b661d7b505a05057f3e760f66ecf62e75671951"), looks := true }, kinds := [], alts := [], laidByText := true, laidKinds := [.data, .data, .data, .sentinel, .sentinel], laidTests := true, laidLooks := .later }
def FnSeqHasUptoCardSaid : Prop := Claim7.holds Tryd.pinned (.plain (OpenSpec.upto fnSeqHasSpec)) fnSeqHasUptoCard

/-- THE SECOND FORM's CARD OF 'laws.FnSeqPlayed'. -/
def fnSeqPlayedUptoCard : Claim7 := { stood := { row := fnSeqPlayedUptoRow, standIns := [], harness := (true, "f24a1fdb3d8bca0b21c6abd75b661d7b505a05057f3e760f66ecf62e75671951"), looks := true }, kinds := [], alts := [], laidByText := true, laidKinds := [.data, .data, .data, .sentinel, .sentinel], laidTests := true, laidLooks := .later }
def FnSeqPlayedUptoCardSaid : Prop := Claim7.holds Tryd.pinned (.plain (OpenSpec.upto fnSeqPlayedSpec)) fnSeqPlayedUptoCard
end Rows
end Go.Proofs.YtajifebphcgcpaaDoor
