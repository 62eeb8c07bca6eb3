/-
  DERIVED. GIVEN WITH THE SEED: THE CARDS: each row of YtoeggcckcnlllaaDoorRows.lean that lists a variable, with what it lists TIED to the program's text (the seventh form; the later family's looks); each row that meets fmt, with fmt's text TOLD by the authors' own Lean function (tested against real Go, not proved from fmt's source: count such statements apart). THE CARD IS WHAT COUNTS. Prove the row's statement (the work); the ties are given (YtoeggcckcnlllaaDoorTie.lean); close each card by the builder's one call (the guide's Derived/Test/ToyasCard.lean, 'card_holds'). Laid BY PROGRAM, IN A SANDBOX (cutbox-door.mjs). By AI agents, Wed Nov 11 2026. No macro, syntax, notation, axiom, sorry.
-/
import Derived.Test.YtoeggcckcnlllaaDoorRows
import GoSem.ClaimSeven
namespace Go.Proofs.YtoeggcckcnlllaaDoor
namespace Rows

/-- THE TIED CARD OF 'laws.FnUnxtext'. -/
def fnUnxtextCard : Claim7 := { stood := { row := fnUnxtextRow, standIns := [], harness := (true, "e65fa89cebe79b3d9ce1aa52451df1c0c3b5d767b897812d534c2a2cbd537065"), looks := true }, kinds := [], alts := [], laidByText := true, laidKinds := [.data, .data, .data, .sentinel, .sentinel], laidTests := true, laidLooks := .later }
def FnUnxtextCardSaid : Prop := Claim7.holds Tryd.pinned (.plain (OpenSpec.ofChange fnUnxtextSpec)) fnUnxtextCard

/-- THE TIED CARD OF 'laws.FnXtext'. -/
def fnXtextCard : Claim7 := { stood := { row := fnXtextRow, standIns := [], harness := (true, "e65fa89cebe79b3d9ce1aa52451df1c0c3b5d767b897812d534c2a2cbd537065"), looks := true }, kinds := [], alts := [], laidByText := true, laidKinds := [.data, .data, .data, .data, .sentinel, .sentinel, .pinned, .pinned], laidTests := true, laidLooks := .later }
def FnXtextCardSaid : Prop := Claim7.holds Tryd.pinned (.plain (OpenSpec.ofChange fnXtextSpec)) fnXtextCard

/-- THE SECOND FORM's CARD OF 'laws.FnUnxtext'. -/
def fnUnxtextUptoCard : Claim7 := { stood := { row := fnUnxtextUptoRow, standIns := [], harness := (true, "e65fa89cebe79b3d9ce1aa52451df1c0c3b5d767b897812d534c2a2cbd537065"), looks := true }, kinds := [], alts := [], laidByText := true, laidKinds := [.data, .data, .data, .sentinel, .sentinel], laidTests := true, laidLooks := .later }
def FnUnxtextUptoCardSaid : Prop := Claim7.holds Tryd.pinned (.plain (OpenSpec.upto fnUnxtextSpec)) fnUnxtextUptoCard

/-- THE SECOND FORM's CARD OF 'laws.FnXtext'. -/
def fnXtextUptoCard : Claim7 := { stood := { row := fnXtextUptoRow, standIns := [], harness := (true, "e65fa89cebe79b3d9ce1aa52451df1c0c3b5d767b897812d534c2a2cbd537065"), looks := true }, kinds := [], alts := [], laidByText := true, laidKinds := [.data, .data, .data, .data, .sentinel, .sentinel, .pinned, .pinned], laidTests := true, laidLooks := .later }
def FnXtextUptoCardSaid : Prop := Claim7.holds Tryd.pinned (.plain (OpenSpec.upto fnXtextSpec)) fnXtextUptoCard
end Rows
end Go.Proofs.YtoeggcckcnlllaaDoor
