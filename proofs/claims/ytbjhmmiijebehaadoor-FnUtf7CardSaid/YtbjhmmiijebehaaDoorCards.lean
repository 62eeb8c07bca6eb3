/-
  DERIVED. GIVEN WITH THE SEED: THE CARDS: each row of YtbjhmmiijebehaaDoorRows.lean that lists a variable, with what it lists TIED to the program's text (the seventh form; the later family's looks); each row that meets fmt, with fmt's text TOLD by the authors' own Lean function (tested against real Go, not proved from fmt's source: count such statements apart). THE CARD IS WHAT COUNTS. Prove the row's statement (the work); the ties are given (YtbjhmmiijebehaaDoorTie.lean); close each card by the builder's one call (the guide's Derived/Test/ToyasCard.lean, 'card_holds'). Laid BY PROGRAM, IN A SANDBOX (cutbox-door.mjs). By AI agents, Wed Nov 11 2026. No macro, syntax, notation, axiom, sorry.
-/
import Derived.Test.YtbjhmmiijebehaaDoorRows
import GoSem.ClaimSeven
namespace Go.Proofs.YtbjhmmiijebehaaDoor
namespace Rows

/-- THE TIED CARD OF 'laws.FnFromUtf7'. -/
def fnFromUtf7Card : Claim7 := { stood := { row := fnFromUtf7Row, standIns := [], harness := (true, "bebd33b0adf655a18ca6b32a61720eccf4224f32dc8f8c0baf26cd9319777657"), looks := false }, kinds := [], alts := [], laidByText := true, laidKinds := [.sentinel, .sentinel, .sentinel], laidTests := true, laidLooks := .later }
def FnFromUtf7CardSaid : Prop := Claim7.holds Tryd.pinned (.plain (OpenSpec.ofChange fnFromUtf7Spec)) fnFromUtf7Card

/-- THE TIED CARD OF 'laws.FnUtf7'. -/
def fnUtf7Card : Claim7 := { stood := { row := fnUtf7Row, standIns := [], harness := (true, "bebd33b0adf655a18ca6b32a61720eccf4224f32dc8f8c0baf26cd9319777657"), looks := false }, kinds := [], alts := [], laidByText := true, laidKinds := [.data, .sentinel, .sentinel, .sentinel, .pinned], laidTests := true, laidLooks := .later }
def FnUtf7CardSaid : Prop := Claim7.holds Tryd.pinned (.plain (OpenSpec.ofChange fnUtf7Spec)) fnUtf7Card

/-- THE SECOND FORM's CARD OF 'laws.FnFromUtf7'. -/
def fnFromUtf7UptoCard : Claim7 := { stood := { row := fnFromUtf7UptoRow, standIns := [], harness := (true, "bebd33b0adf655a18ca6b32a61720eccf4224f32dc8f8c0baf26cd9319777657"), looks := false }, kinds := [], alts := [], laidByText := true, laidKinds := [.sentinel, .sentinel, .sentinel], laidTests := true, laidLooks := .later }
def FnFromUtf7UptoCardSaid : Prop := Claim7.holds Tryd.pinned (.plain (OpenSpec.upto fnFromUtf7Spec)) fnFromUtf7UptoCard

/-- THE SECOND FORM's CARD OF 'laws.FnUtf7'. -/
def fnUtf7UptoCard : Claim7 := { stood := { row := fnUtf7UptoRow, standIns := [], harness := (true, "bebd33b0adf655a18ca6b32a61720eccf4224f32dc8f8c0baf26cd9319777657"), looks := false }, kinds := [], alts := [], laidByText := true, laidKinds := [.data, .sentinel, .sentinel, .sentinel, .pinned], laidTests := true, laidLooks := .later }
def FnUtf7UptoCardSaid : Prop := Claim7.holds Tryd.pinned (.plain (OpenSpec.upto fnUtf7Spec)) fnUtf7UptoCard
end Rows
end Go.Proofs.YtbjhmmiijebehaaDoor
