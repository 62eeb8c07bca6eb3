/-
  DERIVED. GIVEN WITH THE SEED: THE CARDS: each row of YtldiamldbpobgaaGreatDoorRows.lean that lists a variable, with what it lists TIED to the program's text (the seventh form; the later family's looks); each row that meets fmt, with fmt's text TOLD by the authors' own Lean function (tested against real Go, not proved from fmt's source: count such statements apart). THE CARD IS WHAT COUNTS. Prove the row's statement (the work); the ties are given (YtldiamldbpobgaaGreatDoorTie.lean); close each card by the builder's one call (the guide's Derived/Test/ToyasCard.lean, 'card_holds'). Laid BY PROGRAM, IN A SANDBOX (cutbox-door.mjs). By AI agents, Wed Nov 11 2026. No macro, syntax, notation, axiom, sorry.
-/
import Derived.Test.YtldiamldbpobgaaGreatDoorRows
import GoSem.ClaimSeven
namespace Go.Proofs.YtldiamldbpobgaaGreatDoor
namespace Rows

/-- THE TIED CARD OF 'laws.FnReadRcpt'. -/
def fnReadRcptCard : Claim7 := { stood := { row := fnReadRcptRow, standIns := [], harness := (true, "fff30e719e6a7a3b202ede9db74d4e692d11b6f5252ef1bab4776aa689f07926"), looks := false }, kinds := [], alts := [], laidByText := true, laidKinds := [.data, .listed, .data, .data, .data, .pinned, .pinned], laidTests := true, laidLooks := .later }
def FnReadRcptCardSaid : Prop := Claim7.holds Tryz.pinned (.plain (OpenSpec.ofChange fnReadRcptSpec)) fnReadRcptCard

/-- THE TIED CARD OF 'laws.FnReadMail'. -/
def fnReadMailCard : Claim7 := { stood := { row := fnReadMailRow, standIns := [], harness := (true, "fff30e719e6a7a3b202ede9db74d4e692d11b6f5252ef1bab4776aa689f07926"), looks := false }, kinds := [], alts := [], laidByText := true, laidKinds := [.data, .listed, .data, .data, .data, .pinned, .pinned], laidTests := true, laidLooks := .later }
def FnReadMailCardSaid : Prop := Claim7.holds Tryz.pinned (.plain (OpenSpec.ofChange fnReadMailSpec)) fnReadMailCard

/-- THE SECOND FORM's CARD OF 'laws.FnReadRcpt'. -/
def fnReadRcptUptoCard : Claim7 := { stood := { row := fnReadRcptUptoRow, standIns := [], harness := (true, "fff30e719e6a7a3b202ede9db74d4e692d11b6f5252ef1bab4776aa689f07926"), looks := false }, kinds := [], alts := [], laidByText := true, laidKinds := [.data, .listed, .data, .data, .data, .pinned, .pinned], laidTests := true, laidLooks := .later }
def FnReadRcptUptoCardSaid : Prop := Claim7.holds Tryz.pinned (.plain (OpenSpec.upto fnReadRcptSpec)) fnReadRcptUptoCard

/-- THE SECOND FORM's CARD OF 'laws.FnReadMail'. -/
def fnReadMailUptoCard : Claim7 := { stood := { row := fnReadMailUptoRow, standIns := [], harness := (true, "fff30e719e6a7a3b202ede9db74d4e692d11b6f5252ef1bab4776aa689f07926"), looks := false }, kinds := [], alts := [], laidByText := true, laidKinds := [.data, .listed, .data, .data, .data, .pinned, .pinned], laidTests := true, laidLooks := .later }
def FnReadMailUptoCardSaid : Prop := Claim7.holds Tryz.pinned (.plain (OpenSpec.upto fnReadMailSpec)) fnReadMailUptoCard
end Rows
end Go.Proofs.YtldiamldbpobgaaGreatDoor
