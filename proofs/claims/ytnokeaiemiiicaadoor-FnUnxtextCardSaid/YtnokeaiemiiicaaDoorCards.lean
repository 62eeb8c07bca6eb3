/-
  DERIVED. GIVEN WITH THE SEED: THE CARDS: each row of YtnokeaiemiiicaaDoorRows.lean that lists a variable, with what it lists TIED to the program's text (the seventh form; the later family's looks); each row that meets fmt, with fmt's text TOLD by the authors' own Lean function (tested against real Go, not proved from fmt's source: count such statements apart). THE CARD IS WHAT COUNTS. Prove the row's statement (the work); the ties are given (YtnokeaiemiiicaaDoorTie.lean); close each card by the builder's one call (the guide's Derived/Test/ToyasCard.lean, 'card_holds'). Laid BY PROGRAM, IN A SANDBOX (cutbox-door.mjs). By AI agents, Wed Nov 11 2026. No macro, syntax, notation, axiom, sorry.
-/
import Derived.Test.YtnokeaiemiiicaaDoorRows
import GoSem.ClaimSeven
namespace Go.Proofs.YtnokeaiemiiicaaDoor
namespace Rows

/-- THE TIED CARD OF 'laws.FnSeqOne'. -/
def fnSeqOneCard : Claim7 := { stood := { row := fnSeqOneRow, standIns := [], harness := (true, "00850f4f1b54f15960deb4e1c18ae879645b75568f91b9572cb113badef7c105"), looks := true }, kinds := [], alts := [], laidByText := true, laidKinds := [.data, .data, .data], laidTests := true, laidLooks := .later }
def FnSeqOneCardSaid : Prop := Claim7.holds Tryd.pinned (.plain (OpenSpec.ofChange fnSeqOneSpec)) fnSeqOneCard

/-- THE TIED CARD OF 'laws.FnCanonical'. -/
def fnCanonicalCard : Claim7 := { stood := { row := fnCanonicalRow, standIns := [], harness := (true, "00850f4f1b54f15960deb4e1c18ae879645b75568f91b9572cb113badef7c105"), looks := true }, kinds := [], alts := [], laidByText := true, laidKinds := [.data, .data, .data, .data, .pinned, .pinned], laidTests := true, laidLooks := .later }
def FnCanonicalCardSaid : Prop := Claim7.holds Tryd.pinned (.plain (OpenSpec.ofChange fnCanonicalSpec)) fnCanonicalCard

/-- THE TIED CARD OF 'laws.FnFromUtf7'. -/
def fnFromUtf7Card : Claim7 := { stood := { row := fnFromUtf7Row, standIns := [], harness := (true, "00850f4f1b54f15960deb4e1c18ae879645b75568f91b9572cb113badef7c105"), looks := true }, kinds := [], alts := [], laidByText := true, laidKinds := [.sentinel, .sentinel, .sentinel], laidTests := true, laidLooks := .later }
def FnFromUtf7CardSaid : Prop := Claim7.holds Tryd.pinned (.plain (OpenSpec.ofChange fnFromUtf7Spec)) fnFromUtf7Card

/-- THE TIED CARD OF 'laws.FnUnxtext'. -/
def fnUnxtextCard : Claim7 := { stood := { row := fnUnxtextRow, standIns := [], harness := (true, "00850f4f1b54f15960deb4e1c18ae879645b75568f91b9572cb113badef7c105"), looks := true }, kinds := [], alts := [], laidByText := true, laidKinds := [.data, .data, .data, .sentinel, .sentinel], laidTests := true, laidLooks := .later }
def FnUnxtextCardSaid : Prop := Claim7.holds Tryd.pinned (.plain (OpenSpec.ofChange fnUnxtextSpec)) fnUnxtextCard

/-- THE TIED CARD OF 'laws.FnReadCommand'. -/
def fnReadCommandCard : Claim7 := { stood := { row := fnReadCommandRow, standIns := [], harness := (true, "00850f4f1b54f15960deb4e1c18ae879645b75568f91b9572cb113badef7c105"), looks := true }, kinds := [], alts := [], laidByText := true, laidKinds := [.data, .listed, .data, .pinned, .pinned], laidTests := true, laidLooks := .later }
def FnReadCommandCardSaid : Prop := Claim7.holds Tryd.pinned (.plain (OpenSpec.ofChange fnReadCommandSpec)) fnReadCommandCard

/-- THE TIED CARD OF 'laws.FnSeqOf'. -/
def fnSeqOfCard : Claim7 := { stood := { row := fnSeqOfRow, standIns := [], harness := (true, "00850f4f1b54f15960deb4e1c18ae879645b75568f91b9572cb113badef7c105"), looks := true }, kinds := [], alts := [], laidByText := true, laidKinds := [.data, .data, .data, .sentinel, .sentinel], laidTests := true, laidLooks := .later }
def FnSeqOfCardSaid : Prop := Claim7.holds Tryd.pinned (.plain (OpenSpec.ofChange fnSeqOfSpec)) fnSeqOfCard

/-- THE SECOND FORM's CARD OF 'laws.FnSeqOne'. -/
def fnSeqOneUptoCard : Claim7 := { stood := { row := fnSeqOneUptoRow, standIns := [], harness := (true, "00850f4f1b54f15960deb4e1c18ae879645b75568f91b9572cb113badef7c105"), looks := true }, kinds := [], alts := [], laidByText := true, laidKinds := [.data, .data, .data], laidTests := true, laidLooks := .later }
def FnSeqOneUptoCardSaid : Prop := Claim7.holds Tryd.pinned (.plain (OpenSpec.upto fnSeqOneSpec)) fnSeqOneUptoCard

/-- THE SECOND FORM's CARD OF 'laws.FnCanonical'. -/
def fnCanonicalUptoCard : Claim7 := { stood := { row := fnCanonicalUptoRow, standIns := [], harness := (true, "00850f4f1b54f15960deb4e1c18ae879645b75568f91b9572cb113badef7c105"), looks := true }, kinds := [], alts := [], laidByText := true, laidKinds := [.data, .data, .data, .data, .pinned, .pinned], laidTests := true, laidLooks := .later }
def FnCanonicalUptoCardSaid : Prop := Claim7.holds Tryd.pinned (.plain (OpenSpec.upto fnCanonicalSpec)) fnCanonicalUptoCard

/-- THE SECOND FORM's CARD OF 'laws.FnFromUtf7'. -/
def fnFromUtf7UptoCard : Claim7 := { stood := { row := fnFromUtf7UptoRow, standIns := [], harness := (true, "00850f4f1b54f15960deb4e1c18ae879645b75568f91b9572cb113badef7c105"), looks := true }, kinds := [], alts := [], laidByText := true, laidKinds := [.sentinel, .sentinel, .sentinel], laidTests := true, laidLooks := .later }
def FnFromUtf7UptoCardSaid : Prop := Claim7.holds Tryd.pinned (.plain (OpenSpec.upto fnFromUtf7Spec)) fnFromUtf7UptoCard

/-- THE SECOND FORM's CARD OF 'laws.FnUnxtext'. -/
def fnUnxtextUptoCard : Claim7 := { stood := { row := fnUnxtextUptoRow, standIns := [], harness := (true, "00850f4f1b54f15960deb4e1c18ae879645b75568f91b9572cb113badef7c105"), looks := true }, kinds := [], alts := [], laidByText := true, laidKinds := [.data, .data, .data, .sentinel, .sentinel], laidTests := true, laidLooks := .later }
def FnUnxtextUptoCardSaid : Prop := Claim7.holds Tryd.pinned (.plain (OpenSpec.upto fnUnxtextSpec)) fnUnxtextUptoCard

/-- THE SECOND FORM's CARD OF 'laws.FnReadCommand'. -/
def fnReadCommandUptoCard : Claim7 := { stood := { row := fnReadCommandUptoRow, standIns := [], harness := (true, "00850f4f1b54f15960deb4e1c18ae879645b75568f91b9572cb113badef7c105"), looks := true }, kinds := [], alts := [], laidByText := true, laidKinds := [.data, .listed, .data, .pinned, .pinned], laidTests := true, laidLooks := .later }
def FnReadCommandUptoCardSaid : Prop := Claim7.holds Tryd.pinned (.plain (OpenSpec.upto fnReadCommandSpec)) fnReadCommandUptoCard

/-- THE SECOND FORM's CARD OF 'laws.FnSeqOf'. -/
def fnSeqOfUptoCard : Claim7 := { stood := { row := fnSeqOfUptoRow, standIns := [], harness := (true, "00850f4f1b54f15960deb4e1c18ae879645b75568f91b9572cb113badef7c105"), looks := true }, kinds := [], alts := [], laidByText := true, laidKinds := [.data, .data, .data, .sentinel, .sentinel], laidTests := true, laidLooks := .later }
def FnSeqOfUptoCardSaid : Prop := Claim7.holds Tryd.pinned (.plain (OpenSpec.upto fnSeqOfSpec)) fnSeqOfUptoCard
end Rows
end Go.Proofs.YtnokeaiemiiicaaDoor
