/-
  No cell of these rows narrows 'for every input' (looked for: loops, veiled, ifaces, maps, wideKeys, modest, calm, conditions, laid).
  DERIVED. THE GIVEN ROWS OF THIS SEAT. 6 by the template 'for every input the law returns true; each argument reads behind the call as it read before'; 0 by the template 'total and deterministic' (their statements: YtnokeaiemiiicaaTotals.lean).
  GIVEN WITH THE SEED: the statements are not yours to turn. If you find one false, say at which input.
  Laid BY PROGRAM, IN A SANDBOX (cutbox-rows.mjs): the forced cells as the released guide's own fill.sh prints them over the translation 6f8294dcb60e4bb2… (all of the seat's roots in one cut). By AI agents, Wed Nov 11 2026. No macro, syntax, notation, axiom, sorry.
-/
import Derived.Test.YtnokeaiemiiicaaChecked
import GoSem.Claim
import GoSem.ClaimJoined
import GoSem.ClaimMapViews
import Derived.JoinedTies
import Derived.KernelRfl
namespace Go.Proofs.Ytnokeaiemiiicaa
/- THE CELL 'sum', in the pinned program and in every row, IS THE sha256 OF THE DUMP (.gsa) THAT YtnokeaiemiiicaaProg.lean LOADS. Nothing in Lean hashes anything: it is a label: what it is worth is what the hold of that sum in a sandbox is worth. -/
noncomputable def Try.pinned : Pinned := { name := "ytnokeaiemiiicaa", sum := "6f8294dcb60e4bb2ebe2731b220d469e2b0897179ba8e473da5d2aec885d00e3", checked := Try.checked }
namespace Rows
def none {H : Type} : Left H := { results := [], args := [] }

/-- 'laws.FnExpandedItem': WHATEVER THE INPUT: true; the input reads as it did. -/
def fnExpandedItemSpec : ChangeSpec := { name := "fnExpandedItem", fn := fun _ => fun
  | [d] => { results := [.lit (.bool true)], args := [d] }
  | _ => none }
def fnExpandedItemRow : OpenClaim := { program := "ytnokeaiemiiicaa", sum := "6f8294dcb60e4bb2ebe2731b220d469e2b0897179ba8e473da5d2aec885d00e3", func := "given.example/pub-datestamp/laws.FnExpandedItem", spec := "fnExpandedItem", apart := false }
def FnExpandedItemSaid : Prop := fnExpandedItemRow.holds Try.pinned (OpenSpec.ofChange fnExpandedItemSpec)

/-- ITS FALSE NEIGHBOUR: 'it returns false'. Refute it at one input. -/
def fnExpandedItemWrong : ChangeSpec := { name := "fnExpandedItem", fn := fun _ => fun
  | [d] => { results := [.lit (.bool false)], args := [d] }
  | _ => none }
def FnExpandedItemWrongFalsely : Prop := fnExpandedItemRow.holds Try.pinned (OpenSpec.ofChange fnExpandedItemWrong)

/-- 'laws.FnNotify': WHATEVER THE INPUT: true; the input reads as it did. -/
def fnNotifySpec : ChangeSpec := { name := "fnNotify", fn := fun _ => fun
  | [d] => { results := [.lit (.bool true)], args := [d] }
  | _ => none }
def fnNotifyRow : OpenClaim := { program := "ytnokeaiemiiicaa", sum := "6f8294dcb60e4bb2ebe2731b220d469e2b0897179ba8e473da5d2aec885d00e3", func := "given.example/pub-datestamp/laws.FnNotify", spec := "fnNotify", apart := false }
def FnNotifySaid : Prop := fnNotifyRow.holds Try.pinned (OpenSpec.ofChange fnNotifySpec)

/-- ITS FALSE NEIGHBOUR: 'it returns false'. Refute it at one input. -/
def fnNotifyWrong : ChangeSpec := { name := "fnNotify", fn := fun _ => fun
  | [d] => { results := [.lit (.bool false)], args := [d] }
  | _ => none }
def FnNotifyWrongFalsely : Prop := fnNotifyRow.holds Try.pinned (OpenSpec.ofChange fnNotifyWrong)

/-- 'laws.FnExtracted': WHATEVER THE INPUT: true; the input reads as it did. -/
def fnExtractedSpec : ChangeSpec := { name := "fnExtracted", fn := fun _ => fun
  | [d1, d2, d3, d4] => { results := [.lit (.bool true)], args := [d1, d2, d3, d4] }
  | _ => none }
def fnExtractedRow : OpenClaim := { program := "ytnokeaiemiiicaa", sum := "6f8294dcb60e4bb2ebe2731b220d469e2b0897179ba8e473da5d2aec885d00e3", func := "given.example/pub-datestamp/laws.FnExtracted", spec := "fnExtracted", unfollowed := true, recurses := true, apart := false }
def FnExtractedSaid : Prop := fnExtractedRow.holds Try.pinned (OpenSpec.ofChange fnExtractedSpec)

/-- ITS FALSE NEIGHBOUR: 'it returns false'. Refute it at one input. -/
def fnExtractedWrong : ChangeSpec := { name := "fnExtracted", fn := fun _ => fun
  | [d1, d2, d3, d4] => { results := [.lit (.bool false)], args := [d1, d2, d3, d4] }
  | _ => none }
def FnExtractedWrongFalsely : Prop := fnExtractedRow.holds Try.pinned (OpenSpec.ofChange fnExtractedWrong)

/-- 'laws.FnFlagsItem': WHATEVER THE INPUT: true; the input reads as it did. -/
def fnFlagsItemSpec : ChangeSpec := { name := "fnFlagsItem", fn := fun _ => fun
  | [d] => { results := [.lit (.bool true)], args := [d] }
  | _ => none }
def fnFlagsItemRow : OpenClaim := { program := "ytnokeaiemiiicaa", sum := "6f8294dcb60e4bb2ebe2731b220d469e2b0897179ba8e473da5d2aec885d00e3", func := "given.example/pub-datestamp/laws.FnFlagsItem", spec := "fnFlagsItem", apart := false }
def FnFlagsItemSaid : Prop := fnFlagsItemRow.holds Try.pinned (OpenSpec.ofChange fnFlagsItemSpec)

/-- ITS FALSE NEIGHBOUR: 'it returns false'. Refute it at one input. -/
def fnFlagsItemWrong : ChangeSpec := { name := "fnFlagsItem", fn := fun _ => fun
  | [d] => { results := [.lit (.bool false)], args := [d] }
  | _ => none }
def FnFlagsItemWrongFalsely : Prop := fnFlagsItemRow.holds Try.pinned (OpenSpec.ofChange fnFlagsItemWrong)

/-- 'laws.FnUpdatedFlags': WHATEVER THE INPUT: true; the input reads as it did. -/
def fnUpdatedFlagsSpec : ChangeSpec := { name := "fnUpdatedFlags", fn := fun _ => fun
  | [d1, d2, d3] => { results := [.lit (.bool true)], args := [d1, d2, d3] }
  | _ => none }
def fnUpdatedFlagsRow : OpenClaim := { program := "ytnokeaiemiiicaa", sum := "6f8294dcb60e4bb2ebe2731b220d469e2b0897179ba8e473da5d2aec885d00e3", func := "given.example/pub-datestamp/laws.FnUpdatedFlags", spec := "fnUpdatedFlags", apart := false }
def FnUpdatedFlagsSaid : Prop := fnUpdatedFlagsRow.holds Try.pinned (OpenSpec.ofChange fnUpdatedFlagsSpec)

/-- ITS FALSE NEIGHBOUR: 'it returns false'. Refute it at one input. -/
def fnUpdatedFlagsWrong : ChangeSpec := { name := "fnUpdatedFlags", fn := fun _ => fun
  | [d1, d2, d3] => { results := [.lit (.bool false)], args := [d1, d2, d3] }
  | _ => none }
def FnUpdatedFlagsWrongFalsely : Prop := fnUpdatedFlagsRow.holds Try.pinned (OpenSpec.ofChange fnUpdatedFlagsWrong)

/-- 'laws.FnMailboxFits': WHATEVER THE INPUT: true; the input reads as it did. -/
def fnMailboxFitsSpec : ChangeSpec := { name := "fnMailboxFits", fn := fun _ => fun
  | [d1, d2, d3, d4] => { results := [.lit (.bool true)], args := [d1, d2, d3, d4] }
  | _ => none }
def fnMailboxFitsRow : OpenClaim := { program := "ytnokeaiemiiicaa", sum := "6f8294dcb60e4bb2ebe2731b220d469e2b0897179ba8e473da5d2aec885d00e3", func := "given.example/pub-datestamp/laws.FnMailboxFits", spec := "fnMailboxFits", recurses := true, apart := false }
def FnMailboxFitsSaid : Prop := fnMailboxFitsRow.holds Try.pinned (OpenSpec.ofChange fnMailboxFitsSpec)

/-- ITS FALSE NEIGHBOUR: 'it returns false'. Refute it at one input. -/
def fnMailboxFitsWrong : ChangeSpec := { name := "fnMailboxFits", fn := fun _ => fun
  | [d1, d2, d3, d4] => { results := [.lit (.bool false)], args := [d1, d2, d3, d4] }
  | _ => none }
def FnMailboxFitsWrongFalsely : Prop := fnMailboxFitsRow.holds Try.pinned (OpenSpec.ofChange fnMailboxFitsWrong)

/- THE SECOND FORM. 'bulk': how many values and letters a reading holds, each counted each time it is reached (what is shared counts as often as it is met; a slice's spare places count too). A statement '..UptoSaid' is the law's where the arguments, and the package variables that the reading takes, are together of bulk at most 1048576: NARROWER than '..Said'. Prove '..Said' where nothing that the law and all that it calls make is longer than what came in: it says more and counts as full. Else prove '..UptoSaid'. A law counts once. -/
mutual
def uptoBulk {H : Type} : DataW H → Nat
  | .lit (.string bytes) => bytes.length + 1
  | .lit _ => 1
  | .nil => 1
  | .ptr d => uptoBulk d + 1
  | .slice elems spare => uptoBulkAll elems + uptoBulkAll spare + 1
  | .agg parts => uptoBulkAll parts + 1
  | .iface _ d => uptoBulk d + 1
  | .map entries => uptoBulkEntries entries + 1
  | .held _ => 1
def uptoBulkAll {H : Type} : List (DataW H) → Nat
  | [] => 0
  | d :: r => uptoBulk d + uptoBulkAll r
def uptoBulkEntries {H : Type} : List (Lit × DataW H) → Nat
  | [] => 0
  | x :: r => uptoBulkEntry x + uptoBulkEntries r
def uptoBulkEntry {H : Type} : Lit × DataW H → Nat
  | (.string bytes, d) => bytes.length + uptoBulk d + 1
  | (_, d) => uptoBulk d + 1
 end
def uptoSmall : (H : Type) → List (DataW H) → Bool := fun _ ds => decide (uptoBulkAll ds ≤ 1048576)
def OpenSpec.upto (s : _root_.Go.ChangeSpec) : _root_.Go.OpenSpec := { _root_.Go.OpenSpec.ofChange s with cond := some uptoSmall }

/-- 'laws.FnExpandedItem', WHERE WHAT IT READS IS OF BULK AT MOST 1048576: true; the input reads as it did. -/
def fnExpandedItemUptoRow : OpenClaim := { program := "ytnokeaiemiiicaa", sum := "6f8294dcb60e4bb2ebe2731b220d469e2b0897179ba8e473da5d2aec885d00e3", func := "given.example/pub-datestamp/laws.FnExpandedItem", spec := "fnExpandedItem", apart := false, narrowed := true }
def FnExpandedItemUptoSaid : Prop := fnExpandedItemUptoRow.holds Try.pinned (OpenSpec.upto fnExpandedItemSpec)

/-- 'laws.FnNotify', WHERE WHAT IT READS IS OF BULK AT MOST 1048576: true; the input reads as it did. -/
def fnNotifyUptoRow : OpenClaim := { program := "ytnokeaiemiiicaa", sum := "6f8294dcb60e4bb2ebe2731b220d469e2b0897179ba8e473da5d2aec885d00e3", func := "given.example/pub-datestamp/laws.FnNotify", spec := "fnNotify", apart := false, narrowed := true }
def FnNotifyUptoSaid : Prop := fnNotifyUptoRow.holds Try.pinned (OpenSpec.upto fnNotifySpec)

/-- 'laws.FnExtracted', WHERE WHAT IT READS IS OF BULK AT MOST 1048576: true; the input reads as it did. -/
def fnExtractedUptoRow : OpenClaim := { program := "ytnokeaiemiiicaa", sum := "6f8294dcb60e4bb2ebe2731b220d469e2b0897179ba8e473da5d2aec885d00e3", func := "given.example/pub-datestamp/laws.FnExtracted", spec := "fnExtracted", unfollowed := true, recurses := true, apart := false, narrowed := true }
def FnExtractedUptoSaid : Prop := fnExtractedUptoRow.holds Try.pinned (OpenSpec.upto fnExtractedSpec)

/-- 'laws.FnFlagsItem', WHERE WHAT IT READS IS OF BULK AT MOST 1048576: true; the input reads as it did. -/
def fnFlagsItemUptoRow : OpenClaim := { program := "ytnokeaiemiiicaa", sum := "6f8294dcb60e4bb2ebe2731b220d469e2b0897179ba8e473da5d2aec885d00e3", func := "given.example/pub-datestamp/laws.FnFlagsItem", spec := "fnFlagsItem", apart := false, narrowed := true }
def FnFlagsItemUptoSaid : Prop := fnFlagsItemUptoRow.holds Try.pinned (OpenSpec.upto fnFlagsItemSpec)

/-- 'laws.FnUpdatedFlags', WHERE WHAT IT READS IS OF BULK AT MOST 1048576: true; the input reads as it did. -/
def fnUpdatedFlagsUptoRow : OpenClaim := { program := "ytnokeaiemiiicaa", sum := "6f8294dcb60e4bb2ebe2731b220d469e2b0897179ba8e473da5d2aec885d00e3", func := "given.example/pub-datestamp/laws.FnUpdatedFlags", spec := "fnUpdatedFlags", apart := false, narrowed := true }
def FnUpdatedFlagsUptoSaid : Prop := fnUpdatedFlagsUptoRow.holds Try.pinned (OpenSpec.upto fnUpdatedFlagsSpec)

/-- 'laws.FnMailboxFits', WHERE WHAT IT READS IS OF BULK AT MOST 1048576: true; the input reads as it did. -/
def fnMailboxFitsUptoRow : OpenClaim := { program := "ytnokeaiemiiicaa", sum := "6f8294dcb60e4bb2ebe2731b220d469e2b0897179ba8e473da5d2aec885d00e3", func := "given.example/pub-datestamp/laws.FnMailboxFits", spec := "fnMailboxFits", recurses := true, apart := false, narrowed := true }
def FnMailboxFitsUptoSaid : Prop := fnMailboxFitsUptoRow.holds Try.pinned (OpenSpec.upto fnMailboxFitsSpec)

end Rows
end Go.Proofs.Ytnokeaiemiiicaa
