/-
  NARROWER THAN 'FOR EVERY INPUT', by the rows' own cells (each row's printed sentence says how): FnFromUtf7: ifaces, laid · FnUtf7: ifaces, laid.
  DERIVED. THE GIVEN ROWS OF THIS SEAT. 2 by the template 'for every input the law returns true; each argument reads behind the call as it read before'; 0 by the template 'total and deterministic' (their statements: YtbjhmmiijebehaaDoorTotals.lean).
  GIVEN WITH THE SEED: the statements are not yours to turn. If you find one false, say at which input.
  Laid BY PROGRAM, IN A SANDBOX (cutbox-rows.mjs): the forced cells as the released guide's own fill.sh prints them over the translation 582d3bb73350081d… (all of the seat's roots in one cut). By AI agents, Wed Nov 11 2026. No macro, syntax, notation, axiom, sorry.
-/
import Derived.Test.YtbjhmmiijebehaaDoorChecked
import GoSem.PinnedTables
import GoSem.Claim
import GoSem.ClaimJoined
import GoSem.ClaimMapViews
import Derived.JoinedTies
import Derived.KernelRfl
namespace Go.Proofs.YtbjhmmiijebehaaDoor
/- THE CELL 'sum', in the pinned program and in every row, IS THE sha256 OF THE DUMP (.gsa) THAT YtbjhmmiijebehaaDoorProg.lean LOADS. Nothing in Lean hashes anything: it is a label: what it is worth is what the hold of that sum in a sandbox is worth. -/
noncomputable def Tryd.pinned : Pinned := { name := "ytbjhmmiijebehaadoor", sum := "582d3bb73350081d4830818b1a7fb8bc0cb3373fb9930d92b0205b7f74df20f7", checked := Tryd.checked }
namespace Rows
def none {H : Type} : Left H := { results := [], args := [] }

/- WHAT THE LISTED PACKAGE-LEVEL VARIABLES READ AS WHEN THE CALL BEGINS. Each datum BY PROGRAM (the guide's laid-datum.mjs) off the statement by which the dump's own 'gosem.cut.vars' lays the variable. In a bare row this is a premise. The card (YtbjhmmiijebehaaDoorCards.lean) ties it to the program's text. -/
def laid_given_example_pub_datestamp_pub_goimap_utf7_ErrInvalidUTF7 {H : Type} : DataW H := .iface "*errors.errorString" (.ptr (.agg [.lit (.string [117, 116, 102, 55, 58, 32, 105, 110, 118, 97, 108, 105, 100, 32, 85, 84, 70, 45, 55])]))
def laid_given_example_pub_datestamp_pub_goimap_utf7_errShortDst {H : Type} : DataW H := .iface "*errors.errorString" (.ptr (.agg [.lit (.string [116, 114, 97, 110, 115, 102, 111, 114, 109, 58, 32, 115, 104, 111, 114, 116, 32, 100, 101, 115, 116, 105, 110, 97, 116, 105, 111, 110, 32, 98, 117, 102, 102, 101, 114])]))
def laid_given_example_pub_datestamp_pub_goimap_utf7_errShortSrc {H : Type} : DataW H := .iface "*errors.errorString" (.ptr (.agg [.lit (.string [116, 114, 97, 110, 115, 102, 111, 114, 109, 58, 32, 115, 104, 111, 114, 116, 32, 115, 111, 117, 114, 99, 101, 32, 98, 117, 102, 102, 101, 114])]))
def laid_unicode_utf8_acceptRanges {H : Type} : DataW H := .agg [.agg [.lit (.int .u8 128), .lit (.int .u8 191)], .agg [.lit (.int .u8 160), .lit (.int .u8 191)], .agg [.lit (.int .u8 128), .lit (.int .u8 159)], .agg [.lit (.int .u8 144), .lit (.int .u8 191)], .agg [.lit (.int .u8 128), .lit (.int .u8 143)], .agg [.lit (.int .u8 0), .lit (.int .u8 0)], .agg [.lit (.int .u8 0), .lit (.int .u8 0)], .agg [.lit (.int .u8 0), .lit (.int .u8 0)], .agg [.lit (.int .u8 0), .lit (.int .u8 0)], .agg [.lit (.int .u8 0), .lit (.int .u8 0)], .agg [.lit (.int .u8 0), .lit (.int .u8 0)], .agg [.lit (.int .u8 0), .lit (.int .u8 0)], .agg [.lit (.int .u8 0), .lit (.int .u8 0)], .agg [.lit (.int .u8 0), .lit (.int .u8 0)], .agg [.lit (.int .u8 0), .lit (.int .u8 0)], .agg [.lit (.int .u8 0), .lit (.int .u8 0)]]
/-- One of Go's own tables, pinned by name: the form's constant. -/
def laid_unicode_utf8_first : DataW Unit := Go.Pinned.utf8First

/-- 'laws.FnFromUtf7': WHATEVER THE INPUT: true; the input reads as it did. -/
def fnFromUtf7Spec : ChangeSpec := { name := "fnFromUtf7", vars := ["given.example/pub-datestamp/pub/goimap/utf7.ErrInvalidUTF7", "given.example/pub-datestamp/pub/goimap/utf7.errShortDst", "given.example/pub-datestamp/pub/goimap/utf7.errShortSrc"], fn := fun _ => fun
  | [d, g1, g2, g3] => { results := [.lit (.bool true)], args := [d], vars := [g1, g2, g3] }
  | _ => none }
def fnFromUtf7Row : OpenClaim := { program := "ytbjhmmiijebehaadoor", sum := "582d3bb73350081d4830818b1a7fb8bc0cb3373fb9930d92b0205b7f74df20f7", func := "given.example/pub-datestamp/laws.FnFromUtf7", spec := "fnFromUtf7", named := ["given.example/pub-datestamp/pub/goimap/utf7.ErrInvalidUTF7", "given.example/pub-datestamp/pub/goimap/utf7.errShortDst", "given.example/pub-datestamp/pub/goimap/utf7.errShortSrc"], ifaces := true, apart := false, laid := [("given.example/pub-datestamp/pub/goimap/utf7.ErrInvalidUTF7", laid_given_example_pub_datestamp_pub_goimap_utf7_ErrInvalidUTF7), ("given.example/pub-datestamp/pub/goimap/utf7.errShortDst", laid_given_example_pub_datestamp_pub_goimap_utf7_errShortDst), ("given.example/pub-datestamp/pub/goimap/utf7.errShortSrc", laid_given_example_pub_datestamp_pub_goimap_utf7_errShortSrc)] }
def FnFromUtf7Said : Prop := fnFromUtf7Row.holds Tryd.pinned (OpenSpec.ofChange fnFromUtf7Spec)

/-- ITS FALSE NEIGHBOUR: 'it returns false'. Refute it at one input. -/
def fnFromUtf7Wrong : ChangeSpec := { name := "fnFromUtf7", vars := ["given.example/pub-datestamp/pub/goimap/utf7.ErrInvalidUTF7", "given.example/pub-datestamp/pub/goimap/utf7.errShortDst", "given.example/pub-datestamp/pub/goimap/utf7.errShortSrc"], fn := fun _ => fun
  | [d, g1, g2, g3] => { results := [.lit (.bool false)], args := [d], vars := [g1, g2, g3] }
  | _ => none }
def FnFromUtf7WrongFalsely : Prop := fnFromUtf7Row.holds Tryd.pinned (OpenSpec.ofChange fnFromUtf7Wrong)

/-- 'laws.FnUtf7': WHATEVER THE INPUT: true; the input reads as it did. -/
def fnUtf7Spec : ChangeSpec := { name := "fnUtf7", vars := ["given.example/pub-datestamp/pub/goimap/utf7.errShortSrc", "given.example/pub-datestamp/pub/goimap/utf7.errShortDst", "given.example/pub-datestamp/pub/goimap/utf7.ErrInvalidUTF7"], fn := fun _ => fun
  | [d, g1, g2, g3] => { results := [.lit (.bool true)], args := [d], vars := [g1, g2, g3] }
  | _ => none }
def fnUtf7Row : OpenClaim := { program := "ytbjhmmiijebehaadoor", sum := "582d3bb73350081d4830818b1a7fb8bc0cb3373fb9930d92b0205b7f74df20f7", func := "given.example/pub-datestamp/laws.FnUtf7", spec := "fnUtf7", unfollowed := true, recurses := true, named := ["given.example/pub-datestamp/pub/goimap/utf7.errShortSrc", "given.example/pub-datestamp/pub/goimap/utf7.errShortDst", "unicode/utf8.first", "unicode/utf8.acceptRanges", "given.example/pub-datestamp/pub/goimap/utf7.ErrInvalidUTF7"], ifaces := true, apart := false, laid := [("unicode/utf8.acceptRanges", laid_unicode_utf8_acceptRanges), ("given.example/pub-datestamp/pub/goimap/utf7.ErrInvalidUTF7", laid_given_example_pub_datestamp_pub_goimap_utf7_ErrInvalidUTF7), ("given.example/pub-datestamp/pub/goimap/utf7.errShortDst", laid_given_example_pub_datestamp_pub_goimap_utf7_errShortDst), ("given.example/pub-datestamp/pub/goimap/utf7.errShortSrc", laid_given_example_pub_datestamp_pub_goimap_utf7_errShortSrc), ("unicode/utf8.first", laid_unicode_utf8_first)] }
def FnUtf7Said : Prop := fnUtf7Row.holds Tryd.pinned (OpenSpec.ofChange fnUtf7Spec)

/-- ITS FALSE NEIGHBOUR: 'it returns false'. Refute it at one input. -/
def fnUtf7Wrong : ChangeSpec := { name := "fnUtf7", vars := ["given.example/pub-datestamp/pub/goimap/utf7.errShortSrc", "given.example/pub-datestamp/pub/goimap/utf7.errShortDst", "given.example/pub-datestamp/pub/goimap/utf7.ErrInvalidUTF7"], fn := fun _ => fun
  | [d, g1, g2, g3] => { results := [.lit (.bool false)], args := [d], vars := [g1, g2, g3] }
  | _ => none }
def FnUtf7WrongFalsely : Prop := fnUtf7Row.holds Tryd.pinned (OpenSpec.ofChange fnUtf7Wrong)

/- THE SECOND FORM. 'bulk': how many values and letters a reading holds, each counted each time it is reached (what is shared counts as often as it is met; a slice's spare places count too). A statement '..UptoSaid' is the law's where the arguments, and the package variables that the reading takes, are together of bulk at most 1048576: NARROWER than '..Said'. Prove '..Said' where nothing that the law and all that it calls make is longer than what came in: it says more and counts as full. Else prove '..UptoSaid'. A law counts once. -/
mutual
def uptoBulk {H : Type} : DataW H → Nat
  | .lit (.string bytes) => bytes.length + 1
  | .lit _ => 1
  | .nil => 1
  | .ptr d => uptoBulk d + 1
  | .slice elems spare => uptoBulkAll elems + uptoBulkAll spare + 1
  | .agg parts => uptoBulkAll parts + 1
  | .iface _ d => uptoBulk d + 1
  | .map entries => uptoBulkEntries entries + 1
  | .held _ => 1
def uptoBulkAll {H : Type} : List (DataW H) → Nat
  | [] => 0
  | d :: r => uptoBulk d + uptoBulkAll r
def uptoBulkEntries {H : Type} : List (Lit × DataW H) → Nat
  | [] => 0
  | x :: r => uptoBulkEntry x + uptoBulkEntries r
def uptoBulkEntry {H : Type} : Lit × DataW H → Nat
  | (.string bytes, d) => bytes.length + uptoBulk d + 1
  | (_, d) => uptoBulk d + 1
 end
def uptoSmall : (H : Type) → List (DataW H) → Bool := fun _ ds => decide (uptoBulkAll ds ≤ 1048576)
def OpenSpec.upto (s : _root_.Go.ChangeSpec) : _root_.Go.OpenSpec := { _root_.Go.OpenSpec.ofChange s with cond := some uptoSmall }

/-- 'laws.FnFromUtf7', WHERE WHAT IT READS IS OF BULK AT MOST 1048576: true; the input reads as it did. -/
def fnFromUtf7UptoRow : OpenClaim := { program := "ytbjhmmiijebehaadoor", sum := "582d3bb73350081d4830818b1a7fb8bc0cb3373fb9930d92b0205b7f74df20f7", func := "given.example/pub-datestamp/laws.FnFromUtf7", spec := "fnFromUtf7", named := ["given.example/pub-datestamp/pub/goimap/utf7.ErrInvalidUTF7", "given.example/pub-datestamp/pub/goimap/utf7.errShortDst", "given.example/pub-datestamp/pub/goimap/utf7.errShortSrc"], ifaces := true, apart := false, laid := [("given.example/pub-datestamp/pub/goimap/utf7.ErrInvalidUTF7", laid_given_example_pub_datestamp_pub_goimap_utf7_ErrInvalidUTF7), ("given.example/pub-datestamp/pub/goimap/utf7.errShortDst", laid_given_example_pub_datestamp_pub_goimap_utf7_errShortDst), ("given.example/pub-datestamp/pub/goimap/utf7.errShortSrc", laid_given_example_pub_datestamp_pub_goimap_utf7_errShortSrc)], narrowed := true }
def FnFromUtf7UptoSaid : Prop := fnFromUtf7UptoRow.holds Tryd.pinned (OpenSpec.upto fnFromUtf7Spec)

/-- 'laws.FnUtf7', WHERE WHAT IT READS IS OF BULK AT MOST 1048576: true; the input reads as it did. -/
def fnUtf7UptoRow : OpenClaim := { program := "ytbjhmmiijebehaadoor", sum := "582d3bb73350081d4830818b1a7fb8bc0cb3373fb9930d92b0205b7f74df20f7", func := "given.example/pub-datestamp/laws.FnUtf7", spec := "fnUtf7", unfollowed := true, recurses := true, named := ["given.example/pub-datestamp/pub/goimap/utf7.errShortSrc", "given.example/pub-datestamp/pub/goimap/utf7.errShortDst", "unicode/utf8.first", "unicode/utf8.acceptRanges", "given.example/pub-datestamp/pub/goimap/utf7.ErrInvalidUTF7"], ifaces := true, apart := false, laid := [("unicode/utf8.acceptRanges", laid_unicode_utf8_acceptRanges), ("given.example/pub-datestamp/pub/goimap/utf7.ErrInvalidUTF7", laid_given_example_pub_datestamp_pub_goimap_utf7_ErrInvalidUTF7), ("given.example/pub-datestamp/pub/goimap/utf7.errShortDst", laid_given_example_pub_datestamp_pub_goimap_utf7_errShortDst), ("given.example/pub-datestamp/pub/goimap/utf7.errShortSrc", laid_given_example_pub_datestamp_pub_goimap_utf7_errShortSrc), ("unicode/utf8.first", laid_unicode_utf8_first)], narrowed := true }
def FnUtf7UptoSaid : Prop := fnUtf7UptoRow.holds Tryd.pinned (OpenSpec.upto fnUtf7Spec)

end Rows
end Go.Proofs.YtbjhmmiijebehaaDoor
