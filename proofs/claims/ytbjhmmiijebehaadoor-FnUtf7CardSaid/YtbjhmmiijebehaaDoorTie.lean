/-
  DERIVED. GIVEN WITH THE SEED: THE PROGRAM's TIES (one call each: nine closed facts by the kernel) AND EACH ROW's TIE, after the 31st guide's Derived/Test/Toyas{Tie, Card}.lean. No idea stands in it: it is a product of the set-up. Laid BY PROGRAM, IN A SANDBOX (cutbox-door.mjs). By AI agents, Wed Nov 11 2026. No macro, syntax, notation, axiom, sorry.
-/
import Derived.Test.YtbjhmmiijebehaaDoorRows
import Derived.LaidByTextLater
import Derived.SevenTiedAt
import Derived.LaidSub
import Derived.LaidOnce
namespace Go.Proofs.YtbjhmmiijebehaaDoor
open Go
set_option maxRecDepth 100000
theorem seatTie1 : Tryd.prog.laidByTextLater [("unicode/utf8.acceptRanges", Rows.laid_unicode_utf8_acceptRanges), ("given.example/pub-datestamp/pub/goimap/utf7.ErrInvalidUTF7", Rows.laid_given_example_pub_datestamp_pub_goimap_utf7_ErrInvalidUTF7), ("given.example/pub-datestamp/pub/goimap/utf7.errShortDst", Rows.laid_given_example_pub_datestamp_pub_goimap_utf7_errShortDst), ("given.example/pub-datestamp/pub/goimap/utf7.errShortSrc", Rows.laid_given_example_pub_datestamp_pub_goimap_utf7_errShortSrc)] [.data, .sentinel, .sentinel, .sentinel] true :=
  Program.laidByTextLater_by_one 76 8 33 (by kernel_rfl) (by kernel_rfl) (by kernel_rfl) (by kernel_rfl) (by kernel_rfl) (by kernel_rfl) (fun _ _ => by kernel_rfl)
theorem pin_laid_unicode_utf8_first : Tryd.pinned.checked.prog.pinnedFits "unicode/utf8.first" = true := by kernel_rfl
theorem noOwnUnsafe : Tryd.pinned.checked.prog.headLifts.contains "ownunsafe" = false := by kernel_rfl
theorem tie : Tryd.prog.laidByTextLater [("given.example/pub-datestamp/pub/goimap/utf7.ErrInvalidUTF7", Rows.laid_given_example_pub_datestamp_pub_goimap_utf7_ErrInvalidUTF7), ("given.example/pub-datestamp/pub/goimap/utf7.errShortDst", Rows.laid_given_example_pub_datestamp_pub_goimap_utf7_errShortDst), ("given.example/pub-datestamp/pub/goimap/utf7.errShortSrc", Rows.laid_given_example_pub_datestamp_pub_goimap_utf7_errShortSrc)] [.sentinel, .sentinel, .sentinel] true :=
  Program.laidByTextLater.sub seatTie1 ["given.example/pub-datestamp/pub/goimap/utf7.ErrInvalidUTF7", "given.example/pub-datestamp/pub/goimap/utf7.errShortDst", "given.example/pub-datestamp/pub/goimap/utf7.errShortSrc"] (by kernel_rfl) (by kernel_rfl)
theorem fnFromUtf7_row_tie : Rows.fnFromUtf7Row.laidByTextAt .later Tryd.pinned [.sentinel, .sentinel, .sentinel] true :=
  OpenClaim.laidByTextAt_later rfl rfl tie noOwnUnsafe
theorem fits2 : Tryd.pinned.checked.prog.listedFits [("unicode/utf8.acceptRanges", Rows.laid_unicode_utf8_acceptRanges), ("given.example/pub-datestamp/pub/goimap/utf7.ErrInvalidUTF7", Rows.laid_given_example_pub_datestamp_pub_goimap_utf7_ErrInvalidUTF7), ("given.example/pub-datestamp/pub/goimap/utf7.errShortDst", Rows.laid_given_example_pub_datestamp_pub_goimap_utf7_errShortDst), ("given.example/pub-datestamp/pub/goimap/utf7.errShortSrc", Rows.laid_given_example_pub_datestamp_pub_goimap_utf7_errShortSrc), ("unicode/utf8.first", Rows.laid_unicode_utf8_first)] = true := by
  unfold Program.listedFits
  rw [noOwnUnsafe]
  kernel_rfl
theorem tie2 : Tryd.prog.laidByTextLater [("unicode/utf8.acceptRanges", Rows.laid_unicode_utf8_acceptRanges), ("given.example/pub-datestamp/pub/goimap/utf7.ErrInvalidUTF7", Rows.laid_given_example_pub_datestamp_pub_goimap_utf7_ErrInvalidUTF7), ("given.example/pub-datestamp/pub/goimap/utf7.errShortDst", Rows.laid_given_example_pub_datestamp_pub_goimap_utf7_errShortDst), ("given.example/pub-datestamp/pub/goimap/utf7.errShortSrc", Rows.laid_given_example_pub_datestamp_pub_goimap_utf7_errShortSrc)] [.data, .sentinel, .sentinel, .sentinel] true :=
  Program.laidByTextLater.sub seatTie1 ["unicode/utf8.acceptRanges", "given.example/pub-datestamp/pub/goimap/utf7.ErrInvalidUTF7", "given.example/pub-datestamp/pub/goimap/utf7.errShortDst", "given.example/pub-datestamp/pub/goimap/utf7.errShortSrc"] (by kernel_rfl) (by kernel_rfl)
theorem fnUtf7_row_tie : Rows.fnUtf7Row.laidByTextAt .later Tryd.pinned [.data, .sentinel, .sentinel, .sentinel, .pinned] true :=
  OpenClaim.laidByTextAt_pinned rfl rfl tie2 rfl rfl rfl rfl (fun y hy _e => by
    simp only [Rows.fnUtf7Row, List.zip_cons_cons, List.zip_nil_right, List.mem_cons, List.mem_nil_iff, or_false] at hy
    rcases hy with rfl | rfl | rfl | rfl | rfl
    · cases _e
    · cases _e
    · cases _e
    · cases _e
    · exact ⟨pin_laid_unicode_utf8_first, by kernel_rfl⟩) fits2
theorem fnFromUtf7Upto_row_tie : Rows.fnFromUtf7UptoRow.laidByTextAt .later Tryd.pinned [.sentinel, .sentinel, .sentinel] true :=
  OpenClaim.laidByTextAt_later rfl rfl tie noOwnUnsafe
theorem fnUtf7Upto_row_tie : Rows.fnUtf7UptoRow.laidByTextAt .later Tryd.pinned [.data, .sentinel, .sentinel, .sentinel, .pinned] true :=
  OpenClaim.laidByTextAt_pinned rfl rfl tie2 rfl rfl rfl rfl (fun y hy _e => by
    simp only [Rows.fnUtf7UptoRow, List.zip_cons_cons, List.zip_nil_right, List.mem_cons, List.mem_nil_iff, or_false] at hy
    rcases hy with rfl | rfl | rfl | rfl | rfl
    · cases _e
    · cases _e
    · cases _e
    · cases _e
    · exact ⟨pin_laid_unicode_utf8_first, by kernel_rfl⟩) fits2
end Go.Proofs.YtbjhmmiijebehaaDoor
