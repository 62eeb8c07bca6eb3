/- A text made of a row of runes that the call owns, in the print's form. -/
import Derived.Test.YtbjhmmiijebehaaDoorWWords
import Derived.Laws.Cover4
namespace Go.Proofs.YtbjhmmiijebehaaDoor.Own
open Go.RowKit Go.Proofs.YtbjhmmiijebehaaDoorW.PrintWords
set_option linter.unusedVariables false

theorem own_runes {P : Program} {w : World} {base n : Nat} {e' src dst e : TypeId} {v : Value} {xs : List Int} (hs : P.underlying src = some (.slice e)) (he : P.underlying e = some (.int .i32)) (hd : P.underlying dst = some .string)
    (h : w.ownsRow base e' 1 v n (nums .i32 xs)) : (convert src dst v).run P w = .ok (.string (runesBytes xs)) w := by
  have hl : xs.length = n := by have := h.1; simp [nums] at this; exact this
  rcases h.2 with ⟨rfl, rfl⟩ | ⟨g, cap, cur, rfl, _⟩
  · obtain rfl : xs = [] := List.eq_nil_of_length_eq_zero hl
    exact run_convert_runes_nil w src dst e 0 0 hs he hd
  · have hc := run_convert_runes w src dst e ⟨g, 0, none⟩ n cap xs (by omega) hs he hd (fun i hi => h.cells (g := g) rfl i (.int .i32 (xs.getD i 0)) (by simp [nums, List.getElem?_eq_getElem hi, List.getD_eq_getElem?_getD]))
    rw [List.take_of_length_le (by omega)] at hc
    exact hc
end Go.Proofs.YtbjhmmiijebehaaDoor.Own
