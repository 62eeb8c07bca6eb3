/- strings.Builder's writers: the shelf's contracts, laid over the closure of strings.ToUpper (the shelf's tool does not lay them here: the refused end of copyCheck names no type). -/
import Derived.Test.YtoeggcckcnlllaaDoorShelf
namespace Go.Proofs.YtoeggcckcnlllaaDoor.Own
open Go.RowKit
set_option linter.unusedVariables false

theorem bld_rune (B b : Nat) (bs : List Value) (r : Int) (hr0 : -2147483648 ≤ r) (hr1 : r ≤ 2147483647) (w : World) (h : Lib.IsBuilderF 45 5 B b bs w) (hlen : bs.length + 4 ≤ 140737488355328) (hBw : B ≤ w.heap.size) :
    Calls Tryd.prog 22 #[.pointer (some ⟨b, 0, none⟩), .int .i32 r] w fun e w' => e = .returned (.tuple #[.int .i64 (Lib.runeCells r).length, .nilIface]) ∧ (Lib.BuilderAtF 45 5 B b (.pointer (some ⟨b, 0, none⟩)) (bs ++ Lib.runeCells r) w' ∧ Below B w w' ∧ Lib.OthersKept 5 (some b) w w') :=
  Any.Builder_WriteRune_k { Tryd.lays158 with } Tryd.Builder_Extra_158 B b bs r hr0 hr1 w h hlen hBw
theorem bld_str (B b : Nat) (bs : List Value) (s : ByteArray) (w : World) (h : Lib.IsBuilderF 45 5 B b bs w) (hlen : bs.length + s.size ≤ 140737488355328) (hBw : B ≤ w.heap.size) :
    Calls Tryd.prog 23 #[.pointer (some ⟨b, 0, none⟩), .string s] w fun e w' => e = .returned (.tuple #[.int .i64 s.size, .nilIface]) ∧ (Lib.BuilderAtF 45 5 B b (.pointer (some ⟨b, 0, none⟩)) (bs ++ Lib.strCells s) w' ∧ Below B w w' ∧ Lib.OthersKept 5 (some b) w w') :=
  Any.Builder_WriteString_k { Tryd.lays158 with } Tryd.Builder_Extra_158 B b bs s w h hlen hBw
theorem bld_byte (B b : Nat) (bs : List Value) (c : Int) (w : World) (h : Lib.IsBuilderF 45 5 B b bs w) (hlen : bs.length + 1 ≤ 140737488355328) (hBw : B ≤ w.heap.size) :
    Calls Tryd.prog 34 #[.pointer (some ⟨b, 0, none⟩), .int .u8 c] w fun e w' => e = .returned .nilIface ∧ (Lib.BuilderAtF 45 5 B b (.pointer (some ⟨b, 0, none⟩)) (bs ++ [.int .u8 c]) w' ∧ Below B w w' ∧ Lib.OthersKept 5 (some b) w w') :=
  Any.Builder_WriteByte_k { Tryd.lays158 with } Tryd.Builder_Extra_158 B b bs c w h hlen hBw
end Go.Proofs.YtoeggcckcnlllaaDoor.Own
