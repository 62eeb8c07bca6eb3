/- How ranges are written, as callees of a printed text: impl.SeqText and spec.SeqText9, under the table that the library reads. -/
import Derived.Test.YtnokeaiemiiicaaDoorSeqText9
namespace Go.Proofs.YtnokeaiemiiicaaDoor.Own
open Go.RowKit Go.Lib
set_option linter.unusedVariables false

/-- What the callees ask of the world: the table of powers reads as laid, here and behind whatever this call makes. -/
def Env (w : World) : Prop := TabB w
theorem Env.all {w : World} (h : Env w) : ∀ W, Below w.heap.size w W → Env W := fun W hb W2 h2 => h W2 (hb.trans (h2.mono hb.size))
def small32 (a b : Int) : Prop := 0 ≤ a ∧ a < 4294967296 ∧ 0 ≤ b ∧ b < 4294967296
instance (a b : Int) : Decidable (small32 a b) := by unfold small32; infer_instance
def impl_SeqText.f (a b : Int) : Option ByteArray := if small32 a b then some ⟨(seqL a.toNat b.toNat).toArray⟩ else none
def spec_SeqText9.f (a b : Int) : Option ByteArray := if small32 a b then some ⟨(text9L a.toNat b.toNat).toArray⟩ else none
theorem impl_SeqText.calls (a b : Int) (r : ByteArray) (w : World) (h : impl_SeqText.f a b = some r) (henv : Env w) :
    Calls Tryd.prog 15 #[.agg #[.int .u32 a, .int .u32 b]] w fun e w' => e = .returned (.string r) ∧ Below w.heap.size w w' := by
  unfold impl_SeqText.f at h
  by_cases hs : small32 a b
  · rw [if_pos hs] at h
    obtain ⟨h1, h2, h3, h4⟩ := hs
    obtain rfl := Option.some.inj h
    have := seqText_any a.toNat b.toNat (by omega) (by omega) w henv
    rw [Int.toNat_of_nonneg h1, Int.toNat_of_nonneg h3] at this
    exact this
  · rw [if_neg hs] at h; cases h
theorem spec_SeqText9.calls (a b : Int) (r : ByteArray) (w : World) (h : spec_SeqText9.f a b = some r) :
    Calls Tryd.prog 16 #[.agg #[.int .u32 a, .int .u32 b]] w fun e w' => e = .returned (.string r) ∧ Below w.heap.size w w' := by
  unfold spec_SeqText9.f at h
  by_cases hs : small32 a b
  · rw [if_pos hs] at h
    obtain ⟨h1, h2, h3, h4⟩ := hs
    obtain rfl := Option.some.inj h
    have := seqText9_any a.toNat b.toNat (by omega) (by omega) w
    rw [Int.toNat_of_nonneg h1, Int.toNat_of_nonneg h3] at this
    exact this
  · rw [if_neg hs] at h; cases h
end Go.Proofs.YtnokeaiemiiicaaDoor.Own
