/- Rows of texts that a call owns: to read them, to cut them, to set one, to append one. -/
import Derived.Test.YtnokeaiemiiicaaProg
import Derived.Test.YtnokeaiemiiicaaPlain
import Derived.WalkKit
import Derived.Deep.Onto
import Derived.KernelRfl
import Derived.OwnWalk
import Derived.ArgAppend
import Derived.Laws.OwnMore
import Derived.Laws.AppendOwnNone
import Derived.Deep.AppendLies
import Derived.Below
namespace Go.Proofs.Ytnokeaiemiiicaa.Own
open Go.RowKit
set_option linter.unusedVariables false
set_option linter.unusedSimpArgs false

theorem info_str : (Try.prog.info? 9).map (fun i => (i.zero, i.size, i.bytes)) = some (some (.string ⟨#[]⟩), 1, 16) := by kernel_rfl

/-- The row g holds (at least) X, from its head; its slice's capacity is cap. -/
def RowS (w : World) (base g cap : Nat) (X : List ByteArray) : Prop := w.ownsRow base 9 1 (.slice (some ⟨g, 0, none⟩) X.length cap) X.length (X.map Value.string)

theorem RowS.len_cap {w : World} {base g cap : Nat} {X : List ByteArray} (h : RowS w base g cap X) : X.length ≤ cap := by
  rcases h.2 with ⟨h', _⟩ | ⟨g', cap', cur, h', _, hg, hc, _⟩
  · simp at h'
  · simp only [Value.slice.injEq, Option.some.injEq, Addr.mk.injEq, and_true, true_and] at h'
    obtain ⟨rfl, rfl⟩ := h'
    exact hc
theorem RowS.lt {w : World} {base g cap : Nat} {X : List ByteArray} (h : RowS w base g cap X) : base ≤ g ∧ g < w.heap.size := World.ownsRow.lt h g rfl
theorem RowS.cell {w : World} {base g cap : Nat} {X : List ByteArray} (h : RowS w base g cap X) (j : Nat) (hj : j < X.length) : w.cell? ⟨g, j, none⟩ = some (.string (X.getD j ByteArray.empty)) := by
  rw [World.ownsRow.cellAt h j (by omega)]
  simp [List.getElem?_eq_getElem hj, List.getD_eq_getElem?_getD]
theorem RowS.mono {w : World} {base base' g cap : Nat} {X : List ByteArray} (h : RowS w base g cap X) (hb : base' ≤ base) : RowS w base' g cap X := by
  refine ⟨h.1, ?_⟩
  rcases h.2 with ⟨h', _⟩ | ⟨g', cap', cur, h', hb', rest⟩
  · simp at h'
  · exact .inr ⟨g', cap', cur, h', Nat.le_trans hb hb', rest⟩
theorem RowS.take {w : World} {base g cap : Nat} {X : List ByteArray} (h : RowS w base g cap X) (k : Nat) (hk : k ≤ X.length) : RowS w base g cap (X.take k) := by
  have hl : (X.take k).length = k := by rw [List.length_take]; omega
  refine ⟨by simp, ?_⟩
  rcases h.2 with ⟨h', _⟩ | ⟨g', cap', cur, h', hb', hg, hc, hm, hs, ht⟩
  · simp at h'
  · simp only [Value.slice.injEq, Option.some.injEq, Addr.mk.injEq, and_true, true_and] at h'
    obtain ⟨rfl, rfl⟩ := h'
    refine .inr ⟨g, cap, cur, rfl, hb', hg, by omega, hm, hs, ?_⟩
    rw [hl, List.map_take, ← ht, List.take_take]
    congr 1
    omega
theorem RowS.prefix {w : World} {base g cap : Nat} {X Y : List ByteArray} (h : RowS w base g cap X) (hp : Y <+: X) : RowS w base g cap Y := by
  obtain ⟨t, rfl⟩ := hp
  have := h.take Y.length (by simp)
  rwa [List.take_left] at this
theorem RowS.kept {w w' : World} {base g cap : Nat} {X : List ByteArray} {row : Option Nat} (h : RowS w base g cap X) (hg : w.grownBy w' row) (hne : some g ≠ row) : RowS w' base g cap X := World.ownsRow.kept h hg (.inr hne)
theorem RowS.alloc {w : World} {base g cap : Nat} {X : List ByteArray} (h : RowS w base g cap X) (o : Obj) : RowS (w.alloc o) base g cap X := World.ownsRow.alloc h o
theorem RowS.set {w : World} {base g cap : Nat} {X : List ByteArray} (h : RowS w base g cap X) (j : Nat) (u : ByteArray) : RowS (w.setCell ⟨g, j, none⟩ (.string u)) base g cap (X.set j u) := by
  have := (World.ownsRow.stored h j (.string u)).1
  unfold RowS
  rw [List.length_set, List.map_set]
  exact this
theorem RowS.of {w : World} {base : Nat} {v : Value} {X : List ByteArray} (h : w.ownsRow base 9 1 v X.length (X.map Value.string)) (hv : v ≠ .slice none 0 0) : ∃ g cap, v = .slice (some ⟨g, 0, none⟩) X.length cap ∧ RowS w base g cap X := by
  rcases h.2 with ⟨h', _⟩ | ⟨g, cap, cur, h', rest⟩
  · exact absurd h' hv
  · refine ⟨g, cap, h', ?_⟩
    rw [h'] at h
    exact h

/-- One text more, in place or in a new row. -/
theorem wpList_append_one (w : World) {ops : Array Oper} {rest : List Oper} {o : Oper} {a : Act} {Q : Exit → Act → World → Prop}
    (hg : o.guard = none) (s x : Operand) (t : TypeId) (hop : o.op = Op.call { callee := Callee.builtin Builtin.append, args := #[s, x], argTypes := #[t, t] })
    (h1 : Try.prog.underlying t = some (.slice 9))
    (base g cap : Nat) (X : List ByteArray) (n : Nat) (hn : n = X.length) (hs : a.eval s = .slice (some ⟨g, 0, none⟩) n cap) (hown : RowS w base g cap X)
    (ad : Addr) (u : ByteArray) (hx : a.eval x = .slice (some ad) 1 1) (hc : w.cell? ad = some (.string u))
    (b1 : X.length ≤ 1000000) (hbase : base ≤ w.heap.size)
    (hK : ∀ g' cap' w', RowS w' base g' cap' (X ++ [u]) → ((g' = g ∧ cap' = cap ∧ w.grownBy w' (some g)) ∨ (w.heap.size ≤ g' ∧ w.grownBy w' none)) → wpList Try.prog ops Q rest (a.put o.dst (.slice (some ⟨g', 0, none⟩) (n + 1) cap')) w') :
    wpList Try.prog ops Q (o :: rest) a w := by
  subst hn
  obtain ⟨i0, hi, hz0, hz1, hz2⟩ := info_parts info_str
  have hcell : ∀ j v, [Value.string u][j]? = some v → w.cell? (ad.add j) = some v := fun j v hj => by
    match j, hj with
    | 0, hj =>
      simp at hj
      subst hj
      rw [Addr.add, if_pos rfl]
      exact hc
  have hone : ∀ v ∈ [Value.string u], v.oneCell' = true := by intro v hv; simp at hv; subst hv; rfl
  by_cases hr : X.length + 1 ≤ cap
  · refine wpList_append_fits w hg s x t hop base 9 i0 1 h1 hi hz1 g X.length cap (X.map Value.string) hs hown ad 1 1 [.string u] hx rfl hcell hone hr ?_
    intro w' h2 h3
    refine hK g cap w' ?_ (.inl ⟨rfl, rfl, h3⟩)
    unfold RowS
    rw [List.length_append, List.map_append]
    exact h2
  · refine wpList_append_grows w hg s x t hop 9 i0 (.string ⟨#[]⟩) 1 16 h1 hi hz0 hz1 hz2 rfl (by decide) (some ⟨g, 0, none⟩) X.length cap (X.map Value.string) hs (by simp) (by simp)
      (fun b hb j v hj => by cases hb; exact World.ownsRow.cells (g := g) hown rfl j v hj) ad 1 1 [.string u] hx rfl hcell hone (by omega) (by unfold maxLen; omega) (by omega) ?_
    intro v' w' h2 h3
    obtain ⟨g', cap', rfl, hgb, hlt⟩ := h2.form (by omega)
    refine hK g' cap' w' ?_ (.inr ⟨hgb, h3⟩)
    have h2' := World.ownsRow.mono h2 hbase
    unfold RowS
    rw [List.length_append, List.map_append]
    exact h2'

/-- One text set at the end of a shorter slice of a row: in place. -/
theorem wpList_append_over (w : World) {ops : Array Oper} {rest : List Oper} {o : Oper} {a : Act} {Q : Exit → Act → World → Prop}
    (hg : o.guard = none) (s x : Operand) (t : TypeId) (hop : o.op = Op.call { callee := Callee.builtin Builtin.append, args := #[s, x], argTypes := #[t, t] })
    (h1 : Try.prog.underlying t = some (.slice 9))
    (base g cap : Nat) (X : List ByteArray) (n : Nat) (hn : n < X.length) (hs : a.eval s = .slice (some ⟨g, 0, none⟩) n cap) (hown : RowS w base g cap X)
    (ad : Addr) (u : ByteArray) (hx : a.eval x = .slice (some ad) 1 1) (hc : w.cell? ad = some (.string u))
    (b1 : X.length ≤ 1000000)
    (hK : ∀ w', RowS w' base g cap (X.set n u) → w.grownBy w' (some g) → wpList Try.prog ops Q rest (a.put o.dst (.slice (some ⟨g, 0, none⟩) (n + 1) cap)) w') :
    wpList Try.prog ops Q (o :: rest) a w := by
  obtain ⟨i0, hi, hz0, hz1, hz2⟩ := info_parts info_str
  have hcap := hown.len_cap
  have hcell : ∀ j v, [Value.string u][j]? = some v → w.cell? (ad.add j) = some v := fun j v hj => by
    match j, hj with
    | 0, hj =>
      simp at hj
      subst hj
      rw [Addr.add, if_pos rfl]
      exact hc
  refine wpList_append_arg w hg s x t hop 9 i0 (.string ⟨#[]⟩) 1 16 h1 hi hz0 hz1 hz2 rfl (by decide) g 0 n cap ((X.take n).map Value.string) hs (by simp; omega) (fun j v hj => ?_) ad 1 1 [.string u] hx rfl hcell (by intro v hv; simp at hv; subst hv; rfl) (fun _ j hj => ?_) (by unfold maxLen; omega) (by omega) (fun _ => ?_) (fun h => by omega)
  · have hjl : j < n := by
      have := (List.getElem?_eq_some_iff.1 hj).1
      simp at this; omega
    rw [Nat.zero_add, hown.cell j (by omega)]
    simp [List.getElem?_take, hjl, List.getD_eq_getElem?_getD, List.getElem?_eq_getElem (show j < X.length by omega)] at hj ⊢
    exact hj
  · obtain rfl : j = 0 := by simp at hj; exact hj
    rw [Nat.mul_one, Nat.zero_add, Nat.add_zero]
    exact ⟨by rw [hown.cell n hn]; rfl, World.ownsRow.frozenAt hown n⟩
  · rw [Nat.mul_one, Nat.zero_add]
    exact hK _ (hown.set n u) (World.ownsRow.stored hown n (.string u)).2
end Go.Proofs.Ytnokeaiemiiicaa.Own
