/- impl.UpdatedFlags by hand: it copies both rows and hands the copies on. -/
import Derived.Test.YtnokeaiemiiicaaUpdate2
namespace Go.Proofs.Ytnokeaiemiiicaa.Own
open Go.RowKit
set_option linter.unusedVariables false
set_option linter.unusedSimpArgs false

theorem run_append_none (w : World) (base : Nat) (t ty e : TypeId) (i : TypeInfo) (size c : Nat) (ht : Try.prog.underlying t = some (.slice e)) (hi : Try.prog.info? e = some i)
    (v : Value) (n : Nat) (xs : List Value) (hown : w.ownsRow base e size v n xs) : (Builtin.append_ #[t, t] ty #[v, .slice none 0 c]).run Try.prog w = .ok v w := by
  rcases hown.2 with ⟨rfl, rfl⟩ | ⟨g, cap, cur, rfl, _, hg, hnc, _⟩
  · simp [Builtin.append_, run_underlying ht, sizeOf, typeInfo, hi, Builtin.lenOf, Builtin.firstCells]
  · simp [Builtin.append_, run_underlying ht, sizeOf, typeInfo, hi, Builtin.lenOf, Builtin.firstCells, hnc, storeCells]

/-- What a slice holds, said by its cells. -/
def Cells (w : World) (A : Option Addr) (Y : List ByteArray) : Prop := 0 < Y.length → ∃ ad, A = some ad ∧ ∀ j, j < Y.length → w.cell? (ad.add j) = some (.string (Y.getD j ByteArray.empty))
theorem add0 (g j : Nat) : (⟨g, 0, none⟩ : Addr).add j = ⟨g, j, none⟩ := by unfold Addr.add; split <;> simp_all
theorem RowS.cells {w : World} {base g cap : Nat} {X : List ByteArray} (h : RowS w base g cap X) : Cells w (some ⟨g, 0, none⟩) X := fun _ => ⟨_, rfl, fun j hj => by rw [add0]; exact h.cell j hj⟩
theorem Cells.lt {w : World} {A : Option Addr} {Y : List ByteArray} (h : Cells w A Y) : 0 < Y.length → ∃ ad, A = some ad ∧ ad.block < w.heap.size := fun hp => by
  obtain ⟨ad, hA, hc⟩ := h hp
  refine ⟨ad, hA, ?_⟩
  have := hc 0 hp
  rw [Addr.add, if_pos rfl] at this
  rcases Nat.lt_or_ge ad.block w.heap.size with h' | h'
  · exact h'
  · simp [World.cell?, Array.getElem?_eq_none h'] at this
theorem addb (a : Addr) (n : Nat) : (a.add n).block = a.block := by unfold Addr.add; split <;> rfl
theorem Cells.kept {w w' : World} {A : Option Addr} {Y : List ByteArray} {B : Nat} (h : Cells w A Y) (hb : Below B w w') (hB : w.heap.size ≤ B) : Cells w' A Y := fun hp => by
  obtain ⟨ad, hA, hl⟩ := h.lt hp
  obtain ⟨ad', hA', hc⟩ := h hp
  rw [hA] at hA'
  cases hA'
  exact ⟨ad, hA, fun j hj => by rw [hb.cell (by rw [addb]; omega)]; exact hc j hj⟩

theorem wpList_append_rows (w : World) {ops : Array Oper} {rest : List Oper} {o : Oper} {a : Act} {Q : Exit → Act → World → Prop}
    (hg : o.guard = none) (s x : Operand) (t : TypeId) (hop : o.op = Op.call { callee := Callee.builtin Builtin.append, args := #[s, x], argTypes := #[t, t] })
    (h1 : Try.prog.underlying t = some (.slice 9))
    (base g cap : Nat) (X : List ByteArray) (n : Nat) (hn : n = X.length) (hs : a.eval s = .slice (some ⟨g, 0, none⟩) n cap) (hown : RowS w base g cap X)
    (A : Option Addr) (m c : Nat) (Y : List ByteArray) (hm : m = Y.length) (hx : a.eval x = .slice A m c) (hY : Cells w A Y)
    (b1 : X.length ≤ 1000000) (b2 : Y.length ≤ 1000000) (hbase : base ≤ w.heap.size)
    (hK : ∀ g' cap' w', RowS w' base g' cap' (X ++ Y) → w.grownBy w' (some g) → wpList Try.prog ops Q rest (a.put o.dst (.slice (some ⟨g', 0, none⟩) (n + m) cap')) w') :
    wpList Try.prog ops Q (o :: rest) a w := by
  subst hn hm
  obtain ⟨i0, hi, hz0, hz1, hz2⟩ := info_parts info_str
  cases A with
  | none =>
    have hY0 : Y.length = 0 := by
      rcases Nat.eq_zero_or_pos Y.length with h | h
      · exact h
      · obtain ⟨ad, h', _⟩ := hY h; cases h'
    obtain rfl : Y = [] := List.length_eq_zero_iff.1 hY0
    refine wpList_plain hg fun K hK' => ?_
    have hrun := run_append_none w base t o.type 9 i0 1 c h1 hi _ _ _ hown
    unfold Oper.wp
    simp [execOp, hop, resolve, invoke, builtin, hs, hx, hrun, Result.andThen]
    refine hK' _ _ ?_
    have := hK g cap w (by rw [List.append_nil]; exact hown) (World.grownBy.refl _ _)
    simpa using this
  | some ad =>
    refine wpList_append_own w hg s x t hop base 9 i0 (.string ⟨#[]⟩) 1 16 h1 hi hz0 hz1 hz2 rfl (by decide) _ X.length (X.map Value.string) hs hown ad Y.length c (Y.map Value.string) hx (by simp) (fun j u hj => ?_) (fun u hu => ?_) (by unfold maxLen; omega) (by omega) hbase ?_
    · have hjl : j < Y.length := by
        have := (List.getElem?_eq_some_iff.1 hj).1
        simpa using this
      obtain ⟨ad', h', hc⟩ := hY (by omega)
      cases h'
      rw [hc j hjl]
      simp [List.getElem?_eq_getElem hjl, List.getD_eq_getElem?_getD] at hj ⊢
      exact hj
    · obtain ⟨y, _, rfl⟩ := List.mem_map.1 hu
      rfl
    · intro v' w' h2 h3 h4
      have hl : (X ++ Y).length = X.length + Y.length := List.length_append
      have h2' : w'.ownsRow base 9 1 v' (X ++ Y).length ((X ++ Y).map Value.string) := by rw [hl, List.map_append]; exact h2
      obtain ⟨g', cap', rfl, hr⟩ := RowS.of h2' (fun e => by have := (h4.1 e).1; simp at this)
      rw [hl] at *
      exact hK g' cap' w' hr h3
theorem row_nil (w : World) (base : Nat) (hb : base ≤ w.heap.size) : RowS (w.alloc (.cells #[] 9)) base w.heap.size 0 [] := World.ownsRow_lit w #[] 0 hb (Nat.zero_le _) rfl

def upd (op : Nat) (cur fl : List ByteArray) : List ByteArray := if op = 0 then (if cur.any isRec then setFold true [recentF] fl else setFold false [] fl) else if op = 1 then addFold cur cur fl else remFold fl [] cur
def opText (op : Nat) : ByteArray := if op = 0 then ⟨#[70, 76, 65, 71, 83]⟩ else if op = 1 then ⟨#[43, 70, 76, 65, 71, 83]⟩ else ⟨#[45, 70, 76, 65, 71, 83]⟩
theorem update_any (op base g cap gf capf : Nat) (cur fl : List ByteArray) (w : World) (hcur : RowS w base g cap cur) (hfl : RowS w base gf capf fl) (hne : g ≠ gf) (hlc : cur.length ≤ 1000) (hlf : fl.length ≤ 1000) :
    Calls Try.prog 33 #[.slice (some ⟨g, 0, none⟩) cur.length cap, .string (opText op), .slice (some ⟨gf, 0, none⟩) fl.length capf] w (RowPost base (upd op cur fl) w) := by
  unfold upd opText
  by_cases h0 : op = 0
  · rw [if_pos h0, if_pos h0]
    cases hr : cur.any isRec with
    | true => exact set_some base g cap gf capf cur fl w hcur hfl hne hlc hlf hr
    | false => exact set_none base g cap gf capf cur fl w hcur hfl hne hlc hlf hr
  · rw [if_neg h0, if_neg h0]
    by_cases h1 : op = 1
    · rw [if_pos h1, if_pos h1]; exact add_any base g cap gf capf cur fl w hcur hfl hne hlc hlf
    · rw [if_neg h1, if_neg h1]; exact rem_any base g cap gf capf cur fl w hcur hfl hne hlc hlf

def UpdPost (R : List ByteArray) (w : World) (e : Ending) (w' : World) : Prop := ∃ g cap, e = .returned (.slice (some ⟨g, 0, none⟩) R.length cap) ∧ RowS w' w.heap.size g cap R ∧ Below w.heap.size w w'

set_option maxHeartbeats 2000000 in
theorem updated_any (op base g cap gf capf : Nat) (cur fl : List ByteArray) (w : World) (hcur : RowS w base g cap cur) (hfl : RowS w base gf capf fl) (hlc : cur.length ≤ 1000) (hlf : fl.length ≤ 1000) :
    Calls Try.prog 19 #[.slice (some ⟨g, 0, none⟩) cur.length cap, .string (opText op), .slice (some ⟨gf, 0, none⟩) fl.length capf] w (UpdPost (upd op cur fl) w) := by
  have hcur' := Lib.hid hcur
  have hfl' := Lib.hid hfl
  have l1 := hcur.lt.2
  have l2 := hfl.lt.2
  obtain ⟨T, hT⟩ : ∃ T, T = opText op := ⟨_, rfl⟩
  rw [← hT]
  have hT' := Lib.hid hT
  clear hcur hfl hT
  go_enter Try.func19, Try.ntmps19
  go_wp2_with (first
    | (at_builtin; refine wpList_append_rows _ rfl _ _ 22 rfl Try.underlying22 w.heap.size w.heap.size 0 [] 0 rfl rfl (row_nil w _ (Nat.le_refl _)) (some ⟨g, 0, none⟩) cur.length cap cur rfl rfl (hcur'.out.alloc _).cells (by simp) (by omega) (by simp) ?_; intro g1 cap1 w1 hrow1 hgrow1)
    | (at_builtin; refine wpList_append_rows _ rfl _ _ 22 rfl Try.underlying22 w1.heap.size w1.heap.size 0 [] 0 rfl rfl (row_nil w1 _ (Nat.le_refl _)) (some ⟨gf, 0, none⟩) fl.length capf fl rfl rfl (((hfl'.out.alloc (.cells #[] 9)).kept hgrow1 (by simp; omega)).alloc _).cells (by simp) (by omega) (by simp) ?_; intro g2 cap2 w2 hrow2 hgrow2)
    | (go_at_call 33
       have hs1 : w.heap.size < w1.heap.size := by have := hgrow1.size; simp at this; omega
       have hs2 : w1.heap.size < w2.heap.size := by have := hgrow2.size; simp at this; omega
       have hg1 := hrow1.lt
       have hg2 := hrow2.lt
       have r1 : RowS w2 w.heap.size g1 cap1 cur := (hrow1.alloc (.cells #[] 9)).kept hgrow2 (by simp; omega)
       have r2 : RowS w2 w.heap.size g2 cap2 fl := RowS.mono hrow2 (by omega)
       have b1 : Below w.heap.size w w1 := ((Below.refl _ _).alloc (Nat.le_refl _) _).grown hgrow1 (by simp) (fun k e => by cases e; exact Nat.le_refl _)
       have b2 : Below w.heap.size w w2 := (b1.alloc (by omega) _).grown hgrow2 (by simp; omega) (fun k e => by cases e; omega)
       have hu := update_any op w.heap.size g1 cap1 g2 cap2 cur fl w2 r1 r2 (by omega) hlc hlf
       rw [← hT'.out] at hu
       refine hu.mono ?_
       rintro e w3 ⟨g3, cap3, rfl, hrow3, hb3⟩)
    | go_in)
  go_ret
  exact ⟨g3, cap3, rfl, hrow3, b2.trans hb3⟩
end Go.Proofs.Ytnokeaiemiiicaa.Own
