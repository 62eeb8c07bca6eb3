/- Rows of ranges that a set owns: read, cut, set, copied. (*SeqSet).insertAt by hand. The printed search and merge over the ranges of a set, plainly; and as contracts. What a range put into a list comes to, by the ways of the code. What adding a text's parts to a set comes to, plainly. -/
import Derived.Test.YtajifebphcgcpaaDoorMA
import Derived.Test.YtajifebphcgcpaaDoorPFnSeqOfx4
import Derived.Test.YtajifebphcgcpaaDoorPFnSeqOfx5
import Derived.Test.YtajifebphcgcpaaDoorMB
import Derived.Deep.AppendLies
import Derived.Deep.Onto
import Derived.Laws.OwnMore
import Derived.Laws.CopyOwn
import Derived.Laws.CopyRow
import Derived.OwnWalk
import Derived.Below
import Derived.WalkKit
import Derived.KernelRfl
import Derived.Deep.RegionLaw
import Derived.Deep.QuietTactic
import Derived.BigQuiet
import Derived.Laws.MakeOwn
import Derived.IntWalk
import Derived.Lib.Hide
namespace Go.Proofs.YtajifebphcgcpaaDoor.Own
open Go.RowKit Sets
set_option linter.unusedVariables false
set_option linter.unusedSimpArgs false

def flat : List Rg → List Value
  | [] => []
  | x :: l => .int .u32 (x.1 : Int) :: .int .u32 (x.2 : Int) :: flat l
theorem flat_len : ∀ l : List Rg, (flat l).length = l.length * 2
  | [] => rfl
  | x :: l => by rw [flat, List.length_cons, List.length_cons, flat_len l, List.length_cons]; omega
theorem flat_app : ∀ l m : List Rg, flat (l ++ m) = flat l ++ flat m
  | [], m => rfl
  | x :: l, m => by rw [List.cons_append, flat, flat_app l m, flat]; rfl
theorem flat_at : ∀ (l : List Rg) (i : Nat), i < l.length → (flat l)[i * 2]? = some (.int .u32 ((l.getD i d0).1 : Int)) ∧ (flat l)[i * 2 + 1]? = some (.int .u32 ((l.getD i d0).2 : Int))
  | x :: l, 0, _ => ⟨rfl, rfl⟩
  | x :: l, i + 1, h => by
    have ih := flat_at l i (by simpa using h)
    rw [flat, show (i + 1) * 2 = i * 2 + 1 + 1 by omega]
    simpa using ih
theorem flat_take : ∀ (l : List Rg) (k : Nat), (flat l).take (k * 2) = flat (l.take k)
  | [], k => by simp [flat]
  | x :: l, 0 => by simp [flat]
  | x :: l, k + 1 => by rw [show (k + 1) * 2 = k * 2 + 1 + 1 by omega, flat, List.take_succ_cons, List.take_succ_cons, flat_take l k]; rfl
theorem flat_drop : ∀ (l : List Rg) (k : Nat), (flat l).drop (k * 2) = flat (l.drop k)
  | [], k => by simp [flat]
  | x :: l, 0 => by simp
  | x :: l, k + 1 => by rw [show (k + 1) * 2 = k * 2 + 1 + 1 by omega, flat, List.drop_succ_cons, List.drop_succ_cons, flat_drop l k]; rfl
theorem flat_set : ∀ (l : List Rg) (i : Nat) (x : Rg), ((flat l).set (i * 2) (.int .u32 (x.1 : Int))).set (i * 2 + 1) (.int .u32 (x.2 : Int)) = flat (l.set i x)
  | [], i, x => by simp [flat]
  | y :: l, 0, x => by simp [flat]
  | y :: l, i + 1, x => by rw [show (i + 1) * 2 = i * 2 + 1 + 1 by omega, flat, List.set_cons_succ, List.set_cons_succ, List.set_cons_succ, List.set_cons_succ, flat_set l i x]; rfl
theorem flat_one (l : List Rg) : ∀ v ∈ flat l, v.oneCell' = true := by
  induction l with
  | nil => intro v hv; simp [flat] at hv
  | cons x l ih =>
    intro v hv
    rw [flat, List.mem_cons, List.mem_cons] at hv
    rcases hv with rfl | rfl | hv
    · rfl
    · rfl
    · exact ih v hv

/-- The row of a slice v holds the ranges l. -/
def RowQ (w : World) (base : Nat) (v : Value) (l : List Rg) : Prop := w.ownsRow base 50 2 v l.length (flat l)

theorem RowQ.nil (w : World) (base : Nat) : RowQ w base (.slice none 0 0) [] := World.ownsRow_nil _ _ _ _
theorem RowQ.form {w : World} {base : Nat} {v : Value} {l : List Rg} (h : RowQ w base v l) : (v = .slice none 0 0 ∧ l = []) ∨ ∃ g cap, v = .slice (some ⟨g, 0, none⟩) l.length cap ∧ base ≤ g ∧ g < w.heap.size ∧ l.length ≤ cap := by
  rcases h.2 with ⟨h1, h0⟩ | ⟨g, cap, cur, hv, hb, hg, hc, _⟩
  · exact .inl ⟨h1, List.eq_nil_of_length_eq_zero h0⟩
  · exact .inr ⟨g, cap, hv, hb, (Array.getElem?_eq_some_iff.1 hg).1, hc⟩
theorem RowQ.form1 {w : World} {base : Nat} {v : Value} {l : List Rg} (h : RowQ w base v l) (hl : 0 < l.length) : ∃ g cap, v = .slice (some ⟨g, 0, none⟩) l.length cap ∧ base ≤ g ∧ g < w.heap.size ∧ l.length ≤ cap := by
  rcases h.form with ⟨_, rfl⟩ | h
  · simp at hl
  · exact h
section
variable {w w' : World} {base g n cap : Nat} {l : List Rg}
theorem RowQ.at (h : RowQ w base (.slice (some ⟨g, 0, none⟩) n cap) l) : n = l.length ∧ base ≤ g ∧ g < w.heap.size ∧ l.length ≤ cap ∧ cap ≤ maxLen := by
  rcases h.2 with ⟨h1, h0⟩ | ⟨g', cap', cur, hv, hb, hg, hc, hm, _⟩
  · simp at h1
  · simp only [Value.slice.injEq, Option.some.injEq, Addr.mk.injEq, and_true, true_and] at hv
    obtain ⟨rfl, rfl, rfl⟩ := hv
    exact ⟨rfl, hb, (Array.getElem?_eq_some_iff.1 hg).1, hc, hm⟩
theorem RowQ.cell (h : RowQ w base (.slice (some ⟨g, 0, none⟩) n cap) l) (i : Nat) (hi : i < l.length) :
    w.cell? ⟨g, i * 2, none⟩ = some (.int .u32 ((l.getD i d0).1 : Int)) ∧ w.cell? ⟨g, i * 2 + 1, none⟩ = some (.int .u32 ((l.getD i d0).2 : Int)) := by
  obtain ⟨rfl, _⟩ := h.at
  rw [World.ownsRow.cellAt h (i * 2) (by omega), World.ownsRow.cellAt h (i * 2 + 1) (by omega)]
  exact flat_at l i hi
theorem RowQ.frozen (h : RowQ w base (.slice (some ⟨g, 0, none⟩) n cap) l) (j : Nat) : w.frozen? ⟨g, j, none⟩ = false := by
  obtain ⟨rfl, _⟩ := h.at
  exact World.ownsRow.frozenAt h j
/-- The block is known whole. -/
theorem RowQ.block (h : RowQ w base (.slice (some ⟨g, 0, none⟩) n cap) l) : ∃ cur : List Value, w.heap[g]? = some (.cells cur.toArray 50 (0, 0)) ∧ cur.length = cap * 2 ∧ cur.take (l.length * 2) = flat l := by
  rcases h.2 with ⟨h1, h0⟩ | ⟨g', cap', cur, hv, hb, hg, hc, hm, hs, ht⟩
  · simp at h1
  · simp only [Value.slice.injEq, Option.some.injEq, Addr.mk.injEq, and_true, true_and] at hv
    obtain ⟨rfl, rfl, rfl⟩ := hv
    exact ⟨cur.toList, by simpa using hg, by simpa using hs, ht⟩
theorem RowQ.of_block {cur : List Value} (hg : w.heap[g]? = some (.cells cur.toArray 50 (0, 0))) (hb : base ≤ g) (hc : l.length ≤ cap) (hm : cap ≤ maxLen) (hs : cur.length = cap * 2) (ht : cur.take (l.length * 2) = flat l) :
    RowQ w base (.slice (some ⟨g, 0, none⟩) l.length cap) l :=
  ⟨flat_len l, .inr ⟨g, cap, cur.toArray, rfl, hb, hg, hc, hm, by simpa using hs, by simpa using ht⟩⟩
theorem RowQ.take (h : RowQ w base (.slice (some ⟨g, 0, none⟩) n cap) l) (k : Nat) (hk : k ≤ l.length) : RowQ w base (.slice (some ⟨g, 0, none⟩) k cap) (l.take k) := by
  obtain ⟨cur, h1, h2, h3⟩ := h.block
  obtain ⟨rfl, hb, _, hc, hm⟩ := h.at
  have hl : (l.take k).length = k := by rw [List.length_take]; omega
  have := RowQ.of_block (l := l.take k) h1 hb (by omega) hm h2 (by rw [hl, ← flat_take, ← h3, List.take_take]; congr 1; omega)
  rwa [hl] at this
theorem RowQ.set (h : RowQ w base (.slice (some ⟨g, 0, none⟩) n cap) l) (i : Nat) (x : Rg) :
    RowQ ((w.setCell ⟨g, i * 2, none⟩ (.int .u32 (x.1 : Int))).setCell ⟨g, i * 2 + 1, none⟩ (.int .u32 (x.2 : Int))) base (.slice (some ⟨g, 0, none⟩) n cap) (l.set i x) := by
  obtain ⟨rfl, _⟩ := h.at
  have h1 := (World.ownsRow.stored h (i * 2) (.int .u32 (x.1 : Int))).1
  have h2 := (World.ownsRow.stored h1 (i * 2 + 1) (.int .u32 (x.2 : Int))).1
  rw [flat_set] at h2
  unfold RowQ
  rw [List.length_set]
  exact h2
end
theorem RowQ.move {w w' : World} {base : Nat} {v : Value} {l : List Rg} (h : RowQ w base v l) (hm : ∀ k, base ≤ k → k < w.heap.size → w'.heap[k]? = w.heap[k]?) : RowQ w' base v l := by
  rcases h.2 with ⟨h1, h0⟩ | ⟨g, cap, cur, hv, hb, hg, r⟩
  · exact ⟨h.1, .inl ⟨h1, h0⟩⟩
  · exact ⟨h.1, .inr ⟨g, cap, cur, hv, hb, (hm g hb (Array.getElem?_eq_some_iff.1 hg).1).trans hg, r⟩⟩
theorem RowQ.below {w w' : World} {base : Nat} {v : Value} {l : List Rg} (h : RowQ w base v l) (hb : Below w.heap.size w w') : RowQ w' base v l := h.move fun k _ hk => hb.block k hk

open PFnSeqOf in
def enc47 (x : Rg) : PFnSeqOf.S50 := ⟨(x.1 : Int), (x.2 : Int)⟩
open Go.Proofs.YtajifebphcgcpaaDoorW.PrintWords in
theorem RowQ.reads {w : World} {base : Nat} {v : Value} {l : List Rg} (h : RowQ w base v l) (hm : l.length ≤ 1000000) : ∃ A c, v = .slice A l.length c ∧ l.length ≤ c ∧ Kd.C PFnSeqOf.k50 w A (l.map enc47).length (l.map enc47) := by
  rcases h.form with ⟨rfl, rfl⟩ | ⟨g, cap, rfl, _, _, hc⟩
  · exact ⟨none, 0, rfl, Nat.le_refl _, Kd.C_nil _ _⟩
  · refine ⟨_, cap, rfl, hc, ?_⟩
    refine ⟨rfl, by rw [List.length_map]; omega, fun _ => ⟨_, rfl, fun j p hj => ?_⟩⟩
    have hjl : j < l.length := by
      have := (List.getElem?_eq_some_iff.1 hj).1
      simpa using this
    have hp : p = enc47 (l.getD j d0) := by
      rw [List.getElem?_map, List.getElem?_eq_getElem hjl] at hj
      rw [List.getD_eq_getElem?_getD, List.getElem?_eq_getElem hjl]
      simpa using hj.symm
    subst hp
    obtain ⟨h1, h2⟩ := h.cell j hjl
    refine ⟨_, rfl, PFnSeqOf.k50_mk w _, fun i u hu => ?_⟩
    have hadd : ∀ k, (⟨g, 0, none⟩ : Addr).add k = ⟨g, k, none⟩ := fun k => by unfold Addr.add; split <;> simp_all
    rw [hadd]
    match i, hu with
    | 0, hu => simp at hu; subst hu; exact h1
    | 1, hu => simp at hu; subst hu; exact h2
    | i + 2, hu => simp at hu

/-- The guarded blocks are as G says; they are neither the set's header nor its own row. -/
def Gd (G : Nat → Option Obj) (o : Option Nat) (b : Nat) (w : World) : Prop := ∀ k T, G k = some T → o ≠ some k ∧ b ≠ k ∧ w.heap[k]? = some T
theorem Gd.step {G : Nat → Option Obj} {o o' : Option Nat} {b : Nat} {w w' : World} (h : Gd G o b w) (hm : ∀ k, o ≠ some k → b ≠ k → k < w.heap.size → w'.heap[k]? = w.heap[k]?)
    (ho : o' = o ∨ ∃ g, w.heap.size ≤ g ∧ o' = some g) : Gd G o' b w' := by
  intro k T hk
  obtain ⟨h1, h2, h3⟩ := h k T hk
  have hlt : k < w.heap.size := (Array.getElem?_eq_some_iff.1 h3).1
  refine ⟨?_, h2, (hm k h1 h2 hlt).trans h3⟩
  rcases ho with rfl | ⟨g, hg, rfl⟩
  · exact h1
  · intro e
    have e2 : g = k := Option.some.inj e
    omega
theorem Gd.below {G : Nat → Option Obj} {o : Option Nat} {b : Nat} {w w' : World} (h : Gd G o b w) (hb : Below w.heap.size w w') : Gd G o b w' :=
  h.step (fun k _ _ hk => hb.block k hk) (.inl rfl)
theorem Gd.none (o : Option Nat) (b : Nat) (w : World) : Gd (fun _ => .none) o b w := fun _ _ h => by cases h
/-- A set at block b holds the ranges l; the guarded blocks are as G says. -/
def SetAt (G : Nat → Option Obj) (b : Nat) (l : List Rg) (w : World) : Prop := ∃ v, w.heap[b]? = some (.cells #[v] 66 (0, 0)) ∧ RowQ w (b + 1) v l ∧ Gd G v.ownBlock b w
theorem SetAt.below {G : Nat → Option Obj} {b : Nat} {l : List Rg} {w w' : World} (h : SetAt G b l w) (hb : Below w.heap.size w w') : SetAt G b l w' := by
  obtain ⟨v, h1, h2, h3⟩ := h
  exact ⟨v, (hb.block b (Array.getElem?_eq_some_iff.1 h1).1).trans h1, h2.below hb, h3.below hb⟩
theorem SetAt.lt {G : Nat → Option Obj} {b : Nat} {l : List Rg} {w : World} (h : SetAt G b l w) : b < w.heap.size := by
  obtain ⟨v, h1, h2⟩ := h
  exact (Array.getElem?_eq_some_iff.1 h1).1
/-- One guarded block more. -/
def addG (G : Nat → Option Obj) (g : Nat) (T : Obj) : Nat → Option Obj := fun k => if k = g then some T else G k
theorem SetAt.guard {G : Nat → Option Obj} {b g : Nat} {T : Obj} {l : List Rg} {w : World} (h : SetAt G b l w) (hb : b ≠ g) (hT : w.heap[g]? = some T) (hne : ∀ v, w.heap[b]? = some (.cells #[v] 66 (0, 0)) → v.ownBlock ≠ some g) : SetAt (addG G g T) b l w := by
  obtain ⟨v, h1, h2, h3⟩ := h
  refine ⟨v, h1, h2, fun k U hk => ?_⟩
  unfold addG at hk
  split at hk
  · rename_i e
    subst e
    cases hk
    exact ⟨hne v h1, hb, hT⟩
  · exact h3 k U hk
theorem SetAt.open {G : Nat → Option Obj} {b g : Nat} {T : Obj} {l : List Rg} {w : World} (h : SetAt (addG G g T) b l w) (hG : G g = .none) : SetAt G b l w ∧ w.heap[g]? = some T := by
  obtain ⟨v, h1, h2, h3⟩ := h
  refine ⟨⟨v, h1, h2, fun k U hk => h3 k U ?_⟩, (h3 g T (by unfold addG; rw [if_pos rfl])).2.2⟩
  unfold addG
  rw [if_neg (by rintro rfl; rw [hG] at hk; cases hk)]
  exact hk
theorem SetAt.weak {G : Nat → Option Obj} {b : Nat} {l : List Rg} {w : World} (h : SetAt G b l w) : SetAt (fun _ => .none) b l w := by
  obtain ⟨v, h1, h2, h3⟩ := h
  exact ⟨v, h1, h2, Gd.none _ _ _⟩

/-- copy of elements of two cells. -/
theorem run_copy2 {P : Program} (w : World) (dT sT ty elem : TypeId) (g off dLen dCap : Nat) (a : Addr) (sLen sCap : Nat) (cur : Array Value) (t : TypeId) (cs : List Value)
    (hu : P.underlying dT = some (.slice elem)) (hs : (P.info? elem).map (·.size) = some 2) (hg : w.heap[g]? = some (.cells cur t (0, 0))) (hn : cs.length = Nat.min sLen dLen * 2)
    (hsrc : ∀ j v, cs[j]? = some v → w.cell? (a.add j) = some v) (hfit : off + cs.length ≤ cur.size) (h1 : ∀ v ∈ cs, v.oneCell' = true) :
    (Builtin.copy_ #[dT, sT] ty #[.slice (some ⟨g, off, none⟩) dLen dCap, .slice (some a) sLen sCap]).run P w = .ok (goInt (Nat.min sLen dLen)) (w.setRow g (cur.toList.take off ++ cs ++ cur.toList.drop (off + cs.length)).toArray) := by
  have hl := run_loadCells_list (P := P) w a cs hsrc
  rw [hn] at hl
  have hst := run_storeCells_at P g off t cs 0 cur w hg (by simpa using hfit) h1
  simp only [Nat.add_zero] at hst
  cases hq : P.info? elem with
  | none => simp [hq] at hs
  | some i =>
    have hi : i.size = 2 := by simpa [hq] using hs
    simp [Builtin.copy_, run_underlying hu, Builtin.lenOf, Builtin.firstCells, sizeOf, typeInfo, hq, hi, hl, hst]
theorem wp_copy2 {P : Program} {o : Oper} {a : Act} {w : World} {K : Act → World → Prop} {Q : Exit → Act → World → Prop} (d s : Operand) (dT sT : TypeId)
    (ho : o.op = .call { callee := .builtin .copy, args := #[d, s], argTypes := #[dT, sT] }) (elem : TypeId) (hu : P.underlying dT = some (.slice elem)) (hsz : (P.info? elem).map (·.size) = some 2)
    (g off dLen dCap : Nat) (ad : Addr) (sLen sCap : Nat) (hd : a.eval d = .slice (some ⟨g, off, none⟩) dLen dCap) (hs : a.eval s = .slice (some ad) sLen sCap)
    (cur : List Value) (t : TypeId) (hg : w.heap[g]? = some (.cells cur.toArray t (0, 0))) (cs : List Value) (m : Nat) (hm : m = Nat.min sLen dLen) (hn : cs.length = m * 2)
    (hsrc : ∀ j v, cs[j]? = some v → w.cell? (ad.add j) = some v) (hfit : off + cs.length ≤ cur.length) (h1 : ∀ v ∈ cs, v.oneCell' = true) (B : Nat) (w0 : World) (hb : Below B w0 w) (hBg : B ≤ g)
    (h : ∀ w', w'.heap[g]? = some (.cells (splice cur off cs).toArray t (0, 0)) → (∀ k, k ≠ g → w'.heap[k]? = w.heap[k]?) → w'.heap.size = w.heap.size → Below B w0 w' → K (a.put o.dst (goInt m)) w') : o.wp P a w K Q := by
  subst hm
  have hrun := run_copy2 (P := P) w dT sT o.type elem g off dLen dCap ad sLen sCap cur.toArray t cs hu hsz hg hn hsrc (by simpa using hfit) h1
  unfold Oper.wp execOp
  simp only [ho, resolve, invoke, builtin, Sem.run_bind, Sem.run_pure, Result.andThen_ok, List.map_toArray, List.map_cons, List.map_nil, hd, hs, hrun]
  exact h _ (by rw [setRow_heap w g _ _ t _ hg]; simp [splice]) (fun k hk => setRow_other w g k _ hk) (by simp [World.setRow]) (below_setRow hb hBg _)
theorem wpList_copy2 {P : Program} {ops : Array Oper} {rest : List Oper} {o : Oper} {a : Act} {w : World} {Q : Exit → Act → World → Prop} (hgd : o.guard = none) (d s : Operand) (dT sT : TypeId)
    (ho : o.op = .call { callee := .builtin .copy, args := #[d, s], argTypes := #[dT, sT] }) (elem : TypeId) (hu : P.underlying dT = some (.slice elem)) (hsz : (P.info? elem).map (·.size) = some 2)
    (g off dLen dCap : Nat) (ad : Addr) (sLen sCap : Nat) (hd : a.eval d = .slice (some ⟨g, off, none⟩) dLen dCap) (hs : a.eval s = .slice (some ad) sLen sCap)
    (cur : List Value) (t : TypeId) (hg : w.heap[g]? = some (.cells cur.toArray t (0, 0))) (cs : List Value) (m : Nat) (hm : m = Nat.min sLen dLen) (hn : cs.length = m * 2)
    (hsrc : ∀ j v, cs[j]? = some v → w.cell? (ad.add j) = some v) (hfit : off + cs.length ≤ cur.length) (h1 : ∀ v ∈ cs, v.oneCell' = true) (B : Nat) (w0 : World) (hb : Below B w0 w) (hBg : B ≤ g)
    (h : ∀ w', w'.heap[g]? = some (.cells (splice cur off cs).toArray t (0, 0)) → (∀ k, k ≠ g → w'.heap[k]? = w.heap[k]?) → w'.heap.size = w.heap.size → Below B w0 w' → wpList P ops Q rest (a.put o.dst (goInt m)) w') : wpList P ops Q (o :: rest) a w :=
  wpList_plain hgd fun _ hK => wp_copy2 d s dT sT ho elem hu hsz g off dLen dCap ad sLen sCap hd hs cur t hg cs m hm hn hsrc hfit h1 B w0 hb hBg fun w' a1 a2 a3 a4 => hK _ _ (h w' a1 a2 a3 a4)
theorem step_copy2 {P : Program} {ops : Array Oper} {o : Oper} {a : Act} {w : World} {K : Act → World → Prop} {Q : Exit → Act → World → Prop} {E : Prop} (hgd : o.guard = none) (d s : Operand) (dT sT : TypeId)
    (ho : o.op = .call { callee := .builtin .copy, args := #[d, s], argTypes := #[dT, sT] }) (elem : TypeId) (hu : P.underlying dT = some (.slice elem)) (hsz : (P.info? elem).map (·.size) = some 2)
    (g off dLen dCap : Nat) (ad : Addr) (sLen sCap : Nat) (hd : a.eval d = .slice (some ⟨g, off, none⟩) dLen dCap) (hs : a.eval s = .slice (some ad) sLen sCap)
    (cur : List Value) (t : TypeId) (hg : w.heap[g]? = some (.cells cur.toArray t (0, 0))) (cs : List Value) (m : Nat) (hm : m = Nat.min sLen dLen) (hn : cs.length = m * 2)
    (hsrc : ∀ j v, cs[j]? = some v → w.cell? (ad.add j) = some v) (hfit : off + cs.length ≤ cur.length) (h1 : ∀ v ∈ cs, v.oneCell' = true) (B : Nat) (w0 : World) (hb : Below B w0 w) (hBg : B ≤ g)
    (h : ∀ w', w'.heap[g]? = some (.cells (splice cur off cs).toArray t (0, 0)) → (∀ k, k ≠ g → w'.heap[k]? = w.heap[k]?) → w'.heap.size = w.heap.size → Below B w0 w' → K (a.put o.dst (goInt m)) w') :
    if Region.wanted o (yielded ops a.tmps) = true then Oper.wp P o a w K Q else E := by
  have hw : Region.wanted o (yielded ops a.tmps) = true := by simp [Region.wanted, hgd]
  rw [if_pos hw]
  exact wp_copy2 d s dT sT ho elem hu hsz g off dLen dCap ad sLen sCap hd hs cur t hg cs m hm hn hsrc hfit h1 B w0 hb hBg h
end Go.Proofs.YtajifebphcgcpaaDoor.Own

namespace Go.Proofs.YtajifebphcgcpaaDoor.Own
open Go.RowKit Go.Lib Sets
set_option linter.unusedVariables false
set_option linter.unusedSimpArgs false

theorem info_seq : (Tryd.prog.info? 50).map (fun i => (i.zero, i.size, i.bytes)) = some (some (.agg #[.int .u32 0, .int .u32 0]), 2, 8) := by kernel_rfl

theorem two_new (W : World) (B : Nat) (hB : W.heap.size = B) (p q : Value) (t : TypeId) : ∀ j u, [p, q][j]? = some u → (W.alloc (.cells #[p, q] t)).cell? ((⟨B, 0, none⟩ : Addr).add j) = some u := by
  subst hB
  intro j u hj
  have hadd : (⟨W.heap.size, 0, none⟩ : Addr).add j = ⟨W.heap.size, j, none⟩ := by unfold Addr.add; split <;> simp_all
  rw [hadd, cell_of_row _ _ j _ _ _ (heap_alloc_new W _)]
  simpa using hj
theorem two_one' (a b : Nat) : ∀ u ∈ [Value.int .u32 (a : Int), .int .u32 (b : Int)], u.oneCell' = true := by
  intro u hu
  simp at hu
  rcases hu with rfl | rfl <;> rfl
def Put (G : Nat → Option Obj) (b : Nat) (l : List Rg) (w : World) (e : Ending) (w' : World) : Prop := e = .returned (.tuple #[]) ∧ SetAt G b l w' ∧ Below b w w'

/-- Behind the header's store. -/
theorem setAt_stored {G : Nat → Option Obj} {b : Nat} {l : List Rg} {w w2 : World} {u v : Value} (hv : w.heap[b]? = some (.cells #[u] 66 (0, 0))) (hb : Below (b + 1) w w2) (hr : RowQ w2 (b + 1) v l) (hgd : Gd G v.ownBlock b w2) : SetAt G b l (w2.setCell ⟨b, 0, none⟩ v) := by
  have h2 : w2.heap[b]? = some (.cells #[u] 66 (0, 0)) := (hb.block b (by omega)).trans hv
  exact ⟨v, by rw [heap_setCell_same w2 b 0 _ _ _ h2]; rfl, hr.move fun k hk _ => heap_setCell_other w2 _ k v (by show k ≠ b; omega), hgd.step (fun k _ h _ => heap_setCell_other w2 _ k v (by show k ≠ b; exact fun e => h e.symm)) (.inl rfl)⟩

set_option maxHeartbeats 2000000 in
set_option maxRecDepth 100000 in
theorem insAt_end (G : Nat → Option Obj) (b : Nat) (x : Rg) (l : List Rg) (w : World) (h : SetAt G b l w) (hl : l.length ≤ 10000) :
    Calls Tryd.prog 51 #[.pointer (some ⟨b, 0, none⟩), .int .i64 l.length, .agg #[.int .u32 x.1, .int .u32 x.2]] w (Put G b (l ++ [x]) w) := by
  obtain ⟨i0, hi, hz0, hz1, hz2⟩ := info_parts info_seq
  obtain ⟨v, hv, hrow, hgd⟩ := h
  replace hgd := Lib.hid hgd
  have hlt : b < w.heap.size := (Array.getElem?_eq_some_iff.1 hv).1
  obtain ⟨A, c, rfl, hcap⟩ : ∃ A c, v = .slice A l.length c ∧ l.length ≤ c := by
    rcases hrow.form with ⟨rfl, rfl⟩ | ⟨g, cap, rfl, _, _, h5⟩
    · exact ⟨_, _, rfl, Nat.le_refl _⟩
    · exact ⟨_, _, rfl, h5⟩
  have hc0 : w.cell? ⟨b, 0, none⟩ = some (.slice A l.length c) := cell_of_row w b 0 _ _ _ hv
  have hf0 := frozen_of_row w b 0 _ _ hv
  have hrow' := Lib.hid hrow
  have hv' := Lib.hid hv
  obtain ⟨x0, x1⟩ := x
  clear hrow hv
  go_enter Tryd.func51, Tryd.ntmps51
  go_wp2_with fail
  go_upto_region 3 with (fail)
  have hnew := Lib.hid (two_new (w.alloc (.cells #[.int .u32 x0, .int .u32 x1] 50)) (w.heap.size + 1) (by simp) (.int .u32 x0) (.int .u32 x1) 50)
  have hown := Lib.hid ((hrow'.out.alloc (.cells #[.int .u32 x0, .int .u32 x1] 50)).alloc (.cells #[.int .u32 x0, .int .u32 x1] 50))
  have hbAA := Lib.hid (show Below (b + 1) w ((w.alloc (.cells #[.int .u32 x0, .int .u32 x1] 50)).alloc (.cells #[.int .u32 x0, .int .u32 x1] 50)) from ((Below.refl _ _).alloc hlt _).alloc (by simp; omega) _)
  go_region_law (refine step_append_lies _ rfl (.tmp 20) (.tmp 22) 64 rfl (b + 1) 50 i0 (.agg #[.int .u32 0, .int .u32 0]) 2 8 Tryd.underlying64 hi hz0 hz1 hz2 rfl (by decide) (.slice A l.length c) l.length (flat l) (by simp [Act.eval, Act.put]) hown.out ⟨w.heap.size + 1, 0, none⟩ 1 1 [.int .u32 x0, .int .u32 x1] (by simp [Act.eval, Act.put]) rfl hnew.out (two_one' x0 x1) (by decide) (by unfold maxLen; omega) (by omega) (by simp; omega) _ rfl ?_; intro g2 cap2 w2 hown2 hgrow2 hat2 hlt2; have hb2 := Lib.hid (show Below (b + 1) w w2 from Below.grown (by first | exact hbAA.out | exact hbAA.out.drew | exact hbAA.out.drew.drew) hgrow2 (by simp; omega) (fun k e => (World.ownsRow.lt hrow'.out k e).1)); have hc2 := (hb2.out.cell (p := ⟨b, 0, none⟩) (Nat.lt_succ_self b)).trans hc0; have hf2 := (hb2.out.frozen (p := ⟨b, 0, none⟩) (Nat.lt_succ_self b)).trans hf0)
  all_goals
    have hrow2 : RowQ w2 (b + 1) (.slice (some ⟨g2, 0, none⟩) (l.length + 1) cap2) (l ++ [(x0, x1)]) := by
      unfold RowQ
      rw [List.length_append, flat_app]
      exact hown2
    have hg2t : Gd G (Value.slice (some ⟨g2, 0, none⟩) (l.length + 1) cap2).ownBlock b w2 := by
      refine hgd.out.step (fun k h1 h2 h3 => ?_) ?_
      · refine (World.grownBy.block hgrow2 k (by simp; omega) (fun e => h1 e.symm)).trans ?_
        show ((w.alloc _).alloc _).heap[k]? = _
        rw [Below.heap_alloc _ _ _ (by simp; omega), Below.heap_alloc _ _ _ h3]
      · rcases hat2 with h | h
        · exact .inl h.symm
        · have h3 : g2 = w.heap.size + 1 + 1 := by simpa using h
          exact .inr ⟨g2, by omega, rfl⟩
    have hset := Lib.hid (setAt_stored hv'.out hb2.out hrow2 hg2t)
    have hb3 := Lib.hid (show Below b w (w2.setCell ⟨b, 0, none⟩ (.slice (some ⟨g2, 0, none⟩) (l.length + 1) cap2)) from (hb2.out.mono (Nat.le_succ b)).setCell (Nat.le_refl b) _)
    clear hown2 hgrow2 hat2 hlt2 hrow2 hg2t
    go_wp2
    go_end0
    exact ⟨rfl, hset.out, hb3.out⟩

theorem set_mid (p q : List Value) (a b c d : Value) : ((p ++ (a :: b :: q)).set p.length c).set (p.length + 1) d = p ++ (c :: d :: q) := by
  rw [List.set_append_right _ _ (Nat.le_refl _), Nat.sub_self, List.set_cons_zero, List.set_append_right _ _ (by omega), show p.length + 1 - p.length = 1 by omega]
  rfl
theorem flat_snoc (l : List Rg) (i : Nat) (h : i < l.length) : flat (l.take (i + 1)) = flat (l.take i) ++ [.int .u32 ((l.getD i d0).1 : Int), .int .u32 ((l.getD i d0).2 : Int)] := by
  rw [List.take_succ_eq_append_getElem h, flat_app, List.getD_eq_getElem?_getD, List.getElem?_eq_getElem h]
  rfl
theorem put_pure (cur : List Value) (l : List Rg) (i : Nat) (x : Rg) (y0 y1 : Value) (h1 : cur.take ((i + 1) * 2) = flat (l.take i) ++ [y0, y1]) (hi : i < l.length) :
    (((splice cur ((i + 1) * 2) (flat (l.drop i))).set (i * 2) (.int .u32 (x.1 : Int))).set (i * 2 + 1) (.int .u32 (x.2 : Int))).take ((l.take i ++ x :: l.drop i).length * 2) = flat (l.take i ++ x :: l.drop i) := by
  have hli : (flat (l.take i)).length = i * 2 := by rw [flat_len, List.length_take]; congr 1; omega
  unfold splice
  rw [h1, List.append_assoc]
  obtain ⟨R, hR⟩ : ∃ R, cur.drop ((i + 1) * 2 + (flat (l.drop i)).length) = R := ⟨_, rfl⟩
  rw [hR]
  have := set_mid (flat (l.take i)) (flat (l.drop i) ++ R) y0 y1 (.int .u32 (x.1 : Int)) (.int .u32 (x.2 : Int))
  rw [hli] at this
  rw [show ([y0, y1] ++ (flat (l.drop i) ++ R) : List Value) = y0 :: y1 :: (flat (l.drop i) ++ R) from rfl, this]
  have h2 : flat (l.take i) ++ (.int .u32 (x.1 : Int) :: .int .u32 (x.2 : Int) :: (flat (l.drop i) ++ R)) = flat (l.take i ++ x :: l.drop i) ++ R := by rw [flat_app, flat]; simp
  rw [h2, List.take_left' (flat_len _)]
theorem room_pure (cur : List Value) (l : List Rg) (i cap : Nat) (x : Rg) (hc : cur.length = cap * 2) (ht : cur.take (l.length * 2) = flat l) (hi : i < l.length) (hcap : l.length < cap) :
    (((splice cur ((i + 1) * 2) (flat (l.drop i))).set (i * 2) (.int .u32 (x.1 : Int))).set (i * 2 + 1) (.int .u32 (x.2 : Int))).take ((l.take i ++ x :: l.drop i).length * 2) = flat (l.take i ++ x :: l.drop i) := by
  refine put_pure cur l i x (.int .u32 ((l.getD i d0).1 : Int)) (.int .u32 ((l.getD i d0).2 : Int)) ?_ hi
  rw [← flat_snoc l i hi, ← flat_take, ← ht, List.take_take]
  congr 1
  omega
theorem grow_pure (Z : List Value) (l : List Rg) (i : Nat) (x : Rg) (hZ : Z.length = l.length * 2 * 2) (hi : i < l.length) :
    (((splice (splice Z 0 (flat (l.take i))) ((i + 1) * 2) (flat (l.drop i))).set (i * 2) (.int .u32 (x.1 : Int))).set (i * 2 + 1) (.int .u32 (x.2 : Int))).take ((l.take i ++ x :: l.drop i).length * 2) = flat (l.take i ++ x :: l.drop i) := by
  have hli : (flat (l.take i)).length = i * 2 := by rw [flat_len, List.length_take]; congr 1; omega
  obtain ⟨y0, y1, R, hR⟩ : ∃ y0 y1 R, Z.drop (0 + (flat (l.take i)).length) = y0 :: y1 :: R := by
    have hlen : 2 ≤ (Z.drop (0 + (flat (l.take i)).length)).length := by rw [List.length_drop]; omega
    match hq : Z.drop (0 + (flat (l.take i)).length), hlen with
    | y0 :: y1 :: R, _ => exact ⟨y0, y1, R, rfl⟩
  refine put_pure _ l i x y0 y1 ?_ hi
  unfold splice
  rw [hR, List.take_zero, List.nil_append, List.take_append, hli, List.take_of_length_le (by rw [hli]; omega), show (i + 1) * 2 - i * 2 = 2 by omega]
  rfl

set_option maxHeartbeats 2000000 in
set_option maxRecDepth 100000 in
theorem insAt_room (G : Nat → Option Obj) (b i g cap : Nat) (x : Rg) (l : List Rg) (w : World) (hgd : Gd G (some g) b w) (hv : w.heap[b]? = some (.cells #[.slice (some ⟨g, 0, none⟩) l.length cap] 66 (0, 0))) (hrow : RowQ w (b + 1) (.slice (some ⟨g, 0, none⟩) l.length cap) l)
    (hi : i < l.length) (hcap : l.length < cap) (hl : l.length ≤ 10000) :
    Calls Tryd.prog 51 #[.pointer (some ⟨b, 0, none⟩), .int .i64 i, .agg #[.int .u32 x.1, .int .u32 x.2]] w (Put G b (l.take i ++ x :: l.drop i) w) := by
  have hlt : b < w.heap.size := (Array.getElem?_eq_some_iff.1 hv).1
  replace hgd := Lib.hid hgd
  have hc0 : w.cell? ⟨b, 0, none⟩ = some (.slice (some ⟨g, 0, none⟩) l.length cap) := cell_of_row w b 0 _ _ _ hv
  have hf0 := frozen_of_row w b 0 _ _ hv
  obtain ⟨_, hbg, hgs, _, hmx⟩ := hrow.at
  obtain ⟨cur, hcur, hclen, hctake⟩ := hrow.block
  have hne : ¬ (b = g) := by omega
  have hn1 : ((l.length : Int) == (i : Int)) = false := by simp; omega
  have hn2 : ((i : Int) == (l.length : Int)) = false := by simp; omega
  have hcur' := Lib.hid hcur
  have hct' := Lib.hid hctake
  have hcl' := Lib.hid hclen
  have hv' := Lib.hid hv
  obtain ⟨x0, x1⟩ := x
  clear hv hrow hcur hclen hctake
  go_enter Tryd.func51, Tryd.ntmps51
  go_upto_region 6 with (fail)
  obtain ⟨W1, hW1⟩ : ∃ W1, (w.setCell ⟨b, 0, none⟩ (.slice (some ⟨g, 0, none⟩) (l.length + 1) cap)).alloc (.cells #[.int .u32 x0, .int .u32 x1] 50) = W1 := ⟨_, rfl⟩
  have hg1 : W1.heap[g]? = some (.cells cur.toArray 50 (0, 0)) := by
    rw [← hW1, Below.heap_alloc _ _ _ (by simp [World.setCell]; omega), heap_setCell_other _ _ _ _ (by show g ≠ b; omega)]; exact hcur'.out
  have hh1 : W1.heap[b]? = some (.cells #[.slice (some ⟨g, 0, none⟩) (l.length + 1) cap] 66 (0, 0)) := by
    rw [← hW1, Below.heap_alloc _ _ _ (by simp [World.setCell]; omega), heap_setCell_same w b 0 _ _ _ hv'.out]; rfl
  have hbx1 : W1.heap[w.heap.size]? = some (.cells #[.int .u32 x0, .int .u32 x1] 50 (0, 0)) := by
    rw [← hW1]; have := heap_alloc_new (w.setCell ⟨b, 0, none⟩ (.slice (some ⟨g, 0, none⟩) (l.length + 1) cap)) (.cells #[.int .u32 x0, .int .u32 x1] 50); rwa [show (w.setCell ⟨b, 0, none⟩ (.slice (some ⟨g, 0, none⟩) (l.length + 1) cap)).heap.size = w.heap.size by simp [World.setCell]] at this
  have hK1 : ∀ k, b ≠ k → k < w.heap.size → W1.heap[k]? = w.heap[k]? := fun k h2 h3 => by
    rw [← hW1, Below.heap_alloc _ _ _ (by simp [World.setCell]; omega), heap_setCell_other _ _ _ _ (by show k ≠ b; exact fun e => h2 e.symm)]
  have hb1 : Below b w W1 := by rw [← hW1]; exact ((Below.refl _ _).setCell (Nat.le_refl b) _).alloc (by simp [World.setCell]; omega) _
  rw [hW1]
  clear hW1
  have hs1 := hb1.size
  have hc1 : W1.cell? ⟨b, 0, none⟩ = some (.slice (some ⟨g, 0, none⟩) (l.length + 1) cap) := cell_of_row W1 b 0 _ _ _ hh1
  have hsrc := Lib.hid (show ∀ j u, (flat (l.drop i))[j]? = some u → W1.cell? ((⟨g, i * 2, none⟩ : Addr).add j) = some u from fun j u hj => by
    rw [Addr.add_lit, cell_of_row W1 g _ _ _ _ hg1, List.getElem?_toArray]
    rw [← flat_drop, ← hct'.out, List.getElem?_drop, List.getElem?_take] at hj
    split at hj
    · exact hj
    · cases hj)
  replace hg1 := Lib.hid hg1
  replace hh1 := Lib.hid hh1
  replace hbx1 := Lib.hid hbx1
  replace hb1 := Lib.hid hb1
  replace hK1 := Lib.hid hK1
  have hfl : Hid ((flat (l.drop i)).length = (l.length - i) * 2) := by show _ = _; rw [flat_len, List.length_drop]
  have hwr : IntKind.i64.wrap ((i : Int) + 1) = (i : Int) + 1 := by rw [IntKind.wrap_i64]; omega
  have hp0 : (0 : Int) ≤ (i : Int) + 1 := by omega
  have hp1 : (i : Int) + 1 ≤ (l.length : Int) + 1 := by omega
  have hp2 : ((i : Int) + 1).toNat = i + 1 := by omega
  have hp3 : (i : Int) ≤ (l.length : Int) + 1 := by omega
  have hp4 : ¬ (cap = i + 1) := by omega
  have hp5 : ¬ (cap = i) := by omega
  go_region_law (refine step_copy2 rfl (.tmp 49) (.tmp 55) 64 64 rfl 50 Tryd.underlying64 (by kernel_rfl) g ((i + 1) * 2) (l.length + 1 - (i + 1)) (cap - (i + 1)) ⟨g, i * 2, none⟩ (l.length + 1 - i) (cap - i) (by simp [Act.eval, Act.put]) (by simp [Act.eval, Act.put]) cur 50 hg1.out (flat (l.drop i)) (l.length - i) (show l.length - i = min (l.length + 1 - i) (l.length + 1 - (i + 1)) by omega) hfl.out hsrc.out (by rw [hfl.out, hcl'.out]; omega) (flat_one _) b w (by first | exact hb1.out | exact hb1.out.drew | exact hb1.out.drew.drew) (by omega) ?_; intro w2 hg2 hk2 hs2 hb2)
  all_goals
    have hg2' := Lib.hid hg2
    have hh2 : w2.heap[b]? = some (.cells #[.slice (some ⟨g, 0, none⟩) (l.length + 1) cap] 66 (0, 0)) := (hk2 b hne).trans hh1.out
    have hc2 : w2.cell? ⟨b, 0, none⟩ = some (.slice (some ⟨g, 0, none⟩) (l.length + 1) cap) := cell_of_row w2 b 0 _ _ _ hh2
    have hbx2 := (hk2 w.heap.size (by omega)).trans hbx1.out
    have hx20 : w2.cell? ⟨w.heap.size, 0, none⟩ = some (.int .u32 x0) := cell_of_row w2 _ 0 _ _ _ hbx2
    have hx21 : w2.cell? ⟨w.heap.size, 1, none⟩ = some (.int .u32 x1) := cell_of_row w2 _ 1 _ _ _ hbx2
    have hsl : (splice cur ((i + 1) * 2) (flat (l.drop i))).length = cap * 2 := by rw [length_splice _ _ _ (by rw [hfl.out, hcl'.out]; omega), hcl'.out]
    obtain ⟨y0, hy0⟩ : ∃ y, w2.cell? ⟨g, i * 2, none⟩ = some y := ⟨_, (cell_of_row w2 g (i * 2) _ _ _ hg2).trans (by rw [List.getElem?_toArray, List.getElem?_eq_getElem (by omega)])⟩
    obtain ⟨y1, hy1⟩ : ∃ y, w2.cell? ⟨g, i * 2 + 1, none⟩ = some y := ⟨_, (cell_of_row w2 g (i * 2 + 1) _ _ _ hg2).trans (by rw [List.getElem?_toArray, List.getElem?_eq_getElem (by omega)])⟩
    have hfy0 := frozen_of_row w2 g (i * 2) _ _ hg2
    have hfy1 := frozen_of_row w2 g (i * 2 + 1) _ _ hg2
    have hend : SetAt G b (l.take i ++ (x0, x1) :: l.drop i) ((w2.setCell ⟨g, i * 2, none⟩ (.int .u32 x0)).setCell ⟨g, i * 2 + 1, none⟩ (.int .u32 x1)) := by
      have hlen : (l.take i ++ (x0, x1) :: l.drop i).length = l.length + 1 := by simp; omega
      have hG : ((w2.setCell ⟨g, i * 2, none⟩ (.int .u32 x0)).setCell ⟨g, i * 2 + 1, none⟩ (.int .u32 x1)).heap[g]? = some (.cells ((splice cur ((i + 1) * 2) (flat (l.drop i))).set (i * 2) (.int .u32 (x0 : Int)) |>.set (i * 2 + 1) (.int .u32 (x1 : Int))).toArray 50 (0, 0)) := by
        rw [heap_setCell_same _ g (i * 2 + 1) _ _ _ (heap_setCell_same w2 g (i * 2) _ _ _ hg2)]
        simp
      refine ⟨.slice (some ⟨g, 0, none⟩) (l.length + 1) cap, ?_, ?_, ?_⟩
      · rw [heap_setCell_other _ _ _ _ (by show b ≠ g; omega), heap_setCell_other _ _ _ _ (by show b ≠ g; omega)]; exact hh2
      · rw [← hlen]
        exact RowQ.of_block hG hbg (by omega) hmx (by simp; exact hsl) (room_pure cur l i cap (x0, x1) hcl'.out hct'.out hi hcap)
      · refine hgd.out.step (fun k h1 h2 h3 => ?_) (.inl rfl)
        have hkg : k ≠ g := fun e => h1 (by rw [e])
        rw [heap_setCell_other _ _ _ _ (by show k ≠ g; exact hkg), heap_setCell_other _ _ _ _ (by show k ≠ g; exact hkg)]
        exact (hk2 k hkg).trans (hK1.out k h2 h3)
    have hend' := Lib.hid hend
    have hb3 := Lib.hid (show Below b w ((w2.setCell ⟨g, i * 2, none⟩ (.int .u32 x0)).setCell ⟨g, i * 2 + 1, none⟩ (.int .u32 x1)) from (hb2.setCell (by show b ≤ g; omega) _).setCell (by show b ≤ g; omega) _)
    have hp6 : (i : Int) < (l.length : Int) + 1 := by omega
    clear hg2 hh2 hbx2 hsl hend hk2 hs2 hb2 hwr hp0 hp1 hp2 hp3 hp4 hp5
    go_wp2
    go_region
    all_goals go_wp2
    all_goals go_end0
    all_goals exact ⟨rfl, hend'.out, hb3.out.drew⟩

set_option maxHeartbeats 2000000 in
set_option maxRecDepth 100000 in
theorem insAt_grow (G : Nat → Option Obj) (b i g : Nat) (x : Rg) (l : List Rg) (w : World) (hgd : Gd G (some g) b w) (hv : w.heap[b]? = some (.cells #[.slice (some ⟨g, 0, none⟩) l.length l.length] 66 (0, 0))) (hrow : RowQ w (b + 1) (.slice (some ⟨g, 0, none⟩) l.length l.length) l)
    (hi : i < l.length) (hl : l.length ≤ 10000) :
    Calls Tryd.prog 51 #[.pointer (some ⟨b, 0, none⟩), .int .i64 i, .agg #[.int .u32 x.1, .int .u32 x.2]] w (Put G b (l.take i ++ x :: l.drop i) w) := by
  have hlt : b < w.heap.size := (Array.getElem?_eq_some_iff.1 hv).1
  replace hgd := Lib.hid hgd
  have hc0 : w.cell? ⟨b, 0, none⟩ = some (.slice (some ⟨g, 0, none⟩) l.length l.length) := cell_of_row w b 0 _ _ _ hv
  have hf0 := frozen_of_row w b 0 _ _ hv
  obtain ⟨_, hbg, hgs, _, hmx⟩ := hrow.at
  obtain ⟨cur, hcur, hclen, hctake⟩ := hrow.block
  have hne : ¬ (b = g) := by omega
  have hn1 : ((l.length : Int) == (i : Int)) = false := by simp; omega
  have hn2 : ((i : Int) == (l.length : Int)) = false := by simp; omega
  have hcur' := Lib.hid hcur
  have hct' := Lib.hid hctake
  have hcl' := Lib.hid hclen
  have hv' := Lib.hid hv
  obtain ⟨x0, x1⟩ := x
  clear hv hrow hcur hclen hctake
  obtain ⟨i0, hi0, hz0, hz1, hz2⟩ := info_parts info_seq
  go_enter Tryd.func51, Tryd.ntmps51
  obtain ⟨Z, W2, hZ, hW2, hmk⟩ : ∃ (Z : List Value) (W2 : World), Z.length = l.length * 2 * 2 ∧ W2 = (w.alloc (.cells #[.int .u32 x0, .int .u32 x1] 50)).alloc (.cells Z.toArray 50) ∧
      Sem.run Tryd.prog (Instr.makeSlice 64 (.int .i64 ((l.length : Int) + 1)) (.int .i64 ((l.length : Int) * 2))) (w.alloc (.cells #[.int .u32 x0, .int .u32 x1] 50)) = .ok (.slice (some ⟨w.heap.size + 1, 0, none⟩) (l.length + 1) (l.length * 2)) W2 := by
    have := run_make (P := Tryd.prog) (w.alloc (.cells #[.int .u32 x0, .int .u32 x1] 50)) 64 50 i0 _ Tryd.underlying64 hi0 hz0 .i64 .i64 ((l.length : Int) + 1) ((l.length : Int) * 2) (by omega) (by omega) (by rw [hz2]; omega) (by omega)
    rw [show ((l.length : Int) + 1).toNat = l.length + 1 by omega, show ((l.length : Int) * 2).toNat = l.length * 2 by omega, show (w.alloc (.cells #[.int .u32 x0, .int .u32 x1] 50)).heap.size = w.heap.size + 1 by simp] at this
    exact ⟨(madeCells (Value.agg #[Value.int IntKind.u32 0, Value.int IntKind.u32 0]).cells (l.length * 2 * i0.size)).toList, _, by rw [Array.length_toList, size_madeCells, hz1], rfl, this⟩
  have hw1s : (w.alloc (.cells #[.int .u32 x0, .int .u32 x1] 50)).heap.size = w.heap.size + 1 := by simp
  have hG2 : W2.heap[w.heap.size + 1]? = some (.cells Z.toArray 50 (0, 0)) := by rw [hW2, ← hw1s]; exact heap_alloc_new _ _
  have hg2 : W2.heap[g]? = some (.cells cur.toArray 50 (0, 0)) := by rw [hW2, Below.heap_alloc _ _ _ (by rw [hw1s]; omega), Below.heap_alloc _ _ _ hgs]; exact hcur'.out
  have hh2 : W2.heap[b]? = some (.cells #[.slice (some ⟨g, 0, none⟩) l.length l.length] 66 (0, 0)) := by rw [hW2, Below.heap_alloc _ _ _ (by rw [hw1s]; omega), Below.heap_alloc _ _ _ hlt]; exact hv'.out
  have hx2 : W2.heap[w.heap.size]? = some (.cells #[.int .u32 x0, .int .u32 x1] 50 (0, 0)) := by rw [hW2, Below.heap_alloc _ _ _ (by rw [hw1s]; omega)]; exact heap_alloc_new _ _
  have hK2 : ∀ k, k < w.heap.size → W2.heap[k]? = w.heap[k]? := fun k h3 => by rw [hW2, Below.heap_alloc _ _ _ (by rw [hw1s]; omega), Below.heap_alloc _ _ _ h3]
  have hb2 : Below b w W2 := by rw [hW2]; exact ((Below.refl _ _).alloc (by omega) _).alloc (by rw [hw1s]; omega) _
  have hs2 : W2.heap.size = w.heap.size + 2 := by rw [hW2]; simp
  have hc2 : W2.cell? ⟨b, 0, none⟩ = some (.slice (some ⟨g, 0, none⟩) l.length l.length) := cell_of_row W2 b 0 _ _ _ hh2
  have hsA := Lib.hid (show ∀ j u, (flat (l.take i))[j]? = some u → W2.cell? ((⟨g, 0, none⟩ : Addr).add j) = some u from fun j u hj => by
    rw [Addr.add_lit, Nat.zero_add, cell_of_row W2 g _ _ _ _ hg2, List.getElem?_toArray]
    rw [← flat_take, ← hct'.out, List.getElem?_take, List.getElem?_take] at hj
    split at hj
    · split at hj
      · exact hj
      · cases hj
    · cases hj)
  have hsB := Lib.hid (show ∀ j u, (flat (l.drop i))[j]? = some u → W2.cell? ((⟨g, i * 2, none⟩ : Addr).add j) = some u from fun j u hj => by
    rw [Addr.add_lit, cell_of_row W2 g _ _ _ _ hg2, List.getElem?_toArray]
    rw [← flat_drop, ← hct'.out, List.getElem?_drop, List.getElem?_take] at hj
    split at hj
    · exact hj
    · cases hj)
  replace hG2 := Lib.hid hG2
  replace hg2 := Lib.hid hg2
  replace hh2 := Lib.hid hh2
  replace hx2 := Lib.hid hx2
  replace hb2 := Lib.hid hb2
  replace hK2 := Lib.hid hK2
  replace hs2 := Lib.hid hs2
  have hZ' := Lib.hid hZ
  have hfA : Hid ((flat (l.take i)).length = i * 2) := by show _ = _; rw [flat_len, List.length_take]; congr 1; omega
  have hfB : Hid ((flat (l.drop i)).length = (l.length - i) * 2) := by show _ = _; rw [flat_len, List.length_drop]
  clear hW2 hw1s hZ
  have hp7 : (i : Int) ≤ (l.length : Int) := by omega
  go_upto_region 8 with (fail)
  clear hmk
  go_wp2_with (refine wpList_copy2 rfl (.tmp 62) (.tmp 68) 64 64 rfl 50 Tryd.underlying64 (by kernel_rfl) (w.heap.size + 1) 0 (l.length + 1) (l.length * 2) ⟨g, 0, none⟩ i l.length (by simp [Act.eval, Act.put]) (by simp [Act.eval, Act.put]) Z 50 hG2.out (flat (l.take i)) i (show i = min i (l.length + 1) by omega) hfA.out hsA.out (by rw [hfA.out, hZ'.out]; omega) (flat_one _) b w hb2.out (by omega) ?_; intro W3 hG3 hk3 hs3 hb3)
  have hK3 := Lib.hid (fun k (h3 : k < w.heap.size) => (hk3 k (by omega)).trans (hK2.out k h3))
  have hneG : ∀ k, k < w.heap.size + 1 → W3.heap[k]? = W2.heap[k]? := fun k hk => hk3 k (by omega)
  have hg3 : W3.heap[g]? = _ := (hneG g (by omega)).trans hg2.out
  have hh3 : W3.heap[b]? = _ := (hneG b (by omega)).trans hh2.out
  have hx3 : W3.heap[w.heap.size]? = _ := (hneG _ (by omega)).trans hx2.out
  have hc3 : W3.cell? ⟨b, 0, none⟩ = some (.slice (some ⟨g, 0, none⟩) l.length l.length) := cell_of_row W3 b 0 _ _ _ hh3
  have hsB3 := Lib.hid (show ∀ j u, (flat (l.drop i))[j]? = some u → W3.cell? ((⟨g, i * 2, none⟩ : Addr).add j) = some u from fun j u hj => by
    rw [← hsB.out j u hj, Addr.add_lit, cell_of_row W3 g _ _ _ _ hg3, cell_of_row W2 g _ _ _ _ hg2.out])
  obtain ⟨Z1, hZ1⟩ : ∃ Z1, splice Z 0 (flat (l.take i)) = Z1 := ⟨_, rfl⟩
  have hZ1l : Hid (Z1.length = l.length * 2 * 2) := by show _ = _; rw [← hZ1, length_splice _ _ _ (by rw [hfA.out, hZ'.out]; omega), hZ'.out]
  rw [hZ1] at hG3
  have hZ1' := Lib.hid hZ1
  replace hG3 := Lib.hid hG3
  replace hh3 := Lib.hid hh3
  replace hx3 := Lib.hid hx3
  replace hb3 := Lib.hid hb3
  replace hs3 := Lib.hid hs3
  clear hneG hk3 hg3 hZ1
  have hwr : IntKind.i64.wrap ((i : Int) + 1) = (i : Int) + 1 := by rw [IntKind.wrap_i64]; omega
  have hp0 : (0 : Int) ≤ (i : Int) + 1 := by omega
  have hp1 : (i : Int) + 1 ≤ (l.length : Int) + 1 := by omega
  have hp2 : ((i : Int) + 1).toNat = i + 1 := by omega
  have hp4 : ¬ (l.length * 2 = i + 1) := by omega
  have hp5 : ¬ (l.length = i) := by omega
  go_region_law (refine step_copy2 rfl (.tmp 73) (.tmp 79) 64 64 rfl 50 Tryd.underlying64 (by kernel_rfl) (w.heap.size + 1) ((i + 1) * 2) (l.length + 1 - (i + 1)) (l.length * 2 - (i + 1)) ⟨g, i * 2, none⟩ (l.length - i) (l.length - i) (by simp [Act.eval, Act.put]) (by simp [Act.eval, Act.put]) Z1 50 hG3.out (flat (l.drop i)) (l.length - i) (show l.length - i = min (l.length - i) (l.length + 1 - (i + 1)) by omega) hfB.out hsB3.out (by rw [hfB.out, hZ1l.out]; omega) (flat_one _) b w (by first | exact hb3.out | exact hb3.out.drew | exact hb3.out.drew.drew) (by omega) ?_; intro W4 hG4 hk4 hs4 hb4)
  all_goals
    have hh4 : W4.heap[b]? = _ := (hk4 b (by omega)).trans hh3.out
    have hx4 : W4.heap[w.heap.size]? = _ := (hk4 w.heap.size (by omega)).trans hx3.out
    have hc4 : W4.cell? ⟨b, 0, none⟩ = some (.slice (some ⟨g, 0, none⟩) l.length l.length) := cell_of_row W4 b 0 _ _ _ hh4
    have hf4 := frozen_of_row W4 b 0 _ _ hh4
    have hx40 : W4.cell? ⟨w.heap.size, 0, none⟩ = some (.int .u32 x0) := cell_of_row W4 _ 0 _ _ _ hx4
    have hx41 : W4.cell? ⟨w.heap.size, 1, none⟩ = some (.int .u32 x1) := cell_of_row W4 _ 1 _ _ _ hx4
    have hsl : (splice Z1 ((i + 1) * 2) (flat (l.drop i))).length = l.length * 2 * 2 := by rw [length_splice _ _ _ (by rw [hfB.out, hZ1l.out]; omega), hZ1l.out]
    obtain ⟨y0, hy0⟩ : ∃ y, W4.cell? ⟨w.heap.size + 1, i * 2, none⟩ = some y := ⟨_, (cell_of_row W4 _ (i * 2) _ _ _ hG4).trans (by rw [List.getElem?_toArray, List.getElem?_eq_getElem (by omega)])⟩
    obtain ⟨y1, hy1⟩ : ∃ y, W4.cell? ⟨w.heap.size + 1, i * 2 + 1, none⟩ = some y := ⟨_, (cell_of_row W4 _ (i * 2 + 1) _ _ _ hG4).trans (by rw [List.getElem?_toArray, List.getElem?_eq_getElem (by omega)])⟩
    have hfy0 := frozen_of_row W4 (w.heap.size + 1) (i * 2) _ _ hG4
    have hfy1 := frozen_of_row W4 (w.heap.size + 1) (i * 2 + 1) _ _ hG4
    obtain ⟨W5, hW5⟩ : ∃ W5, W5 = W4.setCell ⟨b, 0, none⟩ (.slice (some ⟨w.heap.size + 1, 0, none⟩) (l.length + 1) (l.length * 2)) := ⟨_, rfl⟩
    have hh5 : W5.heap[b]? = some (.cells #[.slice (some ⟨w.heap.size + 1, 0, none⟩) (l.length + 1) (l.length * 2)] 66 (0, 0)) := by rw [hW5, heap_setCell_same W4 b 0 _ _ _ hh4]; rfl
    have hG5 : W5.heap[w.heap.size + 1]? = _ := (show W5.heap[w.heap.size + 1]? = W4.heap[w.heap.size + 1]? by rw [hW5]; exact heap_setCell_other _ _ _ _ (by show w.heap.size + 1 ≠ b; omega)).trans hG4
    have hb5 : Below b w W5 := by rw [hW5]; exact hb4.setCell (Nat.le_refl b) _
    have hK5 : ∀ k, b ≠ k → k < w.heap.size → W5.heap[k]? = w.heap[k]? := fun k h2 h3 => (show W5.heap[k]? = W4.heap[k]? by rw [hW5]; exact heap_setCell_other _ _ _ _ (by show k ≠ b; exact fun e => h2 e.symm)).trans ((hk4 k (by omega)).trans (hK3.out k h3))
    have hend : SetAt G b (l.take i ++ (x0, x1) :: l.drop i) ((W5.setCell ⟨w.heap.size + 1, i * 2, none⟩ (.int .u32 x0)).setCell ⟨w.heap.size + 1, i * 2 + 1, none⟩ (.int .u32 x1)) := by
      have hlen : (l.take i ++ (x0, x1) :: l.drop i).length = l.length + 1 := by simp; omega
      have hG : ((W5.setCell ⟨w.heap.size + 1, i * 2, none⟩ (.int .u32 x0)).setCell ⟨w.heap.size + 1, i * 2 + 1, none⟩ (.int .u32 x1)).heap[w.heap.size + 1]? = some (.cells ((splice Z1 ((i + 1) * 2) (flat (l.drop i))).set (i * 2) (.int .u32 (x0 : Int)) |>.set (i * 2 + 1) (.int .u32 (x1 : Int))).toArray 50 (0, 0)) := by
        rw [heap_setCell_same _ _ (i * 2 + 1) _ _ _ (heap_setCell_same W5 _ (i * 2) _ _ _ hG5)]
        simp
      refine ⟨.slice (some ⟨w.heap.size + 1, 0, none⟩) (l.length + 1) (l.length * 2), ?_, ?_, ?_⟩
      · rw [heap_setCell_other _ _ _ _ (by show b ≠ w.heap.size + 1; omega), heap_setCell_other _ _ _ _ (by show b ≠ w.heap.size + 1; omega)]; exact hh5
      · rw [← hlen]
        exact RowQ.of_block hG (by omega) (by omega) (by unfold maxLen; omega) (by simp; exact hsl) (by rw [← hZ1'.out]; exact grow_pure Z l i (x0, x1) hZ'.out hi)
      · refine hgd.out.step (fun k h1 h2 h3 => ?_) (.inr ⟨w.heap.size + 1, by omega, rfl⟩)
        rw [heap_setCell_other _ _ _ _ (by show k ≠ w.heap.size + 1; omega), heap_setCell_other _ _ _ _ (by show k ≠ w.heap.size + 1; omega)]
        exact hK5 k h2 h3
    have hb6 : Below b w ((W5.setCell ⟨w.heap.size + 1, i * 2, none⟩ (.int .u32 x0)).setCell ⟨w.heap.size + 1, i * 2 + 1, none⟩ (.int .u32 x1)) := (hb5.setCell (by show b ≤ w.heap.size + 1; omega) _).setCell (by show b ≤ w.heap.size + 1; omega) _
    rw [hW5] at hend hb6
    have hend' := Lib.hid hend
    have hb6' := Lib.hid hb6
    have hp6 : (i : Int) < (l.length : Int) + 1 := by omega
    have hneb : ¬ (b = w.heap.size) := by omega
    have hneb1 : ¬ (b = w.heap.size + 1) := by omega
    clear hK5 hh4 hx4 hsl hk4 hs4 hb4 hwr hp0 hp1 hp2 hp4 hp5 hp7 hG4 hG5 hh5 hb5 hend hb6 hW5
    go_wp2
    go_region
    all_goals go_wp2
    all_goals go_end0
    all_goals exact ⟨rfl, hend'.out, hb6'.out.drew⟩

theorem insAt_any (G : Nat → Option Obj) (b i : Nat) (x : Rg) (l : List Rg) (w : World) (h : SetAt G b l w) (hi : i ≤ l.length) (hl : l.length ≤ 10000) :
    Calls Tryd.prog 51 #[.pointer (some ⟨b, 0, none⟩), .int .i64 i, .agg #[.int .u32 x.1, .int .u32 x.2]] w (Put G b (l.take i ++ x :: l.drop i) w) := by
  rcases Nat.lt_or_ge i l.length with hlt | hge
  · obtain ⟨v, hv, hr, hgd⟩ := h
    obtain ⟨g, cap, rfl, hb, _, hc⟩ := hr.form1 (by omega)
    rcases Nat.lt_or_ge l.length cap with h2 | h2
    · exact insAt_room G b i g cap x l w hgd hv hr hlt h2 hl
    · obtain rfl : cap = l.length := by omega
      exact insAt_grow G b i g x l w hgd hv hr hlt hl
  · obtain rfl : i = l.length := by omega
    rw [List.take_length, List.drop_length]
    exact insAt_end G b x l w h hl
end Go.Proofs.YtajifebphcgcpaaDoor.Own

namespace Go.Proofs.YtajifebphcgcpaaDoor.OfP
open Go.RowKit Go.Proofs.YtajifebphcgcpaaDoor.PFnSeqOf Go.Proofs.YtajifebphcgcpaaDoorW.PrintWords Go.Proofs.YtajifebphcgcpaaDoorW.PrintLast Go.Proofs.YtajifebphcgcpaaDoor.Sets Go.Proofs.YtajifebphcgcpaaDoor.Own
set_option linter.unusedVariables false
set_option linter.unusedSimpArgs false

theorem j2_tells (k : Nat) (x5 : Bool) (v : Bool) (u s t : Rg) (hu : u.2 < 4294967296) : goimap_Seq_Merge.j2 (k + 1) x5 v (u.1 : Int) (u.2 : Int) (t.1 : Int) (t.2 : Int) (s.1 : Int) (s.2 : Int) =
    some (if v = true then ((u.1 : Int), (u.2 : Int), true) else if u.2 + 1 ≥ t.1 ∨ u.2 = 4294967295 then ((u.1 : Int), (t.2 : Int), true) else ((s.1 : Int), (s.2 : Int), x5)) := by
  simp only [goimap_Seq_Merge.j2]
  by_cases hv : v = true
  · rw [if_pos hv, if_pos hv]
  · rw [if_neg hv, if_neg hv]
    by_cases h1 : u.2 = 4294967295
    · rw [if_pos (Or.inr h1)]
      by_cases h2 : ((u.2 : Int) + 1) % 4294967296 ≥ (t.1 : Int)
      · rw [if_pos h2]
      · rw [if_neg h2, if_pos (by omega)]
    · have e : ((u.2 : Int) + 1) % 4294967296 = (u.2 : Int) + 1 := by omega
      rw [e]
      by_cases h2 : u.2 + 1 ≥ t.1
      · rw [if_pos (Or.inl h2), if_pos (by omega)]
      · rw [if_neg (by omega), if_neg (by omega), if_neg (by omega)]
theorem j1_tells (k : Nat) (u s t : Rg) (hu : u.2 < 4294967296) (ht : Okr t) : goimap_Seq_Merge.j1 (k + 1 + 1) false (u.1 : Int) (u.2 : Int) (t.1 : Int) (t.2 : Int) (s.1 : Int) (s.2 : Int) =
    some (if (u.2 ≥ t.2 ∧ t.2 ≠ 0) ∨ u.2 = 0 then ((u.1 : Int), (u.2 : Int), true) else if u.2 + 1 ≥ t.1 then ((u.1 : Int), (t.2 : Int), true) else ((s.1 : Int), (s.2 : Int), false)) := by
  have hz : (((u.2 : Nat) : Int) == 0) = decide (u.2 = 0) := by rw [Bool.eq_iff_iff]; simp
  have ht1 := ht.1
  simp only [goimap_Seq_Merge.j1]
  by_cases h1 : u.2 ≥ t.2
  · rw [if_pos (by omega : (u.2 : Int) ≥ (t.2 : Int))]
    by_cases h2 : t.2 = 0
    · rw [if_pos (by omega : (t.2 : Int) = 0), hz, j2_tells k _ _ u s t hu]
      simp only [decide_eq_true_eq]
      congr 1
      repeat' split
      all_goals first | rfl | (exfalso; omega)
    · rw [if_neg (by omega : ¬ (t.2 : Int) = 0), j2_tells k _ _ u s t hu]
      simp only [if_true]
      congr 1
      repeat' split
      all_goals first | rfl | (exfalso; omega)
  · rw [if_neg (by omega : ¬ (u.2 : Int) ≥ (t.2 : Int)), hz, j2_tells k _ _ u s t hu]
    simp only [decide_eq_true_eq]
    congr 1
    repeat' split
    all_goals first | rfl | (exfalso; omega)
theorem merge_tells {s t : Rg} (hs : Okr s) (ht : Okr t) (k : Nat) : goimap_Seq_Merge.f (k + 1 + 1 + 1) (s.1 : Int) (s.2 : Int) (t.1 : Int) (t.2 : Int) =
    some ((((goMerge s t).1.1 : Nat) : Int), (((goMerge s t).1.2 : Nat) : Int), (goMerge s t).2) := by
  unfold goimap_Seq_Merge.f goMerge
  by_cases he : s = t
  · subst he
    rw [if_pos (by simp), if_pos rfl]
  · rw [if_neg he, if_neg (by
      intro h
      simp at h
      exact he (Prod.ext (by omega) (by omega)))]
    by_cases h1 : s.1 = 0
    · rw [if_pos (by omega), if_neg (by omega), if_pos h1]
      simp only [goimap_Seq_Merge.j0]
      rw [if_neg (by decide), if_pos (by omega)]
      by_cases h2 : t.2 = 0
      · rw [if_pos (by omega), if_pos h2]
      · rw [if_neg (by omega), if_neg h2]
    · rw [if_neg (by omega)]
      by_cases h2 : t.1 = 0
      · rw [if_neg (by omega), if_neg h1, show (((t.1 : Nat) : Int) != 0) = false by simp [h2]]
        simp only [goimap_Seq_Merge.j0]
        rw [if_neg (by decide), if_neg (by omega)]
        by_cases h3 : s.2 = 0
        · rw [if_pos (by omega), if_pos h3]
        · rw [if_neg (by omega), if_neg h3]
      · rw [if_pos ⟨h1, h2⟩, show (((t.1 : Nat) : Int) != 0) = true by simp [h2]]
        simp only [goimap_Seq_Merge.j0, if_true]
        by_cases h3 : s.1 > t.1
        · rw [if_pos (by omega), j1_tells k t s s ht.2.1 hs]
          simp only [if_pos h3]
          repeat' split
          all_goals first | rfl | (exfalso; omega)
        · rw [if_neg (by omega), j1_tells k s s t hs.2.1 ht]
          simp only [if_neg h3]
          repeat' split
          all_goals first | rfl | (exfalso; omega)

theorem merge_any {s t : Rg} (hs : Okr s) (ht : Okr t) (w : World) :
    Calls Tryd.prog 23 #[.agg #[.int .u32 (s.1 : Int), .int .u32 (s.2 : Int)], .agg #[.int .u32 (t.1 : Int), .int .u32 (t.2 : Int)]] w fun e w' =>
      e = .returned (.tuple #[.agg #[.int .u32 ((goMerge s t).1.1 : Int), .int .u32 ((goMerge s t).1.2 : Int)], .bool (goMerge s t).2]) ∧ Below w.heap.size w w' :=
  goimap_Seq_Merge.calls 3 _ _ _ _ _ _ _ w (merge_tells hs ht 0)

theorem rd47 (l : List Rg) (i : Nat) : rd_T50 (l.map enc47) (i : Int) = enc47 (l.getD i d0) := by
  unfold rd_T50
  rw [Int.toNat_natCast, List.getD_eq_getElem?_getD, List.getElem?_map, List.getD_eq_getElem?_getD]
  cases l[i]? <;> rfl
theorem less_tells (x : Rg) (q : Nat) : goimap_Seq_Less.f (x.1 : Int) (x.2 : Int) (q : Int) = some (lessB x q) := by
  unfold goimap_Seq_Less.f lessB
  have hz : (((x.2 : Nat) : Int) != 0) = decide (x.2 ≠ 0) := by rw [Bool.eq_iff_iff]; simp
  by_cases h1 : x.2 < q
  · rw [if_pos (by omega), hz]
    simp [h1]
  · rw [if_neg (by omega)]
    by_cases h2 : q = 0
    · rw [if_pos (by omega), hz]
      simp [h2]
    · rw [if_neg (by omega)]
      simp [h1, h2]
theorem contains_tells (x : Rg) (q : Nat) : ∃ r, goimap_Seq_Contains.f (x.1 : Int) (x.2 : Int) (q : Int) = some r := by
  unfold goimap_Seq_Contains.f
  repeat' split
  all_goals exact ⟨_, rfl⟩
theorem idx_eq {l : List Rg} {q a : Nat} (ha : a ≤ l.length) (h1 : ∀ j, j < a → lessB (l.getD j d0) q = true) (h2 : a < l.length → lessB (l.getD a d0) q = false) : idx l q = a := by
  unfold idx
  induction l generalizing a with
  | nil => simp at ha; simp [ha]
  | cons x l ih =>
    rw [List.takeWhile_cons]
    cases a with
    | zero =>
      have := h2 (by simp)
      simp at this
      rw [this]; rfl
    | succ a =>
      have := h1 0 (by omega)
      simp at this
      rw [if_pos this, List.length_cons, ih (by simpa using ha) (fun j hj => by simpa using h1 (j + 1) (by omega)) (fun h => by simpa using h2 (by simpa using h))]
theorem mono_get {l : List Rg} {q : Nat} (hm : l.Pairwise fun x y => lessB y q = true → lessB x q = true) {j k : Nat} (hjk : j < k) (hk : k < l.length) (h : lessB (l.getD k d0) q = true) : lessB (l.getD j d0) q = true := by
  have := (List.pairwise_iff_getElem.1 hm) j k (by omega) hk hjk
  rw [getD_of_lt l k hk] at h
  rw [getD_of_lt l j (by omega)]
  exact this h
theorem search_run (l : List Rg) (q : Nat) (hm : l.Pairwise fun x y => lessB y q = true → lessB x q = true) (hn : l.length < 1000000) : ∀ (d a b : Nat), b - a ≤ d → a ≤ b → b < l.length → (∀ j, j < a → lessB (l.getD j d0) q = true) → (b = l.length - 1 ∨ lessB (l.getD b d0) q = false) →
    ∃ ok, goimap_SeqSet_search.l0 (d + 1) (q : Int) (a : Int) (b : Int) (l.map enc47) = some ((idx l q : Int), ok)
  | d, a, b, hd, hab, hb, h1, h2 => by
    rw [goimap_SeqSet_search.l0]
    by_cases hlt : a < b
    · obtain ⟨d, rfl⟩ : ∃ d', d = d' + 1 := ⟨d - 1, by omega⟩
      have hw : wrap64 ((a : Int) + (b : Int)) / 2 = (((a + b) / 2 : Nat) : Int) := by unfold wrap64; omega
      have hmid : (a + b) / 2 < b := by omega
      rw [if_pos (by omega), hw, if_pos (by omega), if_pos (by rw [List.length_map]; omega), rd47, show (enc47 (l.getD ((a + b) / 2) d0)).f0 = ((l.getD ((a + b) / 2) d0).1 : Int) from rfl, show (enc47 (l.getD ((a + b) / 2) d0)).f1 = ((l.getD ((a + b) / 2) d0).2 : Int) from rfl, less_tells]
      rw [Option.bind_some]
      by_cases hless : lessB (l.getD ((a + b) / 2) d0) q = true
      · rw [if_pos hless, show wrap64 (((((a + b) / 2 : Nat) : Int)) + 1) = (((a + b) / 2 + 1 : Nat) : Int) by unfold wrap64; omega]
        exact search_run l q hm hn d _ b (by omega) (by omega) hb (fun j hj => by
          rcases Nat.lt_or_ge j ((a + b) / 2) with h | h
          · exact mono_get hm h (by omega) hless
          · rw [show j = (a + b) / 2 by omega]; exact hless) h2
      · rw [if_neg hless]
        exact search_run l q hm hn d a _ (by omega) (by omega) (by omega) h1 (.inr (by simpa using hless))
    · obtain rfl : a = b := by omega
      rw [if_neg (by omega), if_neg (by omega), if_pos (by omega), if_pos (by rw [List.length_map]; omega), rd47, show (enc47 (l.getD a d0)).f0 = ((l.getD a d0).1 : Int) from rfl, show (enc47 (l.getD a d0)).f1 = ((l.getD a d0).2 : Int) from rfl, less_tells, Option.bind_some]
      by_cases hless : lessB (l.getD a d0) q = true
      · rw [if_pos hless]
        have hal : a = l.length - 1 := by
          rcases h2 with h | h
          · exact h
          · rw [hless] at h; cases h
        refine ⟨false, ?_⟩
        rw [idx_eq (a := l.length) (Nat.le_refl _) (fun j hj => by
          rcases Nat.lt_or_ge j a with h | h
          · exact h1 j h
          · rw [show j = a by omega]; exact hless) (fun h => absurd h (Nat.lt_irrefl _)), List.length_map]
      · rw [if_neg hless]
        obtain ⟨r, hr⟩ := contains_tells (l.getD a d0) q
        rw [hr, Option.bind_some]
        exact ⟨r, by rw [idx_eq (Nat.le_of_lt hb) h1 (fun _ => by simpa using hless)]⟩
theorem search_tells {l : List Rg} (h : Canon l) (hn : l.length < 1000000) {q : Nat} (hq : q < 4294967296) : ∃ k ok, goimap_SeqSet_search.f k (l.map enc47) (q : Int) = some ((idx l q : Int), ok) := by
  unfold goimap_SeqSet_search.f
  rw [List.length_map]
  by_cases h0 : l.length = 0
  · obtain rfl := List.eq_nil_of_length_eq_zero h0
    refine ⟨1, false, ?_⟩
    have hw : wrap64 ((([] : List Rg).length : Int) - 1) = -1 := by show wrap64 ((0 : Int) - 1) = -1; unfold wrap64; omega
    rw [hw, goimap_SeqSet_search.l0, if_neg (by decide), if_pos (by decide)]
    rfl
  · have hw : wrap64 ((l.length : Int) - 1) = ((l.length - 1 : Nat) : Int) := by unfold wrap64; omega
    rw [hw]
    obtain ⟨ok, h⟩ := search_run l q (canon_mono h q hq) hn (l.length - 1) 0 (l.length - 1) (by omega) (by omega) (by omega) (fun j hj => by omega) (.inl rfl)
    exact ⟨_, ok, h⟩
theorem search_any {l : List Rg} (h : Canon l) (hn : l.length < 1000000) {q : Nat} (hq : q < 4294967296) {w : World} {base : Nat} {v : Value} (hr : RowQ w base v l) :
    ∃ ok, Calls Tryd.prog 45 #[.agg #[v], .int .u32 (q : Int)] w fun e w' => e = .returned (.tuple #[.int .i64 (idx l q : Int), .bool ok]) ∧ Below w.heap.size w w' := by
  obtain ⟨A, c, rfl, hc, hC⟩ := hr.reads (by omega)
  obtain ⟨k, ok, hk⟩ := search_tells h hn hq
  have := goimap_SeqSet_search.calls k A c (l.map enc47) (q : Int) _ _ w hC (by rw [List.length_map]; exact hc) hk
  rw [List.length_map] at this
  exact ⟨ok, this⟩
end Go.Proofs.YtajifebphcgcpaaDoor.OfP

namespace Go.Proofs.YtajifebphcgcpaaDoor.Sets
set_option linter.unusedVariables false
set_option linter.unusedSimpArgs false
theorem idx_le (l : List Rg) (q : Nat) : idx l q ≤ l.length := by
  unfold idx
  induction l with
  | nil => simp
  | cons x l ih =>
    rw [List.takeWhile_cons]
    split
    · rw [List.length_cons, List.length_cons]; omega
    · simp
def mB (l : List Rg) (v : Rg) : Bool := decide (0 < idx l v.1) && touch (l.getD (idx l v.1 - 1) d0) v
def l1 (l : List Rg) (v : Rg) : List Rg := if mB l v = true then l.set (idx l v.1 - 1) (mrg (l.getD (idx l v.1 - 1) d0) v) else l
theorem l1_len (l : List Rg) (v : Rg) : (l1 l v).length = l.length := by unfold l1; split <;> simp
theorem take_last {l : List Rg} {i : Nat} (hi : i ≤ l.length) (h0 : 0 < i) : (l.take i).getD ((l.take i).length - 1) d0 = l.getD (i - 1) d0 := by
  rw [List.length_take, show min i l.length = i by omega, List.getD_eq_getElem?_getD, List.getElem?_take, if_pos (by omega), List.getD_eq_getElem?_getD]
theorem set_split {l : List Rg} {i : Nat} (hi : i < l.length) (x : Rg) : l.set i x = l.take i ++ x :: l.drop (i + 1) := by
  rw [List.set_eq_take_append_cons_drop, if_pos hi]
theorem ins_m {l : List Rg} {v : Rg} (hm : mB l v = true) : 0 < idx l v.1 ∧ ins l v = l.take (idx l v.1 - 1) ++ (sw (mrg (l.getD (idx l v.1 - 1) d0) v) (l.drop (idx l v.1))).1 :: (sw (mrg (l.getD (idx l v.1 - 1) d0) v) (l.drop (idx l v.1))).2 := by
  unfold mB at hm
  rw [Bool.and_eq_true, decide_eq_true_eq] at hm
  obtain ⟨h0, ht⟩ := hm
  refine ⟨h0, ?_⟩
  have hi := idx_le l v.1
  have hne : ¬ (l.take (idx l v.1) = []) := fun h => by have h2 : (l.take (idx l v.1)).length = 0 := (by rw [h]; rfl); rw [List.length_take] at h2; omega
  unfold ins insA
  rw [if_neg hne, take_last hi h0, if_pos ht, List.length_take, List.take_take]
  rw [show min (min (idx l v.1) l.length - 1) (idx l v.1) = idx l v.1 - 1 by omega]
theorem ins_noA {l : List Rg} {v : Rg} (hm : mB l v = false) : ins l v = insB (l.take (idx l v.1)) v (l.drop (idx l v.1)) := by
  have hi := idx_le l v.1
  unfold ins insA
  by_cases hp : l.take (idx l v.1) = []
  · rw [if_pos hp]
  · have h0 : 0 < idx l v.1 := by
      rcases Nat.eq_zero_or_pos (idx l v.1) with h | h
      · rw [h] at hp; simp at hp
      · exact h
    rw [if_neg hp, take_last hi h0]
    unfold mB at hm
    rw [decide_eq_true h0, Bool.true_and] at hm
    rw [if_neg (by rw [hm]; decide)]
theorem drop_at {l : List Rg} {i : Nat} (hi : i < l.length) : l.drop i = l.getD i d0 :: l.drop (i + 1) := by
  rw [List.drop_eq_getElem_cons hi, List.getD_eq_getElem?_getD, List.getElem?_eq_getElem hi]; rfl
theorem ins_end {l : List Rg} {v : Rg} (hm : mB l v = false) (hi : idx l v.1 = l.length) : ins l v = l.take (idx l v.1) ++ v :: l.drop (idx l v.1) := by
  rw [ins_noA hm, hi, List.drop_length]; rfl
theorem ins_no {l : List Rg} {v : Rg} (hm : mB l v = false) (hi : idx l v.1 < l.length) (ht : touch (l.getD (idx l v.1) d0) v = false) : ins l v = l.take (idx l v.1) ++ v :: l.drop (idx l v.1) := by
  rw [ins_noA hm, drop_at hi]
  exact if_neg (by rw [ht]; decide)
theorem ins_t {l : List Rg} {v : Rg} (hm : mB l v = false) (hi : idx l v.1 < l.length) (ht : touch (l.getD (idx l v.1) d0) v = true) :
    ins l v = l.take (idx l v.1) ++ (sw (mrg (l.getD (idx l v.1) d0) v) (l.drop (idx l v.1 + 1))).1 :: (sw (mrg (l.getD (idx l v.1) d0) v) (l.drop (idx l v.1 + 1))).2 := by
  rw [ins_noA hm, drop_at hi]
  exact if_pos ht
theorem okr_get {l : List Rg} (h : Canon l) {i : Nat} (hi : i < l.length) : Okr (l.getD i d0) := by
  rw [getD_of_lt l i hi]
  exact h.1 _ (List.getElem_mem hi)
theorem set_get {l : List Rg} {i : Nat} (hi : i < l.length) : l.set i (l.getD i d0) = l := by
  rw [getD_of_lt l i hi]; simp
end Go.Proofs.YtajifebphcgcpaaDoor.Sets

namespace Go.Proofs.YtajifebphcgcpaaDoor.Own
open Go.RowKit
set_option linter.unusedVariables false

/-- The set behind the parts, and whether each is a range. -/
def addF (l : List Sets.Rg) : List ByteArray → List Sets.Rg × Bool
  | [] => (l, true)
  | p :: t => match ps p with
    | none => (l, false)
    | some r => addF (Sets.ins l r) t
/-- The ranges of the parts up to the first that is none. -/
def upto : List ByteArray → List Sets.Rg × Bool
  | [] => ([], true)
  | p :: t => match ps p with
    | none => ([], false)
    | some r => (r :: (upto t).1, (upto t).2)
theorem addF_upto : ∀ (t : List ByteArray) (l : List Sets.Rg), addF l t = ((upto t).1.foldl Sets.ins l, (upto t).2)
  | [], l => rfl
  | p :: t, l => by
    rw [addF, upto]
    cases h : ps p with
    | none => rfl
    | some r => exact addF_upto t (Sets.ins l r)
theorem pn_lt {s : ByteArray} {n : Nat} (h : pn s = some n) : n < 4294967296 := by
  unfold pn at h
  split at h
  · rename_i u hu
    split at h
    · cases h
    · cases h; exact (parseB_ok hu).1
  · split at h
    · cases h; omega
    · cases h
theorem ps_okr {s : ByteArray} {r : Sets.Rg} (h : ps s = some r) : Sets.Okr r := by
  unfold ps at h
  split at h
  · cases hq : pn s with
    | none => rw [hq] at h; cases h
    | some n =>
      rw [hq] at h
      simp only [Option.map_some, Option.some.injEq] at h
      subst h
      have := pn_lt hq
      exact ⟨this, this, Nat.le_refl _⟩
  · split at h
    · cases h
    · rename_i a ha
      split at h
      · cases h
      · rename_i b hb
        cases h
        exact Sets.rng_okr (pn_lt ha) (pn_lt hb)
theorem upto_okr : ∀ (t : List ByteArray), ∀ x ∈ (upto t).1, Sets.Okr x
  | [], x, h => by simp [upto] at h
  | p :: t, x, h => by
    rw [upto] at h
    cases hq : ps p with
    | none => rw [hq] at h; simp at h
    | some r =>
      rw [hq] at h
      simp only [List.mem_cons] at h
      rcases h with rfl | h
      · exact ps_okr hq
      · exact upto_okr t x h
end Go.Proofs.YtajifebphcgcpaaDoor.Own
