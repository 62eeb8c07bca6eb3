/- impl.params' comparison, by hand. sort.Slice over impl.Param, as impl.params calls it: what the row holds is a permutation of what it held. What a range over a map of texts has gathered. No law of the program is proved here. sort.Slice over a row of impl.Param of any length, as impl.params calls it. -/
import Derived.Test.YtldiamldbpobgaaGreatDoorOne
import Derived.Test.YtldiamldbpobgaaGreatDoorShelfC
import Derived.Test.YtldiamldbpobgaaGreatDoorMB
import Derived.Test.YtldiamldbpobgaaGreatDoorMD
import Derived.Sort.Walk0
import Derived.Shelf.SlSortFuncK.WholeK
import Derived.Shelf.GgSortFunc.Tiny
namespace Go.Proofs.YtldiamldbpobgaaGreatDoor.Own
open Go.RowKit Go.Lib Go.Sort
set_option linter.unusedVariables false
set_option linter.unusedSimpArgs false
set_option maxHeartbeats 2000000 in
theorem less_any (blk off c Bs size : Nat) (W : World) (G : Nat → ByteArray) (hs : W.cell? ⟨Bs, 0, none⟩ = some (.slice (some ⟨blk, off, none⟩) size c))
    (hc : ∀ t, t < size → W.cell? ⟨blk, off + t * 2, none⟩ = some (.string (G t))) (i j : Nat) (hi : i < size) (hj : j < size) (_hsz : size < 4611686018427387904) :
    Calls Tryz.prog 25 #[.int .i64 i, .int .i64 j, .pointer (some ⟨Bs, 0, none⟩)] W fun e w' => e = .returned (.bool (ltStr (G i).data.toList (G j).data.toList)) ∧ ∃ q, w' = W.drewN q := by
  have ci := hc i hi
  have cj := hc j hj
  go_enter Tryz.func25, Tryz.ntmps25
  go_wp2
  go_quiet (fail)
  go_wp2
  go_ret
  refine ⟨?_, nq, rfl⟩
  show Ending.returned (.bool (Op.bytesLess (G i).toList (G j).toList)) = _
  rw [bytesLess_eq, ByteArray.toList_eq, ByteArray.toList_eq]
  rfl
end Go.Proofs.YtldiamldbpobgaaGreatDoor.Own

namespace Go.Proofs.YtldiamldbpobgaaGreatDoor.Own
open Go.Shelf Go.RowKit Go.Lib Go.Sort
set_option linter.unusedVariables false
set_option linter.unusedSimpArgs false

def encP (p : KV) : List Value := [.string ⟨p.1.toArray⟩, .string ⟨p.2.toArray⟩]
def ltP (a b : KV) : Bool := ltStr a.1 b.1
theorem swo_ltP : SWO ltP where
  irrefl := fun x => swo_ltStr.irrefl x.1
  trans := fun x y z => swo_ltStr.trans x.1 y.1 z.1
  ntrans := fun x y z => swo_ltStr.ntrans x.1 y.1 z.1
noncomputable def svT : TypeInfo := (Tryz.prog.info? 25).get (by kernel_rfl)
noncomputable def svE : TypeInfo := (Tryz.prog.info? 34).get (by kernel_rfl)
theorem svK (n : Nat) (h2 : 2 ≤ n) : Lib.swapperK n svE 25 = 9 := by
  have a : svE.hasPointers = true := by kernel_rfl
  have b : svE.bytes = 32 := by kernel_rfl
  have c : (n == 0) = false := by simp; omega
  have d : (n == 1) = false := by simp; omega
  simp [Lib.swapperK, a, b, c, d]
theorem sort_any (blk off c Bs : Nat) (d : Array KV) (h2 : 2 ≤ d.size) (hsz : d.size < 4611686018427387904) (w : World) (hH : HoldsK encP 2 w blk off d) (hblk : blk < w.heap.size)
    (hBs : w.cell? ⟨Bs, 0, none⟩ = some (.slice (some ⟨blk, off, none⟩) d.size c)) (hB1 : Bs < w.heap.size) (hB2 : Bs ≠ blk) :
    Calls Tryz.prog 24 #[.iface 25 (.slice (some ⟨blk, off, none⟩) d.size c), .func (.func 25) #[] #[.pointer (some ⟨Bs, 0, none⟩)]] w fun e w' =>
      e = .returned (.tuple #[]) ∧ ∃ d' n os, PermIn 0 d.size d d' ∧ w' = grow (putRowK encP 2 (Sort.ahead w n) blk off d') os := by
  have hless : LessReadsK Tryz.prog 25 #[.pointer (some ⟨Bs, 0, none⟩)] encP 2 ltP blk off d.size w := by
    intro m os dk hs i j hi hj
    have e : sortWorldK encP 2 w blk off m dk os = putRowK encP 2 (grow (Sort.ahead w m) os) blk off dk := by
      unfold sortWorldK; rw [putRowK_grow _ _ (Sort.ahead w m) _ blk off _ hblk]
    have hHg : HoldsK encP 2 (grow (Sort.ahead w m) os) blk off d := holdsK_grow _ _ _ _ blk off d hblk (holdsK_ahead _ _ _ _ _ _ _ hH)
    refine (less_any blk off c Bs d.size _ (fun t => (⟨(dk[t]!).1.toArray⟩ : ByteArray)) ?_ (fun t ht => ?_) i j hi hj (by omega)).mono ?_
    · rw [e, cell?_putRowK_other _ _ _ blk off dk _ (by exact hB2), cell?_grow _ _ _ (by exact hB1)]; exact hBs
    · rw [e]; exact ((holdsK_putRowK _ _ _ blk off d dk hHg hs).cell (i := t) (c := 0) (by omega) (by omega)).1
    · intro e w' h
      exact h
  refine (Any.sort_Slice_cells_sorted Tryz.claysGg6 25 34 svT svE (by kernel_rfl) (by kernel_rfl) (by kernel_rfl) (by kernel_rfl) 25 (fun _ => by kernel_rfl) encP 2 (fun _ => rfl) (by kernel_rfl) (fun _ => by kernel_rfl)
    (fun x v hv => by simp [encP] at hv; rcases hv with rfl | rfl <;> rfl) ltP swo_ltP 25 _
    (enters_of Tryz.func25 (by kernel_rfl) rfl) blk off c d h2 hsz 72 (by rw [svK _ h2]; kernel_rfl) false
    (fun args W => run_callFunc_extern Tryz.func72 (by kernel_rfl) (by kernel_rfl) (by kernel_rfl) (e := Extern.ReflectliteSwapper.swap false) (by kernel_rfl) args W) w hless hH hblk).mono ?_
  rintro e w' ⟨rfl, d', n, os, hp, hso, rfl⟩
  exact ⟨rfl, d', n, os, hp, rfl⟩
end Go.Proofs.YtldiamldbpobgaaGreatDoor.Own

namespace Go.Proofs.YtldiamldbpobgaaGreatDoor.Own
open Go.Shelf Go.RowKit Go.Lib Go.Sort Go.Maps Go.WideMaps
set_option linter.unusedVariables false
set_option linter.unusedSimpArgs false

theorem same_str (a : Lit) (x : List UInt8) : a.sameKey (.string x) = true ↔ a = .string x := by
  cases a <;> simp [Lit.sameKey]
theorem find_key : ∀ (es : List (Lit × DataW Unit)) (q : Lit × DataW Unit) (x : List UInt8), es.Pairwise (fun p q => p.1 ≠ q.1) → q ∈ es → q.1 = .string x → es.find? (fun p => p.1.sameKey (.string x)) = some q
  | [], q, x, _, h, _ => by cases h
  | a :: es, q, x, hp, h, hx => by
    rw [List.pairwise_cons] at hp
    rcases List.mem_cons.1 h with rfl | h
    · rw [List.find?_cons, (same_str _ x).2 hx]
    · have hne : a.1.sameKey (.string x) = false := by
        rw [Bool.eq_false_iff]
        intro h0
        exact hp.1 q h (((same_str _ x).1 h0).trans hx.symm)
      rw [List.find?_cons, hne]
      exact find_key es q x hp.2 h hx
def Gotten (D : DataW Unit) (left : Lit → Bool) (got : List KV) : Prop := Collected D left (got.map Prod.fst) ∧ ∀ p ∈ got, ∀ zd, D.atKey (.string p.1) zd = .lit (.string p.2)
def valOf (D : DataW Unit) (k : List UInt8) : List UInt8 := match D.atKey (.string k) .nil with | .lit (.string v) => v | _ => []
theorem by_keys (D : DataW Unit) (l : List KV) (h : ∀ p ∈ l, ∀ zd, D.atKey (.string p.1) zd = .lit (.string p.2)) : l = (l.map Prod.fst).map fun k => (k, valOf D k) := by
  rw [List.map_map]
  conv => lhs; rw [← List.map_id l]
  apply List.map_congr_left
  intro p hp
  show p = (p.1, valOf D p.1)
  unfold valOf
  rw [h p hp]
theorem gotten_perm {w : World} {b n : Nat} {D : DataW Unit} {left : Lit → Bool} {got al : List KV} (h : Gotten D left got) (hown : w.ownsMap Tryz.prog 9 (plainElem Tryz.prog 9) b n D) (hrep : Rep D al) (hl : ∀ kl, left kl = false) : got.Perm al := by
  have h1 := h.1.perm hown skey Tryz.underlying9 hl
  obtain ⟨es, hD, hpw, _⟩ := hown.entries skey
  obtain ⟨es', hD', hp⟩ := hrep
  have he : es = es' := by rw [hD] at hD'; simpa using hD'
  subst he
  subst hD
  have h2 : (strKeys (.map es)).Perm (al.map Prod.fst) := by
    have := hp.map (fun p => strOf p.1)
    rw [List.map_map] at this
    exact this
  have h3 : ∀ p ∈ al, ∀ zd, (DataW.map es).atKey (.string p.1) zd = .lit (.string p.2) := fun p hpa zd => by
    have hm : ent p ∈ es := hp.mem_iff.2 (List.mem_map_of_mem hpa)
    unfold DataW.atKey
    simp only
    rw [find_key es (ent p) p.1 hpw hm rfl]
    rfl
  rw [by_keys _ got h.2, by_keys _ al h3]
  exact (h1.trans h2).map _
theorem gotten_step {D : DataW Unit} {left : Lit → Bool} {got : List KV} (h : Gotten D left got) (k v : List UInt8) (hlk : left (.string k) = true) (hat : ∀ zd, D.atKey (.string k) zd = .lit (.string v)) : Gotten D (fun z => left z && !z.sameKey (.string k)) (got ++ [(k, v)]) := by
  refine ⟨?_, fun p hp zd => ?_⟩
  · rw [List.map_append]
    exact h.1.step hlk hat
  · rcases List.mem_append.1 hp with hp | hp
    · exact h.2 p hp zd
    · rw [List.mem_singleton.1 hp]; exact hat zd
def cellsP : List KV → List Value
  | [] => []
  | p :: l => .string ⟨p.1.toArray⟩ :: .string ⟨p.2.toArray⟩ :: cellsP l
theorem cellsP_len : ∀ l : List KV, (cellsP l).length = l.length * 2
  | [] => rfl
  | p :: l => by rw [cellsP, List.length_cons, List.length_cons, cellsP_len l, List.length_cons]; omega
theorem cellsP_app : ∀ l m : List KV, cellsP (l ++ m) = cellsP l ++ cellsP m
  | [], m => rfl
  | p :: l, m => by rw [List.cons_append, cellsP, cellsP_app l m, cellsP]; rfl
theorem cellsP_at : ∀ (l : List KV) (i : Nat) (p : KV), l[i]? = some p → (cellsP l)[i * 2]? = some (.string ⟨p.1.toArray⟩) ∧ (cellsP l)[i * 2 + 1]? = some (.string ⟨p.2.toArray⟩)
  | [], i, p, h => by cases h
  | q :: l, 0, p, h => by cases h; exact ⟨rfl, rfl⟩
  | q :: l, i + 1, p, h => by
    have ih := cellsP_at l i p h
    rw [cellsP, show (i + 1) * 2 = i * 2 + 1 + 1 by omega]
    simpa using ih
end Go.Proofs.YtldiamldbpobgaaGreatDoor.Own

namespace Go.Proofs.YtldiamldbpobgaaGreatDoor.Own
open Go.Shelf Go.RowKit Go.Lib Go.Sort Go.Maps Go.WideMaps
set_option linter.unusedVariables false
set_option linter.unusedSimpArgs false

/-- The pairs in a row that v is. -/
def PRow (w : World) (v : Value) (got : List KV) : Prop := (v = .slice none 0 0 ∧ got = []) ∨ ∃ g cap, v = .slice (some ⟨g, 0, none⟩) got.length cap ∧ ∀ j p, got[j]? = some p → w.cell? ⟨g, j * 2, none⟩ = some (.string ⟨p.1.toArray⟩) ∧ w.cell? ⟨g, j * 2 + 1, none⟩ = some (.string ⟨p.2.toArray⟩)
theorem PRow.below {w W : World} {v : Value} {got : List KV} (h : PRow w v got) (hb : Below w.heap.size w W) : PRow W v got := by
  rcases h with h | ⟨g, cap, hv, hc⟩
  · exact Or.inl h
  · exact Or.inr ⟨g, cap, hv, fun j p hj => ⟨(hb.cell (World.block_lt_of_cell? w _ (hc j p hj).1)).trans (hc j p hj).1, (hb.cell (World.block_lt_of_cell? w _ (hc j p hj).2)).trans (hc j p hj).2⟩⟩
theorem addr_add (g j : Nat) : (⟨g, 0, none⟩ : Addr).add j = ⟨g, j, none⟩ := by unfold Addr.add; split <;> simp_all
theorem row_prow {w : World} {base : Nat} {v : Value} {got : List KV} (h : w.ownsRow base 34 2 v got.length (cellsP got)) : PRow w v got := by
  rcases h.2 with ⟨hv, h0⟩ | ⟨g, cap, cur, hv, hbase, hg, hc, hm, hsz, hxs⟩
  · exact Or.inl ⟨hv, List.eq_nil_of_length_eq_zero h0⟩
  · refine Or.inr ⟨g, cap, hv, fun j p hj => ?_⟩
    have h2 := cellsP_at got j p hj
    have e1 := h.cells (g := g) (by rw [hv]; rfl) _ _ h2.1
    have e2 := h.cells (g := g) (by rw [hv]; rfl) _ _ h2.2
    rw [addr_add] at e1 e2
    exact ⟨e1, e2⟩
theorem grow_below (w : World) (os : Array Obj) : Below w.heap.size w (grow w os) :=
  ⟨rfl, rfl, rfl, by rw [size_grow]; omega, fun k hk => by simp [grow, Array.getElem?_append, hk]⟩
theorem put_but (w : World) (g off n : Nat) (d : Array KV) (os : Array Obj) : But g w (grow (putRowK encP 2 (Sort.ahead w n) g off d) os) := by
  have h1 : But g w (putRowK encP 2 (Sort.ahead w n) g off d) := by
    refine ⟨rfl, rfl, rfl, by simp [putRowK, putRow, mapBlock, Sort.ahead], fun k hk hn => ?_⟩
    simp [putRowK, putRow, mapBlock, Sort.ahead, Array.getElem?_modify, Ne.symm hn]
  exact h1.trans (But.of_below (grow_below _ os) (Nat.le_refl _))
theorem svK0 : Lib.swapperK 0 svE 25 = 1 := by simp [Lib.swapperK]
theorem svK1 : Lib.swapperK 1 svE 25 = 2 := by simp [Lib.swapperK]
/-- What is left behind the sort: but for the row's own block nothing has changed; v holds the same pairs, in some order. -/
theorem srt_any (w : World) (s base : Nat) (v : Value) (got : List KV) (hone : One w s 25 v) (hrow : w.ownsRow base 34 2 v got.length (cellsP got)) (hs : s < base) (hbz : base ≤ w.heap.size) (hl : got.length ≤ 1000) :
    Calls Tryz.prog 24 #[.iface 25 v, .func (.func 25) #[] #[.pointer (some ⟨s, 0, none⟩)]] w fun e w' =>
      e = .returned (.tuple #[]) ∧ Below base w w' ∧ One w' s 25 v ∧ ∃ got', got'.Perm got ∧ PRow w' v got' := by
  have hpr := row_prow hrow
  by_cases h1 : got.length ≤ 1
  · have hkey : ∀ p c, v = .slice p got.length c → Calls Tryz.prog 24 #[.iface 25 v, .func (.func 25) #[] #[.pointer (some ⟨s, 0, none⟩)]] w fun e w' => e = .returned (.tuple #[]) ∧ ∃ os, w' = grow w os := fun p c hv => by
      rw [hv]
      rcases (by omega : got.length = 0 ∨ got.length = 1) with h0 | h0
      · rw [h0]
        exact Any.sort_Slice_tiny Tryz.claysGg6 25 34 svT svE (by kernel_rfl) (by kernel_rfl) (by kernel_rfl) (by kernel_rfl) 25 (fun _ => by kernel_rfl) p 0 c (by omega) 64 (by rw [svK0]; kernel_rfl) _ _ _ w
      · rw [h0]
        exact Any.sort_Slice_tiny Tryz.claysGg6 25 34 svT svE (by kernel_rfl) (by kernel_rfl) (by kernel_rfl) (by kernel_rfl) 25 (fun _ => by kernel_rfl) p 1 c (by omega) 65 (by rw [svK1]; kernel_rfl) _ _ _ w
    have hv : ∃ p c, v = .slice p got.length c := by
      rcases hrow.2 with ⟨hv, h0⟩ | ⟨g, cap, cur, hv, _⟩
      · exact ⟨none, 0, by rw [hv, h0]⟩
      · exact ⟨_, _, hv⟩
    obtain ⟨p, c, hv⟩ := hv
    refine (hkey p c hv).mono ?_
    rintro e w' ⟨rfl, os, rfl⟩
    have hg := grow_below w os
    exact ⟨rfl, hg.mono hbz, (hg.block s hone.lt).trans hone, got, List.Perm.refl _, hpr.below hg⟩
  · rcases hrow.2 with ⟨hv, h0⟩ | ⟨g, cap, cur, hv, hbase, hg, _⟩
    · omega
    · have hgl : g < w.heap.size := (Array.getElem?_eq_some_iff.1 hg).1
      have hds : got.toArray.size = got.length := by simp
      have hH : HoldsK encP 2 w g 0 got.toArray := by
        intro j hj
        rw [size_flatK] at hj
        have hi : j / 2 < got.length := by rw [← hds]; omega
        obtain ⟨p, hp⟩ : ∃ p, got[j / 2]? = some p := ⟨_, List.getElem?_eq_getElem hi⟩
        have hpd : got.toArray[j / 2]! = p := by
          rw [getElem!_pos _ _ (by simpa using hi)]
          rw [List.getElem?_eq_getElem hi] at hp
          simpa using hp
        rw [get_flatK _ _ _ _ hj, hpd, Nat.zero_add]
        have h2 := cellsP_at got (j / 2) p hp
        refine ⟨?_, by simp [World.frozen?, hg]⟩
        rcases (by omega : j % 2 = 0 ∨ j % 2 = 1) with hm | hm
        · have hj2 : j = j / 2 * 2 := by omega
          have e1 := hrow.cells (g := g) (by rw [hv]; rfl) _ _ h2.1
          rw [addr_add, ← hj2] at e1
          rw [e1, hm]
          rfl
        · have hj2 : j = j / 2 * 2 + 1 := by omega
          have e1 := hrow.cells (g := g) (by rw [hv]; rfl) _ _ h2.2
          rw [addr_add, ← hj2] at e1
          rw [e1, hm]
          rfl
      have hsg : s ≠ g := by omega
      have hc := sort_any g 0 cap s got.toArray (by rw [hds]; omega) (by rw [hds]; omega) w hH hgl (by rw [hds, ← hv]; exact hone.cell) hone.lt hsg
      rw [hds, ← hv] at hc
      refine hc.mono ?_
      rintro e w' ⟨rfl, d', n, os, hperm, rfl⟩
      have hbut := put_but w g 0 n d' os
      have hd' : d'.size = got.length := by rw [hperm.1]; exact hds
      have hpl : d'.toList.Perm got := by
        have h3 := hperm.2.2
        have e1 : d'.extract 0 got.length = d' := by rw [← hd']; simp
        have e2 : got.toArray.extract 0 got.length = got.toArray := by simp
        rw [e1, e2] at h3
        simpa using h3
      have hH2 : HoldsK encP 2 (grow (putRowK encP 2 (Sort.ahead w n) g 0 d') os) g 0 d' := holdsK_grow _ _ _ _ g 0 d' (by simp [putRowK, putRow, mapBlock, Sort.ahead]; exact hgl) (holdsK_putRowK _ _ _ g 0 got.toArray d' (holdsK_ahead _ _ _ _ _ _ _ hH) (by rw [hd', hds]))
      refine ⟨rfl, ⟨hbut.1, hbut.2.1, hbut.2.2.1, hbut.2.2.2.1, fun k hk => hbut.2.2.2.2 k (by omega) (by omega)⟩, hbut.one hone hsg, d'.toList, hpl, Or.inr ⟨g, cap, ?_, fun j p hj => ?_⟩⟩
      · have hll : d'.toList.length = got.length := by rw [Array.length_toList, hd']
        rw [hll]
        exact hv
      · have hjl : j < d'.size := by
          have := (List.getElem?_eq_some_iff.1 hj).1
          simpa using this
        have hpd : d'[j]! = p := by
          rw [getElem!_pos d' j hjl]
          have := (List.getElem?_eq_some_iff.1 hj).2
          simpa using this
        have c0 := (hH2.cell (i := j) (c := 0) hjl (by decide)).1
        have c1 := (hH2.cell (i := j) (c := 1) hjl (by decide)).1
        rw [hpd] at c0 c1
        rw [Nat.zero_add] at c0 c1
        exact ⟨c0, c1⟩
end Go.Proofs.YtldiamldbpobgaaGreatDoor.Own
