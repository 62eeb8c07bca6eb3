/- (*SeqSet).insert by hand. (*SeqSet).Add by hand: the set behind the parts, the rows beside it as they were. -/
import Derived.Test.YtajifebphcgcpaaDoorJ2
import Derived.Test.YtajifebphcgcpaaDoorJ3
import Derived.Test.YtajifebphcgcpaaDoorMB
import Derived.Test.YtajifebphcgcpaaDoorMC
namespace Go.Proofs.YtajifebphcgcpaaDoor.Own
open Go.RowKit Go.Lib Sets OfP
set_option linter.unusedVariables false
set_option linter.unusedSimpArgs false

set_option maxHeartbeats 80000000 in
set_option maxRecDepth 100000 in
theorem insert_any (G : Nat → Option Obj) (b v0 v1 : Nat) (l : List Rg) (w : World) (h : SetAt G b l w) (hcan : Canon l) (hv : Okr (v0, v1)) (hl : l.length ≤ 10000) :
    Calls Tryd.prog 46 #[.pointer (some ⟨b, 0, none⟩), .agg #[.int .u32 v0, .int .u32 v1]] w (Put G b (ins l (v0, v1)) w) := by
  have hlt := h.lt
  obtain ⟨s, hs, hrow, hgd⟩ := h
  have hc0 : w.cell? ⟨b, 0, none⟩ = some s := cell_of_row w b 0 _ _ _ hs
  obtain ⟨W0, hW0⟩ : ∃ W0, w.alloc (.cells #[.int .u32 (v0 : Int), .int .u32 (v1 : Int)] 50) = W0 := ⟨_, rfl⟩
  have hb0 : Below w.heap.size w W0 := by rw [← hW0]; exact (Below.refl _ _).alloc (Nat.le_refl _) _
  have hx0 : W0.heap[w.heap.size]? = some (.cells #[.int .u32 (v0 : Int), .int .u32 (v1 : Int)] 50 (0, 0)) := by rw [← hW0]; exact heap_alloc_new _ _
  have hs0 : W0.heap[b]? = _ := (hb0.block b hlt).trans hs
  have hr0 := hrow.below hb0
  replace hgd := Lib.hid (hgd.below hb0)
  obtain ⟨ok, hsearch⟩ := search_any hcan (by omega) (q := v0) hv.1 hr0.drew
  obtain ⟨N, hN⟩ : ∃ N, w.heap.size = N := ⟨_, rfl⟩
  rw [hN] at hx0
  have hxa : W0.cell? ⟨N, 0, none⟩ = some (.int .u32 (v0 : Int)) := cell_of_row W0 N 0 _ _ _ hx0
  have hxb : W0.cell? ⟨N, 1, none⟩ = some (.int .u32 (v1 : Int)) := cell_of_row W0 N 1 _ _ _ hx0
  have hcb : W0.cell? ⟨b, 0, none⟩ = some s := cell_of_row W0 b 0 _ _ _ hs0
  obtain ⟨A, c, hsv, hac⟩ : ∃ A c, s = .slice A l.length c ∧ l.length ≤ c := by
    rcases hrow.form with ⟨rfl, rfl⟩ | ⟨g, cap, rfl, _, _, h5⟩
    · exact ⟨_, _, rfl, Nat.le_refl _⟩
    · exact ⟨_, _, rfl, h5⟩
  subst hsv
  have hgN : ∀ a, A = some a → a.block < N := by
    rcases hrow.form with ⟨h, _⟩ | ⟨g, cap, h, _, h4, _⟩
    · intro a ha; rw [ha] at h; simp at h
    · intro a ha; rw [ha] at h; simp only [Value.slice.injEq, Option.some.injEq] at h; rw [h.1, ← hN]; exact h4
  have hbN : b < N := by rw [← hN]; exact hlt
  replace hgN := Lib.hid hgN
  replace hsearch := Lib.hid hsearch
  replace hx0 := Lib.hid hx0
  replace hs0 := Lib.hid hs0
  replace hr0 := Lib.hid hr0
  replace hb0 := Lib.hid hb0
  replace hcan := Lib.hid hcan
  replace hv := Lib.hid hv
  clear hrow
  go_enter Tryd.func46, Tryd.ntmps46
  go_upto_region 1 with (fail)
  clear hW0 hN
  go_cut [4, 5] (fun s4 s5 wx => s4 = .int .i64 (idx l v0 : Int) ∧ s5 = .bool ok ∧ Hid (Below W0.heap.size W0 wx))
  case first =>
    go_region_law (go_simp; go_at_call 45; refine (hsearch.out).mono ?_; rintro e w1 ⟨rfl, hb1⟩)
    all_goals (go_wp2_with fail; go_meet; exact ⟨rfl, rfl, (show Below W0.heap.size W0 w1 from (Below.refl _ _).drew.trans hb1)⟩)
  case rest =>
    obtain ⟨rfl, rfl, hbx⟩ := hcut
    have hsW : b < W0.heap.size := (Array.getElem?_eq_some_iff.1 hs0.out).1
    have hNW : N < W0.heap.size := (Array.getElem?_eq_some_iff.1 hx0.out).1
    have hsc : wc.heap[b]? = _ := (hbx.out.block b hsW).trans hs0.out
    have hxc : wc.heap[N]? = _ := (hbx.out.block N hNW).trans hx0.out
    have hrc := hr0.out.below hbx.out
    replace hgd := Lib.hid (hgd.out.below hbx.out)
    have hbc : Below b w wc := (hb0.out.mono (Nat.le_of_lt hlt)).trans (hbx.out.mono (Nat.le_of_lt hsW))
    have hbw : b < wc.heap.size := (Array.getElem?_eq_some_iff.1 hsc).1
    have hNw : N < wc.heap.size := (Array.getElem?_eq_some_iff.1 hxc).1
    clear hbx hsearch hx0 hs0 hr0 hb0 hs hc0 hcb hxa hxb hsW hNW
    have hcw : wc.cell? ⟨b, 0, none⟩ = some (.slice A l.length c) := cell_of_row wc b 0 _ _ _ hsc
    have hxa : wc.cell? ⟨N, 0, none⟩ = some (.int .u32 (v0 : Int)) := cell_of_row wc N 0 _ _ _ hxc
    have hxb : wc.cell? ⟨N, 1, none⟩ = some (.int .u32 (v1 : Int)) := cell_of_row wc N 1 _ _ _ hxc
    have hil := idx_le l v0
    obtain ⟨i, hi⟩ : ∃ i, idx l v0 = i := ⟨_, rfl⟩
    rw [hi] at hil ⊢
    replace hi := Lib.hid hi
    replace hsc := Lib.hid hsc
    replace hxc := Lib.hid hxc
    replace hrc := Lib.hid hrc
    replace hbc := Lib.hid hbc
    go_upto_if 18 with (fail)
    refine ins_if18 G b v0 v1 l w hl hcan hv ok N A c hac hbN hgN i hil hi wc hsc hxc hrc hgd hbc _ _ _ _ _ _ _ _ _ _ _ _ _ _ _ _ _ _ _ _ _ _ _ _ _ _ _ _ _ _ _ _ _ _ _ _ _ _ _ _ _ _ _ _ _ _ _ _ _ _ _ _ _ _ _ _ _ _ _ _ _ _ _ _ _ _ _ _ _ _ _ _ _ _ _ _ _ _ _ _ _ _ _ _ _ _ _ _ _ _ _ _ _ _ _ _ _ _ _ _ _ _ _ _ _ _ _ _ _ _ _ _ _ _ _ _ _ _ _ _ _ _ _ _ _ _ _ _ _ _ _ _ _ _ _ _ _ _ _ _ _ ?_
    refine Lib.hid ?_
    intro x6 x18 x19 x20 x21 x22 x23 x24 x25 x26 x27 x28 x29 x30 x31 x32 x33 x34 x35 x36 x37 x38 wd hx6 hS hX hB hH
    subst hx6
    obtain ⟨s2, hs2, hr2, hgd2⟩ := hS.out
    replace hgd2 := Lib.hid hgd2
    have hAs : s2 = .slice A l.length c := by have := hs2.symm.trans hH.out; simpa using this
    obtain ⟨A2, c2, hsv2, hac2, hA2⟩ : ∃ A2 c2, s2 = .slice A2 l.length c2 ∧ l.length ≤ c2 ∧ A2 = A := ⟨A, c, hAs, hac, rfl⟩
    replace hA2 := Lib.hid hA2
    clear hAs hH
    subst hsv2
    have hcd : wd.cell? ⟨b, 0, none⟩ = some (.slice A2 l.length c2) := cell_of_row wd b 0 _ _ _ hs2
    have hxa2 : wd.cell? ⟨N, 0, none⟩ = some (.int .u32 (v0 : Int)) := cell_of_row wd N 0 _ _ _ hX.out
    have hxb2 : wd.cell? ⟨N, 1, none⟩ = some (.int .u32 (v1 : Int)) := cell_of_row wd N 1 _ _ _ hX.out
    have hbwd : b < wd.heap.size := (Array.getElem?_eq_some_iff.1 hs2).1
    have hNwd : N < wd.heap.size := (Array.getElem?_eq_some_iff.1 hX.out).1
    replace hs2 := Lib.hid hs2
    replace hr2 := Lib.hid hr2
    clear hsc hxc hrc hbc hbw hNw hcw hxa hxb
    have hSl : mB l (v0, v1) = false → SetAt G b l wd := fun h => by have := hS.out; unfold l1 at this; rw [h] at this; exact this
    have hSm : mB l (v0, v1) = true → SetAt G b (l.set (i - 1) (mrg (l.getD (i - 1) d0) (v0, v1))) wd := fun h => by have := hS.out; unfold l1 at this; rw [h, show idx l (v0, v1).1 = i from hi.out] at this; exact this
    obtain ⟨m, hm⟩ : ∃ m, mB l (v0, v1) = m := ⟨_, rfl⟩
    rw [hm]
    rw [hm] at hSl hSm
    replace hm := Lib.hid hm
    replace hSl := Lib.hid hSl
    replace hSm := Lib.hid hSm
    have hidx : Hid (idx l (v0, v1).1 = i) := hi.out
    clear hS hi
    go_upto_if 45 with (fail)
    refine ins_if45 G b v0 v1 l w hl hcan hv ok N A hbN hgN i hil hidx wd A2 c2 hac2 hA2 hs2 hX hr2 hgd2 hB m hm hSl hSm _ _ _ _ _ _ _ _ _ _ _ _ _ _ _ _ _ _ _ _ _ _ _ _ _ _ _ _ _ _ _ _ _ _ _ _ _ _ _ _ _ _ _ _ _ _ _ _ _ _ _ _ _ _ _ _ _ _ _ _ _ _ _ _ _ _ _ _ _ _ _ _ _ _ _ _ _ _ _ _ _ _ _ _ _ _ _ _ _ _ _ _ _ _ _ _ _ _ _ _ _ _ _ _ _ _ _ _ _ _ _ _ _ _ _ _ _ _ _ _ _ _ _ _ _ _ _ _ _ _ _ _ _ _ _ _ _ _ _ _ _ ?_
    refine Lib.hid ?_
    intro x4 x6 x8 x9 x10 x11 x12 x13 x14 x15 x16 x17 x18 x19 x20 x21 x22 x23 x24 x25 x26 x27 x28 x29 x30 x31 x32 x33 x34 x35 x36 x37 x38 x39 x40 x41 x42 x43 x44 x45 x46 x47 x48 x49 x50 x51 x52 x53 x54 x55 x56 x57 x58 x59 x60 x61 x62 x63 x64 x65 x66 x67 x68 x69 x70 x71 x72 x73 x74 x75 x76 x77 x78 x79 x80 x81 x82 x83 x84 x85 x86 x87 x88 x89 x90 x91 x92 x93 x94 x95 x96 x97 x98 x99 x100 x101 x102 x103 x104 x105 x106 x107 x108 x109 x110 x111 x112 x113 x114 x115 x116 x117 x118 x119 x120 x121 x122 x123 x124 x125 x126 x127 x128 x129 x130 x131 x132 x133 x134 x135 x136 x137 x138 x139 x140 x141 x142 x143 x144 x145 x146 wf k m0 m1 hx4 hx6 hk hok hins hS4 hB4
    subst hx4 hx6
    rename_i Kt hKt
    refine hKt _ _ ?_
    exact ins_tail G b v0 v1 l w hl hcan hv ok N wf k m0 m1 hk hok hins hS4 hB4 _ _ _ _ _ _ _ _ _ _ _ _ _ _ _ _ _ _ _ _ _ _ _ _ _ _ _ _ _ _ _ _ _ _ _ _ _ _ _ _ _ _ _ _ _ _ _ _ _ _ _ _ _ _ _ _ _ _ _ _ _ _ _ _ _ _ _ _ _ _ _ _ _ _ _ _ _ _ _ _ _ _ _ _ _ _ _ _ _ _ _ _ _ _ _ _ _ _ _ _ _ _ _ _ _ _ _ _ _ _ _ _ _ _ _ _ _ _ _ _ _ _ _ _ _ _ _ _ _ _ _ _ _ _ _ _ _ _ _ _ _
end Go.Proofs.YtajifebphcgcpaaDoor.Own

namespace Go.Proofs.YtajifebphcgcpaaDoor.Own
open Go.RowKit Go.Lib Sets
set_option linter.unusedVariables false
set_option linter.unusedSimpArgs false

theorem sw_len : ∀ (q : List Rg) (x : Rg), (sw x q).2.length ≤ q.length
  | [], x => Nat.le_refl _
  | y :: l, x => by
    rw [sw]
    split
    · exact Nat.le_trans (sw_len l _) (by simp)
    · exact Nat.le_refl _
theorem insB_len (p q : List Rg) (v : Rg) : (insB p v q).length ≤ p.length + q.length + 1 := by
  unfold insB
  split
  · simp
  · rename_i z q'
    split
    · have := sw_len q' (mrg z v)
      simp only [List.length_append, List.length_cons]; omega
    · simp only [List.length_append, List.length_cons]; omega
theorem ins_len (l : List Rg) (v : Rg) : (ins l v).length ≤ l.length + 1 := by
  have hl : (l.take (idx l v.1)).length + (l.drop (idx l v.1)).length = l.length := by rw [← List.length_append, List.take_append_drop]
  unfold ins insA
  split
  · have := insB_len (l.take (idx l v.1)) (l.drop (idx l v.1)) v
    omega
  · split
    · have h1 := sw_len (l.drop (idx l v.1)) (mrg ((l.take (idx l v.1)).getD ((l.take (idx l v.1)).length - 1) d0) v)
      have h2 : ((l.take (idx l v.1)).take ((l.take (idx l v.1)).length - 1)).length ≤ (l.take (idx l v.1)).length := by rw [List.length_take]; omega
      simp only [List.length_append, List.length_cons]
      omega
    · have := insB_len (l.take (idx l v.1)) (l.drop (idx l v.1)) v
      omega
theorem ErrCell.belowB {g b : Nat} {w w' : World} (h : ErrCell g w) (hb : Below b w w') (hg : g < b) : ErrCell g w' := by
  obtain ⟨ev, h1, h2⟩ := h
  exact ⟨ev, (hb.cell (p := ⟨g, 0, none⟩) hg).trans h1, h2⟩
/-- The errors' cells lie ahead of block b. -/
def EnvB (b : Nat) (w : World) : Prop := EnvP w ∧ 3 < b ∧ 4 < b
theorem EnvB.belowB {b : Nat} {w w' : World} (h : EnvB b w) (hb : Below b w w') : EnvB b w' :=
  ⟨⟨h.1.1.belowB hb h.2.1, h.1.2.belowB hb h.2.2⟩, h.2⟩
theorem EnvB.mono {b b' : Nat} {w : World} (h : EnvB b w) (hb : b ≤ b') : EnvB b' w := ⟨h.1, by have := h.2.1; omega, by have := h.2.2; omega⟩
theorem SetAt.guardNew {G : Nat → Option Obj} {b g : Nat} {T : Obj} {l : List Rg} {w w1 : World} (h : SetAt G b l w) (hb : Below w.heap.size w w1) (hg : w.heap.size ≤ g) (hT : w1.heap[g]? = some T) : SetAt (addG G g T) b l w1 := by
  have hlt := h.lt
  have h1 := h.below hb
  refine h1.guard (by omega) hT fun v hv e => ?_
  obtain ⟨v', h2, h3, h4⟩ := h
  have h5 := (hb.block b hlt).trans h2
  have h6 : v = v' := by have := hv.symm.trans h5; simpa using this
  subst h6
  rcases h3.form with ⟨rfl, _⟩ | ⟨g', c, rfl, _, hlt', _⟩
  · cases e
  · have : g' = g := Option.some.inj e
    omega
theorem SetAt.freshG {G : Nat → Option Obj} {b g : Nat} {l : List Rg} {w : World} (h : SetAt G b l w) (hg : w.heap.size ≤ g) : G g = .none := by
  obtain ⟨v, _, _, h3⟩ := h
  cases hq : G g with
  | none => rfl
  | some T =>
    have := (Array.getElem?_eq_some_iff.1 (h3 g T hq).2.2).1
    omega
theorem addF_len : ∀ (t : List ByteArray) (l : List Rg), (addF l t).1.length ≤ l.length + t.length
  | [], l => by simp [addF]
  | p :: t, l => by
    rw [addF]
    split
    · simp
    · rename_i r _
      have h1 := addF_len t (ins l r)
      have h2 := ins_len l r
      rw [List.length_cons]; omega
theorem addF_canon : ∀ (t : List ByteArray) (l : List Rg), Canon l → Canon (addF l t).1
  | [], l, h => h
  | p :: t, l, h => by
    rw [addF]
    cases hq : ps p with
    | none => exact h
    | some r => exact addF_canon t _ (ins_ok h (ps_okr hq)).1
theorem splitN_mem (n : Nat) : ∀ (s p : ByteArray), p ∈ splitN n s → p.size ≤ s.size := by
  induction n with
  | zero => intro s p h; simp [splitN] at h; subst h; exact Nat.le_refl _
  | succ n ih =>
    intro s p h
    rw [splitN] at h
    split at h
    · simp at h; subst h; exact Nat.le_refl _
    · rw [List.mem_cons] at h
      rcases h with rfl | h
      · simp; omega
      · have := ih _ _ h
        simp at this; omega
def AddIs (G : Nat → Option Obj) (b : Nat) (l : List Rg) (s : ByteArray) (w : World) (e : Ending) (w' : World) : Prop :=
  ∃ ev, e = .returned ev ∧ ErrQ (!(addF l (parts s)).2) ev ∧ SetAt G b (addF l (parts s)).1 w' ∧ Below b w w'

set_option maxHeartbeats 2000000 in
set_option maxRecDepth 100000 in
theorem add_any (G : Nat → Option Obj) (b : Nat) (l : List Rg) (s : ByteArray) (w : World) (h : SetAt G b l w) (hcan : Canon l) (hs : s.size ≤ 500) (hl : l.length ≤ 9000) (henv : EnvB b w) :
    Calls Tryd.prog 37 #[.pointer (some ⟨b, 0, none⟩), .string s] w (AddIs G b l s w) := by
  have hsp := Lib.hid (fun W => split_any s (by omega) W)
  have hlt := h.lt
  have hpl : (parts s).length ≤ 501 := by have := splitN_len s.size s; unfold parts; omega
  replace h := Lib.hid h
  replace hcan := Lib.hid hcan
  replace henv := Lib.hid henv
  go_enter Tryd.func37, Tryd.ntmps37
  go_wp2_with fail
  refine (hsp.out _).mono ?_
  rintro e w1 ⟨g, cap, rfl, hown, hb1⟩
  obtain ⟨hx1, hx2⟩ := hown
  obtain ⟨cur, hgw, hgc, hpc, htk⟩ : ∃ cur : Array Value, w.heap.size ≤ g ∧ w1.heap[g]? = some (.cells cur 9 (0, 0)) ∧ (parts s).length ≤ cap ∧ cur.toList.take (parts s).length = (parts s).map Value.string := by
    rcases hx2 with ⟨h1, _⟩ | ⟨g', cap', cur, hv, hb, hg, hc, hm, hsz, ht⟩
    · simp at h1
    · simp only [Value.slice.injEq, Option.some.injEq, Addr.mk.injEq, and_true, true_and] at hv
      obtain ⟨rfl, rfl⟩ := hv
      exact ⟨cur, hb, hg, hc, by simpa using ht⟩
  have hS1 := Lib.hid (h.out.guardNew hb1 hgw hgc)
  have hB1 := Lib.hid (hb1.mono (Nat.le_of_lt hlt))
  have hG0 := Lib.hid (h.out.freshG hgw)
  have htk' := Lib.hid htk
  have hgc' := Lib.hid hgc
  have hpm := Lib.hid (fun p (h : p ∈ parts s) => splitN_mem s.size s p h)
  clear hx1 hx2 htk hgc hb1
  go_wp2_with fail
  go_loopw [12] (fun s12 wr => ∃ (k : Nat) (lk : List Rg), s12 = .int .i64 (k : Int) ∧ k ≤ (parts s).length ∧ lk.length ≤ l.length + k ∧ Hid (Canon lk) ∧ Hid (addF l (parts s) = addF lk ((parts s).drop k)) ∧ Hid (SetAt (addG G g (.cells cur 9 (0, 0))) b lk wr) ∧ Hid (Below b w wr)) (fun s12 _ => (parts s).length - (RowKit.intOf s12).toNat)
  case atStart => exact ⟨0, l, rfl, Nat.zero_le _, Nat.le_refl _, hcan, rfl, hS1, hB1⟩
  case round =>
    obtain ⟨wx, hwx⟩ : ∃ wx : World, wx = wr := ⟨_, rfl⟩
    rw [← hwx] at hrel ⊢
    clear hwx
    obtain ⟨k, lk, rfl, hk, hlk, hcan1, hrest, hS, hB⟩ := hrel
    rcases Nat.lt_or_ge k (parts s).length with hlt2 | hge
    · obtain ⟨p, hp⟩ : ∃ p, (parts s)[k]? = some p := ⟨_, List.getElem?_eq_getElem hlt2⟩
      have hpsz : p.size ≤ 1000000 := by have := hpm.out p (List.mem_of_getElem? hp); omega
      have hT := (hS.out.open hG0.out).2
      have hcell : wx.cell? ⟨g, k, none⟩ = some (.string p) := by
        rw [cell_of_row wx g k _ _ _ hT, ← Array.getElem?_toList]
        have h1 : (cur.toList.take (parts s).length)[k]? = some (.string p) := by rw [htk'.out, List.getElem?_map, hp]; rfl
        rw [List.getElem?_take, if_pos hlt2] at h1
        exact h1
      have hdr : (parts s).drop k = p :: (parts s).drop (k + 1) := by
        rw [List.drop_eq_getElem_cons hlt2]
        rw [List.getElem?_eq_getElem hlt2] at hp
        rw [Option.some.inj hp]
      have hstep := hrest.out
      rw [hdr, addF] at hstep
      have hcall := Lib.hid (parseSeq_any p hpsz wx (henv.out.belowB hB.out).1)
      replace hstep := Lib.hid hstep
      clear hdr hp hT
      have hk1 : (k : Int) < ((parts s).length : Int) := by omega
      go_wp2_with fail
      refine (hcall.out).mono ?_
      rintro e w2 ⟨x, y, ev, rfl, herr, hxy, hb2⟩
      have hSb := Lib.hid (hS.out.below hb2)
      have hBb := Lib.hid (hB.out.trans (hb2.mono (Nat.le_of_lt hS.out.lt)))
      have hbw2 := hSb.out.lt
      cases hq : ps p with
      | none =>
        rw [hq] at herr
        obtain ⟨T, z, rfl⟩ := herr.2 rfl
        have hfin := hstep.out
        rw [hq] at hfin
        have hend : AddIs G b l s w (.returned (.iface T z)) (w2.alloc (.cells #[.int .u32 x, .int .u32 y] 50)) := by
          refine ⟨_, rfl, ?_, ?_, ?_⟩
          · rw [hfin]; exact ⟨(fun h => by cases h), fun _ => ⟨T, z, rfl⟩⟩
          · rw [hfin]
            exact ((hSb.out.open hG0.out).1).below ((Below.refl _ _).alloc (Nat.le_refl _) _)
          · exact hBb.out.alloc (Nat.le_of_lt hbw2) _
        replace hend := Lib.hid hend
        clear hq hfin herr hxy
        go_wp2_with fail
        go_ret
        exact hend.out
      | some r =>
        rw [hq] at herr
        obtain rfl := herr.1 rfl
        obtain ⟨rfl, rfl⟩ := hxy r hq
        have hfin := hstep.out
        rw [hq] at hfin
        have hrok := ps_okr hq
        have hins := ins_len lk r
        obtain ⟨r0, r1⟩ := r
        replace hfin := Lib.hid hfin
        replace hrok := Lib.hid hrok
        have hcan2 := Lib.hid (ins_ok hcan1.out hrok.out).1
        have hW : Hid (∀ W, Below w2.heap.size w2 W → SetAt (addG G g (.cells cur 9 (0, 0))) b lk W ∧ Below b w W) := fun W hW => ⟨hSb.out.below hW, hBb.out.trans (hW.mono (Nat.le_of_lt hbw2))⟩
        have hic := Lib.hid (fun W hh => insert_any (addG G g (.cells cur 9 (0, 0))) b r0 r1 lk W hh hcan1.out hrok.out (by omega))
        clear hq herr hxy
        go_wp2_with fail
        refine (hic.out _ (hW.out _ ((Below.refl _ _).alloc (Nat.le_refl _) _)).1).mono ?_
        rintro e w3 ⟨rfl, hS3, hB3⟩
        have hB4 := Lib.hid ((hW.out _ ((Below.refl _ _).alloc (Nat.le_refl _) _)).2.trans hB3)
        replace hS3 := Lib.hid hS3
        clear hB3 hW hic
        go_wp2_with fail
        go_roundw
        case rel => exact ⟨k + 1, ins lk (r0, r1), by go_num, by omega, by omega, hcan2, hfin, hS3, hB4⟩
        case measure => simp [RowKit.intOf]; omega
    · have hke : k = (parts s).length := by omega
      have hend : AddIs G b l s w (.returned .nilIface) wx := by
        have h1 := hrest.out
        rw [hke, List.drop_length, addF] at h1
        refine ⟨_, rfl, ?_, ?_, hB.out⟩
        · rw [h1]; exact ⟨fun _ => rfl, (fun h => by cases h)⟩
        · rw [h1]; exact (hS.out.open hG0.out).1
      replace hend := Lib.hid hend
      clear hke hrest
      have hk1 : ¬ (k : Int) < ((parts s).length : Int) := by omega
      go_wp2_with fail
      go_ret
      exact hend.out
end Go.Proofs.YtajifebphcgcpaaDoor.Own
