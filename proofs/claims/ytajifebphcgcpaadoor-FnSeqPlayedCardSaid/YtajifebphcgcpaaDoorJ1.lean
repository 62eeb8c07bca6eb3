/- (*SeqSet).insert, a piece: the merging with what stands ahead. -/
import Derived.Test.YtajifebphcgcpaaDoorMC
import Derived.Deep.RegionHeld3
import Derived.Deep.DeepCutAuto
namespace Go.Proofs.YtajifebphcgcpaaDoor.Own
open Go.RowKit Go.Lib Sets OfP
set_option linter.unusedVariables false
set_option linter.unusedSimpArgs false
theorem setAt_elem {G : Nat → Option Obj} {b g n c : Nat} {l : List Rg} {w2 : World} (hh : w2.heap[b]? = some (.cells #[.slice (some ⟨g, 0, none⟩) n c] 66 (0, 0))) (hr : RowQ w2 (b + 1) (.slice (some ⟨g, 0, none⟩) n c) l) (hgd : Gd G (Value.slice (some ⟨g, 0, none⟩) n c).ownBlock b w2) (k : Nat) (x0 x1 : Nat) :
    SetAt G b (l.set k (x0, x1)) ((w2.setCell ⟨g, k * 2, none⟩ (.int .u32 (x0 : Int))).setCell ⟨g, k * 2 + 1, none⟩ (.int .u32 (x1 : Int))) := by
  obtain ⟨_, hbg, _⟩ := hr.at
  refine ⟨_, by rw [heap_setCell_other _ _ _ _ (by show b ≠ g; omega), heap_setCell_other _ _ _ _ (by show b ≠ g; omega)]; exact hh, hr.set k (x0, x1), hgd.step (fun q h1 _ _ => ?_) (.inl rfl)⟩
  have hqg : q ≠ g := fun e => h1 (by rw [e]; rfl)
  rw [heap_setCell_other _ _ _ _ (by show q ≠ g; exact hqg), heap_setCell_other _ _ _ _ (by show q ≠ g; exact hqg)]
theorem merged_is {y v : Rg} (hy : Okr y) (hv : Okr v) : ∃ m0 m1 mo, goMerge y v = ((m0, m1), mo) ∧ mo = touch y v ∧ (mo = true → mrg y v = (m0, m1)) ∧ (mo = false → y = (m0, m1)) := by
  refine ⟨(goMerge y v).1.1, (goMerge y v).1.2, (goMerge y v).2, rfl, ?_⟩
  rw [goMerge_eq hy hv]
  cases touch y v
  · simp
  · simp


def sndC : Code → Code
  | .seq _ b => b
  | c => c
def fstC : Code → Code
  | .seq a _ => a
  | c => c
noncomputable def insAll : Code := (Tryd.f46.body).getD .skip
noncomputable def insIf18 : Code := sndC (fstC (sndC (sndC (sndC insAll))))
noncomputable def insIf45 : Code := sndC (fstC (sndC (sndC (sndC (sndC insAll)))))
noncomputable def insTail : Code := sndC (sndC (sndC (sndC (sndC insAll))))

set_option maxHeartbeats 80000000 in
set_option maxRecDepth 100000 in
theorem ins_if18 (G : Nat → Option Obj) (b v0 v1 : Nat) (l : List Rg) (w : World) (hl : l.length ≤ 10000) (hcan : Hid (Canon l)) (hv : Hid (Okr (v0, v1))) (ok : Bool) (N : Nat) (A : Option Addr) (c : Nat) (hac : l.length ≤ c) (hbN : b < N)
    (hgN : Hid (∀ a, A = some a → a.block < N)) (i : Nat) (hil : i ≤ l.length) (hi : Hid (idx l v0 = i)) (wc : World) (hsc : Hid (wc.heap[b]? = some (.cells #[.slice A l.length c] 66 (0, 0)))) (hxc : Hid (wc.heap[N]? = some (.cells #[.int .u32 (v0 : Int), .int .u32 (v1 : Int)] 50 (0, 0))))
    (hrc : Hid (RowQ wc (b + 1) (.slice A l.length c) l)) (hgd : Hid (Gd G (Value.slice A l.length c).ownBlock b wc)) (hbc : Hid (Below b w wc)) (K : Act → World → Prop) (u2 u7 u8 u9 u10 u11 u12 u13 u14 u15 u16 u17 u19 u20 u21 u22 u23 u24 u25 u26 u27 u28 u29 u30 u31 u32 u33 u34 u35 u36 u37 u38 u39 u40 u41 u42 u43 u44 u45 u46 u47 u48 u49 u50 u51 u52 u53 u54 u55 u56 u57 u58 u59 u60 u61 u62 u63 u64 u65 u66 u67 u68 u69 u70 u71 u72 u73 u74 u75 u76 u77 u78 u79 u80 u81 u82 u83 u84 u85 u86 u87 u88 u89 u90 u91 u92 u93 u94 u95 u96 u97 u98 u99 u100 u101 u102 u103 u104 u105 u106 u107 u108 u109 u110 u111 u112 u113 u114 u115 u116 u117 u118 u119 u120 u121 u122 u123 u124 u125 u126 u127 u128 u129 u130 u131 u132 u133 u134 u135 u136 u137 u138 u139 u140 u141 u142 u143 u144 u145 u146 : Value)
    (hK : Hid (∀ (x6 x18 x19 x20 x21 x22 x23 x24 x25 x26 x27 x28 x29 x30 x31 x32 x33 x34 x35 x36 x37 x38 : Value) (wx : World), x6 = .bool (mB l (v0, v1)) → Hid (SetAt G b (l1 l (v0, v1)) wx) → Hid (wx.heap[N]? = some (.cells #[.int .u32 (v0 : Int), .int .u32 (v1 : Int)] 50 (0, 0))) → Hid (Below b w wx) → Hid (wx.heap[b]? = some (.cells #[.slice A l.length c] 66 (0, 0))) → K ⟨#[.pointer (some ⟨b, 0, none⟩), .agg #[.int .u32 (v0 : Int), .int .u32 (v1 : Int)], u2, .pointer (some ⟨N, 0, none⟩), .int .i64 (i : Int), .bool ok, x6, u7, u8, u9, u10, u11, u12, u13, u14, u15, u16, u17, x18, x19, x20, x21, x22, x23, x24, x25, x26, x27, x28, x29, x30, x31, x32, x33, x34, x35, x36, x37, x38, u39, u40, u41, u42, u43, u44, u45, u46, u47, u48, u49, u50, u51, u52, u53, u54, u55, u56, u57, u58, u59, u60, u61, u62, u63, u64, u65, u66, u67, u68, u69, u70, u71, u72, u73, u74, u75, u76, u77, u78, u79, u80, u81, u82, u83, u84, u85, u86, u87, u88, u89, u90, u91, u92, u93, u94, u95, u96, u97, u98, u99, u100, u101, u102, u103, u104, u105, u106, u107, u108, u109, u110, u111, u112, u113, u114, u115, u116, u117, u118, u119, u120, u121, u122, u123, u124, u125, u126, u127, u128, u129, u130, u131, u132, u133, u134, u135, u136, u137, u138, u139, u140, u141, u142, u143, u144, u145, u146], []⟩ wx)) :
    Code.wp Tryd.prog insIf18 (Exit.then K (bodyPost Tryd.prog Tryd.f46 (Put G b (ins l (v0, v1)) w))) ⟨#[.pointer (some ⟨b, 0, none⟩), .agg #[.int .u32 (v0 : Int), .int .u32 (v1 : Int)], u2, .pointer (some ⟨N, 0, none⟩), .int .i64 (i : Int), .bool ok, .bool false, u7, u8, u9, u10, u11, u12, u13, u14, u15, u16, u17, .bool (decide (0 < i)), u19, u20, u21, u22, u23, u24, u25, u26, u27, u28, u29, u30, u31, u32, u33, u34, u35, u36, u37, u38, u39, u40, u41, u42, u43, u44, u45, u46, u47, u48, u49, u50, u51, u52, u53, u54, u55, u56, u57, u58, u59, u60, u61, u62, u63, u64, u65, u66, u67, u68, u69, u70, u71, u72, u73, u74, u75, u76, u77, u78, u79, u80, u81, u82, u83, u84, u85, u86, u87, u88, u89, u90, u91, u92, u93, u94, u95, u96, u97, u98, u99, u100, u101, u102, u103, u104, u105, u106, u107, u108, u109, u110, u111, u112, u113, u114, u115, u116, u117, u118, u119, u120, u121, u122, u123, u124, u125, u126, u127, u128, u129, u130, u131, u132, u133, u134, u135, u136, u137, u138, u139, u140, u141, u142, u143, u144, u145, u146], []⟩ wc := by
  have hbw : b < wc.heap.size := (Array.getElem?_eq_some_iff.1 hsc.out).1
  have hNw : N < wc.heap.size := (Array.getElem?_eq_some_iff.1 hxc.out).1
  have hcw : wc.cell? ⟨b, 0, none⟩ = some (.slice A l.length c) := cell_of_row wc b 0 _ _ _ hsc.out
  have hxa : wc.cell? ⟨N, 0, none⟩ = some (.int .u32 (v0 : Int)) := cell_of_row wc N 0 _ _ _ hxc.out
  have hxb : wc.cell? ⟨N, 1, none⟩ = some (.int .u32 (v1 : Int)) := cell_of_row wc N 1 _ _ _ hxc.out
  conv => arg 2; whnf
  rcases Nat.eq_zero_or_pos i with h0 | h0
  · have hm : mB l (v0, v1) = false := by unfold mB; rw [show idx l (v0, v1).1 = 0 from hi.out.trans h0]; rfl
    have hl1 : l1 l (v0, v1) = l := by unfold l1; rw [hm]; rfl
    have hS : SetAt G b (l1 l (v0, v1)) wc := by rw [hl1]; exact ⟨_, hsc.out, hrc.out, hgd.out⟩
    replace hS := Lib.hid hS
    replace hm := Lib.hid hm
    clear hl1
    subst h0
    go_wp2_with fail
    exact hK.out _ _ _ _ _ _ _ _ _ _ _ _ _ _ _ _ _ _ _ _ _ _ wc (by rw [hm.out]) hS hxc hbc hsc
  · obtain ⟨g, cap, hAe, hbg, hgw, hlc⟩ := hrc.out.form1 (by omega)
    simp only [Value.slice.injEq, true_and] at hAe
    obtain ⟨rfl, rfl⟩ := hAe
    have hi1 : i - 1 < l.length := by omega
    obtain ⟨y, hy⟩ : ∃ y, l.getD (i - 1) d0 = y := ⟨_, rfl⟩
    have hyo : Okr y := by rw [← hy]; exact okr_get hcan.out hi1
    obtain ⟨hq0, hq1⟩ := hrc.out.cell (i - 1) hi1
    have hqf0 := hrc.out.frozen ((i - 1) * 2)
    have hqf1 := hrc.out.frozen ((i - 1) * 2 + 1)
    rw [hy] at hq0 hq1
    obtain ⟨m0, m1, mo, hgm, hmt, hmT, hmF⟩ := merged_is hyo hv.out
    have hmer := Lib.hid (fun W => merge_any hyo hv.out W)
    rw [hgm] at hmer
    have hm : mB l (v0, v1) = mo := by unfold mB; rw [show idx l (v0, v1).1 = i from hi.out, hy, hmt, decide_eq_true h0, Bool.true_and]
    have hl1 : l1 l (v0, v1) = l.set (i - 1) (m0, m1) := by
      unfold l1
      rw [hm, show idx l (v0, v1).1 = i from hi.out, hy]
      cases mo with
      | true => rw [if_pos rfl, hmT rfl]
      | false => rw [if_neg (by decide), ← hmF rfl, ← hy, set_get hi1]
    obtain ⟨y0, y1⟩ := y
    replace hm := Lib.hid hm
    replace hl1 := Lib.hid hl1
    have hd : decide (0 < i) = true := decide_eq_true h0
    clear hgm hmt hmT hmF hy hyo
    have hw1 : IntKind.i64.wrap ((i : Int) - 1) = (i : Int) - 1 := by rw [IntKind.wrap_i64]; omega
    have hw2 : (1 : Int) ≤ (i : Int) := by omega
    have hw3 : (0 : Int) ≤ (i : Int) - 1 := by omega
    have hw4 : (i : Int) - 1 < (l.length : Int) := by omega
    have hw5 : ((i : Int) - 1).toNat = i - 1 := by omega
    go_upto_region 4 with (fail)
    go_region_law (go_simp; go_at_call 23; refine (hmer.out _).mono ?_; rintro e w2 ⟨rfl, hb2⟩; have hb2' := Lib.hid (show Below wc.heap.size wc w2 by first | exact hb2 | exact (Below.refl _ _).drew.trans hb2); have hc2 := (hb2'.out.cell (p := ⟨b, 0, none⟩) hbw).trans hcw; have hq20 := (hb2'.out.cell (p := ⟨g, (i - 1) * 2, none⟩) hgw).trans hq0; have hq21 := (hb2'.out.cell (p := ⟨g, (i - 1) * 2 + 1, none⟩) hgw).trans hq1; have hqf20 := (hb2'.out.frozen (p := ⟨g, (i - 1) * 2, none⟩) hgw).trans hqf0; have hqf21 := (hb2'.out.frozen (p := ⟨g, (i - 1) * 2 + 1, none⟩) hgw).trans hqf1; clear hb2)
    all_goals
      have hgN2 : g < N := hgN.out _ rfl
      have hS := Lib.hid (setAt_elem ((hb2'.out.block b hbw).trans hsc.out) (hrc.out.below hb2'.out) (hgd.out.below hb2'.out) (i - 1) m0 m1)
      have hX := Lib.hid (show ((w2.setCell ⟨g, (i - 1) * 2, none⟩ (.int .u32 (m0 : Int))).setCell ⟨g, (i - 1) * 2 + 1, none⟩ (.int .u32 (m1 : Int))).heap[N]? = some (.cells #[.int .u32 (v0 : Int), .int .u32 (v1 : Int)] 50 (0, 0)) by
        rw [heap_setCell_other _ _ _ _ (by show N ≠ g; omega), heap_setCell_other _ _ _ _ (by show N ≠ g; omega)]; exact (hb2'.out.block N hNw).trans hxc.out)
      have hB := Lib.hid (show Below b w ((w2.setCell ⟨g, (i - 1) * 2, none⟩ (.int .u32 (m0 : Int))).setCell ⟨g, (i - 1) * 2 + 1, none⟩ (.int .u32 (m1 : Int))) from ((hbc.out.trans (hb2'.out.mono (Nat.le_of_lt hbw))).setCell (by show b ≤ g; omega) _).setCell (by show b ≤ g; omega) _)
      have hH := Lib.hid (show ((w2.setCell ⟨g, (i - 1) * 2, none⟩ (.int .u32 (m0 : Int))).setCell ⟨g, (i - 1) * 2 + 1, none⟩ (.int .u32 (m1 : Int))).heap[b]? = some (.cells #[.slice (some ⟨g, 0, none⟩) l.length c] 66 (0, 0)) by
        rw [heap_setCell_other _ _ _ _ (by show b ≠ g; omega), heap_setCell_other _ _ _ _ (by show b ≠ g; omega)]; exact (hb2'.out.block b hbw).trans hsc.out)
      clear hq0 hq1 hqf0 hqf1 hq20 hq21 hqf20 hqf21 hcw hc2 hw1 hw2 hw3 hw4 hw5 hgN2
      go_wp2_with fail
      exact hK.out _ _ _ _ _ _ _ _ _ _ _ _ _ _ _ _ _ _ _ _ _ _ _ (by rw [hm.out]) (by rw [hl1.out]; exact hS) hX hB hH
end Go.Proofs.YtajifebphcgcpaaDoor.Own
