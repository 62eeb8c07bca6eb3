/- (*SeqSet).insert, a piece: the merging with what stands at the place, or the way out. -/
import Derived.Test.YtajifebphcgcpaaDoorJ1
namespace Go.Proofs.YtajifebphcgcpaaDoor.Own
open Go.RowKit Go.Lib Sets OfP
set_option linter.unusedVariables false
set_option linter.unusedSimpArgs false

set_option maxHeartbeats 80000000 in
set_option maxRecDepth 100000 in
theorem ins_if45 (G : Nat → Option Obj) (b v0 v1 : Nat) (l : List Rg) (w : World) (hl : l.length ≤ 10000) (hcan : Hid (Canon l)) (hv : Hid (Okr (v0, v1))) (ok : Bool) (N : Nat) (A : Option Addr) (hbN : b < N)
    (hgN : Hid (∀ a, A = some a → a.block < N)) (i : Nat) (hil : i ≤ l.length) (hidx : Hid (idx l (v0, v1).1 = i)) (wd : World) (A2 : Option Addr) (c2 : Nat) (hac2 : l.length ≤ c2) (hA2 : Hid (A2 = A)) (hs2 : Hid (wd.heap[b]? = some (.cells #[.slice A2 l.length c2] 66 (0, 0)))) (hX : Hid (wd.heap[N]? = some (.cells #[.int .u32 (v0 : Int), .int .u32 (v1 : Int)] 50 (0, 0))))
    (hr2 : Hid (RowQ wd (b + 1) (.slice A2 l.length c2) (l1 l (v0, v1)))) (hgd2 : Hid (Gd G (Value.slice A2 l.length c2).ownBlock b wd)) (hB : Hid (Below b w wd)) (m : Bool) (hm : Hid (mB l (v0, v1) = m))
    (hSl : Hid (m = false → SetAt G b l wd)) (hSm : Hid (m = true → SetAt G b (l.set (i - 1) (mrg (l.getD (i - 1) d0) (v0, v1))) wd)) (K : Act → World → Prop) (u2 u7 u8 u9 u10 u11 u12 u13 u14 u15 u16 u17 u18 u19 u20 u21 u22 u23 u24 u25 u26 u27 u28 u29 u30 u31 u32 u33 u34 u35 u36 u37 u38 u39 u40 u41 u42 u43 u44 u46 u47 u48 u49 u50 u51 u52 u53 u54 u55 u56 u57 u58 u59 u60 u61 u62 u63 u64 u65 u66 u67 u68 u69 u70 u71 u72 u73 u74 u75 u76 u77 u78 u79 u80 u81 u82 u83 u84 u85 u86 u87 u88 u89 u90 u91 u92 u93 u94 u95 u96 u97 u98 u99 u100 u101 u102 u103 u104 u105 u106 u107 u108 u109 u110 u111 u112 u113 u114 u115 u116 u117 u118 u119 u120 u121 u122 u123 u124 u125 u126 u127 u128 u129 u130 u131 u132 u133 u134 u135 u136 u137 u138 u139 u140 u141 u142 u143 u144 u145 u146 : Value)
    (hK : Hid (∀ (x4 x6 x8 x9 x10 x11 x12 x13 x14 x15 x16 x17 x18 x19 x20 x21 x22 x23 x24 x25 x26 x27 x28 x29 x30 x31 x32 x33 x34 x35 x36 x37 x38 x39 x40 x41 x42 x43 x44 x45 x46 x47 x48 x49 x50 x51 x52 x53 x54 x55 x56 x57 x58 x59 x60 x61 x62 x63 x64 x65 x66 x67 x68 x69 x70 x71 x72 x73 x74 x75 x76 x77 x78 x79 x80 x81 x82 x83 x84 x85 x86 x87 x88 x89 x90 x91 x92 x93 x94 x95 x96 x97 x98 x99 x100 x101 x102 x103 x104 x105 x106 x107 x108 x109 x110 x111 x112 x113 x114 x115 x116 x117 x118 x119 x120 x121 x122 x123 x124 x125 x126 x127 x128 x129 x130 x131 x132 x133 x134 x135 x136 x137 x138 x139 x140 x141 x142 x143 x144 x145 x146 : Value) (wx : World) (k m0 m1 : Nat), x4 = .int .i64 (k : Int) → x6 = .bool true → k < l.length → Hid (Okr (m0, m1)) → Hid (ins l (v0, v1) = l.take k ++ (sw (m0, m1) (l.drop (k + 1))).1 :: (sw (m0, m1) (l.drop (k + 1))).2) → Hid (SetAt G b (l.set k (m0, m1)) wx) → Hid (Below b w wx) → K ⟨#[.pointer (some ⟨b, 0, none⟩), .agg #[.int .u32 (v0 : Int), .int .u32 (v1 : Int)], u2, .pointer (some ⟨N, 0, none⟩), x4, .bool ok, x6, u7, x8, x9, x10, x11, x12, x13, x14, x15, x16, x17, x18, x19, x20, x21, x22, x23, x24, x25, x26, x27, x28, x29, x30, x31, x32, x33, x34, x35, x36, x37, x38, x39, x40, x41, x42, x43, x44, x45, x46, x47, x48, x49, x50, x51, x52, x53, x54, x55, x56, x57, x58, x59, x60, x61, x62, x63, x64, x65, x66, x67, x68, x69, x70, x71, x72, x73, x74, x75, x76, x77, x78, x79, x80, x81, x82, x83, x84, x85, x86, x87, x88, x89, x90, x91, x92, x93, x94, x95, x96, x97, x98, x99, x100, x101, x102, x103, x104, x105, x106, x107, x108, x109, x110, x111, x112, x113, x114, x115, x116, x117, x118, x119, x120, x121, x122, x123, x124, x125, x126, x127, x128, x129, x130, x131, x132, x133, x134, x135, x136, x137, x138, x139, x140, x141, x142, x143, x144, x145, x146], []⟩ wx)) :
    Code.wp Tryd.prog insIf45 (Exit.then K (bodyPost Tryd.prog Tryd.f46 (Put G b (ins l (v0, v1)) w))) ⟨#[.pointer (some ⟨b, 0, none⟩), .agg #[.int .u32 (v0 : Int), .int .u32 (v1 : Int)], u2, .pointer (some ⟨N, 0, none⟩), .int .i64 (i : Int), .bool ok, .bool m, u7, u8, u9, u10, u11, u12, u13, u14, u15, u16, u17, u18, u19, u20, u21, u22, u23, u24, u25, u26, u27, u28, u29, u30, u31, u32, u33, u34, u35, u36, u37, u38, u39, u40, u41, u42, u43, u44, .bool ((i : Int) == (l.length : Int)), u46, u47, u48, u49, u50, u51, u52, u53, u54, u55, u56, u57, u58, u59, u60, u61, u62, u63, u64, u65, u66, u67, u68, u69, u70, u71, u72, u73, u74, u75, u76, u77, u78, u79, u80, u81, u82, u83, u84, u85, u86, u87, u88, u89, u90, u91, u92, u93, u94, u95, u96, u97, u98, u99, u100, u101, u102, u103, u104, u105, u106, u107, u108, u109, u110, u111, u112, u113, u114, u115, u116, u117, u118, u119, u120, u121, u122, u123, u124, u125, u126, u127, u128, u129, u130, u131, u132, u133, u134, u135, u136, u137, u138, u139, u140, u141, u142, u143, u144, u145, u146], []⟩ wd := by
  have hcd : wd.cell? ⟨b, 0, none⟩ = some (.slice A2 l.length c2) := cell_of_row wd b 0 _ _ _ hs2.out
  have hxa2 : wd.cell? ⟨N, 0, none⟩ = some (.int .u32 (v0 : Int)) := cell_of_row wd N 0 _ _ _ hX.out
  have hxb2 : wd.cell? ⟨N, 1, none⟩ = some (.int .u32 (v1 : Int)) := cell_of_row wd N 1 _ _ _ hX.out
  have hbwd : b < wd.heap.size := (Array.getElem?_eq_some_iff.1 hs2.out).1
  have hNwd : N < wd.heap.size := (Array.getElem?_eq_some_iff.1 hX.out).1
  conv => arg 2; whnf
  cases m with
  | true =>
    obtain ⟨h0, hins⟩ := ins_m hm.out
    rw [hidx.out] at h0 hins
    have hi1 : i - 1 < l.length := by omega
    have hyo := okr_get hcan.out hi1
    obtain ⟨m0, m1, mo, _, hmt, hmT, _⟩ := merged_is hyo hv.out
    have hmo : mo = true := by
      rw [hmt]
      have := hm.out
      unfold mB at this
      rw [hidx.out, Bool.and_eq_true] at this
      exact this.2
    have hmm := hmT hmo
    have hok : Okr (m0, m1) := by rw [← hmm]; exact mrg_okr hyo hv.out
    rw [hmm] at hins
    have hSs := hSm.out rfl
    rw [hmm] at hSs
    replace hSs := Lib.hid hSs
    replace hins := Lib.hid hins
    replace hok := Lib.hid hok
    clear hmm hmo hmt hmT hyo hSm hSl
    rcases Nat.lt_or_ge i l.length with hlt2 | hge
    · have hne1 : ((i : Int) == (l.length : Int)) = false := by simp; omega
      have hne2 : ¬ (i = l.length) := by omega
      have hw1 : IntKind.i64.wrap ((i : Int) - 1) = (i : Int) - 1 := by rw [IntKind.wrap_i64]; omega
      go_wp2_with fail
      exact hK.out _ _ _ _ _ _ _ _ _ _ _ _ _ _ _ _ _ _ _ _ _ _ _ _ _ _ _ _ _ _ _ _ _ _ _ _ _ _ _ _ _ _ _ _ _ _ _ _ _ _ _ _ _ _ _ _ _ _ _ _ _ _ _ _ _ _ _ _ _ _ _ _ _ _ _ _ _ _ _ _ _ _ _ _ _ _ _ _ _ _ _ _ _ _ _ _ _ _ _ _ _ _ _ _ _ _ _ _ _ _ _ _ _ _ _ _ _ _ _ _ _ _ _ _ _ _ _ _ _ _ _ _ _ _ _ _ _ _ _ _ _ wd (i - 1) m0 m1 (by first | rfl | (congr 1; omega)) rfl hi1 hok (by rw [show i - 1 + 1 = i by omega]; exact hins) hSs hB
    · obtain rfl : i = l.length := by omega
      have hend := Lib.hid (show SetAt G b (ins l (v0, v1)) wd by
        rw [hins.out, List.drop_length]
        have h2 := hSs.out
        rw [set_split hi1, show l.length - 1 + 1 = l.length by omega, List.drop_length] at h2
        exact h2)
      clear hins hSs hok
      go_wp2_with fail
      go_end0
      exact ⟨rfl, hend.out, hB.out⟩
  | false =>
    have hSl' := hSl.out rfl
    have hia := Lib.hid (fun (W : World) (h : SetAt G b l W) => insAt_any G b i (v0, v1) l W h hil hl)
    rcases Nat.lt_or_ge i l.length with hlt2 | hge
    · have hne1 : ((i : Int) == (l.length : Int)) = false := by simp; omega
      have hne2 : ¬ (i = l.length) := by omega
      obtain ⟨g, cap, hAe, hbg, hgw, hlc⟩ := hr2.out.form1 (by rw [l1_len]; omega)
      simp only [Value.slice.injEq, true_and] at hAe
      obtain ⟨rfl, h8, rfl⟩ := hAe
      clear h8
      have hr2' : RowQ wd (b + 1) (.slice (some ⟨g, 0, none⟩) l.length c2) l := by
        have := hr2.out
        rwa [show l1 l (v0, v1) = l by unfold l1; rw [hm.out]; rfl] at this
      obtain ⟨y, hy⟩ : ∃ y, l.getD i d0 = y := ⟨_, rfl⟩
      have hyo : Okr y := by rw [← hy]; exact okr_get hcan.out hlt2
      obtain ⟨hq0, hq1⟩ := hr2'.cell i hlt2
      have hqf0 := hr2'.frozen (i * 2)
      have hqf1 := hr2'.frozen (i * 2 + 1)
      rw [hy] at hq0 hq1
      obtain ⟨m0, m1, mo, hgm, hmt, hmT, hmF⟩ := merged_is hyo hv.out
      have hmer := Lib.hid (fun W => merge_any hyo hv.out W)
      rw [hgm] at hmer
      have hsetF : mo = false → l.set i (m0, m1) = l := fun h => by rw [← hmF h, ← hy, set_get hlt2]
      have hinsT : mo = true → ins l (v0, v1) = l.take i ++ (sw (m0, m1) (l.drop (i + 1))).1 :: (sw (m0, m1) (l.drop (i + 1))).2 := fun h => by
        have := ins_t hm.out (by rw [hidx.out]; exact hlt2) (by rw [hidx.out, hy, ← hmt, h])
        rwa [hidx.out, hy, hmT h] at this
      have hinsF : mo = false → ins l (v0, v1) = l.take i ++ (v0, v1) :: l.drop i := fun h => by
        have := ins_no hm.out (by rw [hidx.out]; exact hlt2) (by rw [hidx.out, hy, ← hmt, h])
        rwa [hidx.out] at this
      have hokT : mo = true → Okr (m0, m1) := fun h => by rw [← hmT h]; exact mrg_okr hyo hv.out
      replace hsetF := Lib.hid hsetF
      replace hinsT := Lib.hid hinsT
      replace hinsF := Lib.hid hinsF
      replace hokT := Lib.hid hokT
      replace hr2' := Lib.hid hr2'
      obtain ⟨y0, y1⟩ := y
      clear hgm hmt hmT hmF hy hyo hSl hSm hSl'
      have hw4 : (i : Int) < (l.length : Int) := by omega
      go_upto_region 10 with (fail)
      go_cut [6] (fun s6 wx => s6 = .bool mo ∧ Hid (SetAt G b (l.set i (m0, m1)) wx) ∧ Hid (wx.heap[N]? = some (.cells #[.int .u32 (v0 : Int), .int .u32 (v1 : Int)] 50 (0, 0))) ∧ Hid (Below b w wx))
      case first =>
        go_region_law (go_simp; go_at_call 23; refine (hmer.out _).mono ?_; rintro e w2 ⟨rfl, hb2⟩; have hb2' := Lib.hid (show Below wd.heap.size wd w2 by first | exact hb2 | exact (Below.refl _ _).drew.trans hb2); have hc2 := (hb2'.out.cell (p := ⟨b, 0, none⟩) hbwd).trans hcd; have hq20 := (hb2'.out.cell (p := ⟨g, i * 2, none⟩) hgw).trans hq0; have hq21 := (hb2'.out.cell (p := ⟨g, i * 2 + 1, none⟩) hgw).trans hq1; have hqf20 := (hb2'.out.frozen (p := ⟨g, i * 2, none⟩) hgw).trans hqf0; have hqf21 := (hb2'.out.frozen (p := ⟨g, i * 2 + 1, none⟩) hgw).trans hqf1; clear hb2)
        all_goals
          have hgN2 : ¬ (N = g) := by have h9 : g < N := hgN.out _ hA2.out.symm; intro he; omega
          have hS := Lib.hid (setAt_elem ((hb2'.out.block b hbwd).trans hs2.out) (hr2'.out.below hb2'.out) (hgd2.out.below hb2'.out) i m0 m1)
          have hX4 := Lib.hid (show ((w2.setCell ⟨g, i * 2, none⟩ (.int .u32 (m0 : Int))).setCell ⟨g, i * 2 + 1, none⟩ (.int .u32 (m1 : Int))).heap[N]? = some (.cells #[.int .u32 (v0 : Int), .int .u32 (v1 : Int)] 50 (0, 0)) by
            rw [heap_setCell_other _ _ _ _ hgN2, heap_setCell_other _ _ _ _ hgN2]; exact (hb2'.out.block N hNwd).trans hX.out)
          have hB4 := Lib.hid (show Below b w ((w2.setCell ⟨g, i * 2, none⟩ (.int .u32 (m0 : Int))).setCell ⟨g, i * 2 + 1, none⟩ (.int .u32 (m1 : Int))) from ((hB.out.trans (hb2'.out.mono (Nat.le_of_lt hbwd))).setCell (by show b ≤ g; omega) _).setCell (by show b ≤ g; omega) _)
          clear hq0 hq1 hqf0 hqf1 hq20 hq21 hqf20 hqf21 hcd hc2 hgN2 hinsT hinsF hsetF hokT hia
          go_wp2_with fail
          go_meet
          exact ⟨rfl, hS, hX4, hB4⟩
      case rest =>
        obtain ⟨rfl, hS3, hX3, hB3⟩ := hcut
        obtain ⟨we, hwe⟩ : ∃ we : World, we = wc := ⟨_, rfl⟩
        rw [← hwe] at hS3 hX3 hB3 ⊢
        clear hwe
        have hxa3 : we.cell? ⟨N, 0, none⟩ = some (.int .u32 (v0 : Int)) := cell_of_row we N 0 _ _ _ hX3.out
        have hxb3 : we.cell? ⟨N, 1, none⟩ = some (.int .u32 (v1 : Int)) := cell_of_row we N 1 _ _ _ hX3.out
        cases mo with
        | true =>
          have hok2 := Lib.hid (hokT.out rfl)
          have hi2 := Lib.hid (hinsT.out rfl)
          clear hinsT hinsF hsetF hokT hia
          go_wp2_with fail
          exact hK.out _ _ _ _ _ _ _ _ _ _ _ _ _ _ _ _ _ _ _ _ _ _ _ _ _ _ _ _ _ _ _ _ _ _ _ _ _ _ _ _ _ _ _ _ _ _ _ _ _ _ _ _ _ _ _ _ _ _ _ _ _ _ _ _ _ _ _ _ _ _ _ _ _ _ _ _ _ _ _ _ _ _ _ _ _ _ _ _ _ _ _ _ _ _ _ _ _ _ _ _ _ _ _ _ _ _ _ _ _ _ _ _ _ _ _ _ _ _ _ _ _ _ _ _ _ _ _ _ _ _ _ _ _ _ _ _ _ _ _ _ _ we i m0 m1 rfl rfl hlt2 hok2 hi2 hS3 hB3
        | false =>
          have hia2 := Lib.hid (hia.out we (by have := hS3.out; rwa [hsetF.out rfl] at this))
          have hi2 := Lib.hid (hinsF.out rfl)
          clear hinsT hinsF hsetF hokT
          go_wp2_with (go_at_call 51; refine (hia2.out).mono ?_; rintro e w3 ⟨rfl, hS4, hB4⟩; have hS5 := Lib.hid hS4; have hB5 := Lib.hid hB4; clear hS4 hB4)
          go_end0
          exact ⟨rfl, by rw [hi2.out]; exact hS5.out, hB3.out.trans hB5.out⟩
    · obtain rfl : i = l.length := by omega
      have hia2 := Lib.hid (hia.out wd hSl')
      have hi2 := Lib.hid (show ins l (v0, v1) = l.take l.length ++ (v0, v1) :: l.drop l.length by have := ins_end hm.out hidx.out; rwa [hidx.out] at this)
      clear hSl' hSl hSm hia
      go_wp2_with (go_at_call 51; refine (hia2.out).mono ?_; rintro e w3 ⟨rfl, hS4, hB4⟩; have hS5 := Lib.hid hS4; have hB5 := Lib.hid hB4; clear hS4 hB4)
      go_end0
      exact ⟨rfl, by rw [hi2.out]; exact hS5.out, hB.out.trans hB5.out⟩
end Go.Proofs.YtajifebphcgcpaaDoor.Own
