/- (*SeqSet).insert, a piece: the merging with what stands behind. -/
import Derived.Test.YtajifebphcgcpaaDoorJ1
namespace Go.Proofs.YtajifebphcgcpaaDoor.Own
open Go.RowKit Go.Lib Sets OfP
set_option linter.unusedVariables false
set_option linter.unusedSimpArgs false

set_option maxHeartbeats 80000000 in
set_option maxRecDepth 100000 in
theorem ins_tail (G : Nat → Option Obj) (b v0 v1 : Nat) (l : List Rg) (w : World) (hl : l.length ≤ 10000) (hcan : Hid (Canon l)) (hv : Hid (Okr (v0, v1))) (ok : Bool) (N : Nat) (wf : World) (k m0 m1 : Nat) (hk : k < l.length) (hok : Hid (Okr (m0, m1)))
    (hins : Hid (ins l (v0, v1) = l.take k ++ (sw (m0, m1) (l.drop (k + 1))).1 :: (sw (m0, m1) (l.drop (k + 1))).2)) (hS4 : Hid (SetAt G b (l.set k (m0, m1)) wf)) (hB4 : Hid (Below b w wf)) (u2 u7 u8 u9 u10 u11 u12 u13 u14 u15 u16 u17 u18 u19 u20 u21 u22 u23 u24 u25 u26 u27 u28 u29 u30 u31 u32 u33 u34 u35 u36 u37 u38 u39 u40 u41 u42 u43 u44 u45 u46 u47 u48 u49 u50 u51 u52 u53 u54 u55 u56 u57 u58 u59 u60 u61 u62 u63 u64 u65 u66 u67 u68 u69 u70 u71 u72 u73 u74 u75 u76 u77 u78 u79 u80 u81 u82 u83 u84 u85 u86 u87 u88 u89 u90 u91 u92 u93 u94 u95 u96 u97 u98 u99 u100 u101 u102 u103 u104 u105 u106 u107 u108 u109 u110 u111 u112 u113 u114 u115 u116 u117 u118 u119 u120 u121 u122 u123 u124 u125 u126 u127 u128 u129 u130 u131 u132 u133 u134 u135 u136 u137 u138 u139 u140 u141 u142 u143 u144 u145 u146 : Value) :
    Code.wp Tryd.prog insTail (bodyPost Tryd.prog Tryd.f46 (Put G b (ins l (v0, v1)) w)) ⟨#[.pointer (some ⟨b, 0, none⟩), .agg #[.int .u32 (v0 : Int), .int .u32 (v1 : Int)], u2, .pointer (some ⟨N, 0, none⟩), .int .i64 (k : Int), .bool ok, .bool true, u7, u8, u9, u10, u11, u12, u13, u14, u15, u16, u17, u18, u19, u20, u21, u22, u23, u24, u25, u26, u27, u28, u29, u30, u31, u32, u33, u34, u35, u36, u37, u38, u39, u40, u41, u42, u43, u44, u45, u46, u47, u48, u49, u50, u51, u52, u53, u54, u55, u56, u57, u58, u59, u60, u61, u62, u63, u64, u65, u66, u67, u68, u69, u70, u71, u72, u73, u74, u75, u76, u77, u78, u79, u80, u81, u82, u83, u84, u85, u86, u87, u88, u89, u90, u91, u92, u93, u94, u95, u96, u97, u98, u99, u100, u101, u102, u103, u104, u105, u106, u107, u108, u109, u110, u111, u112, u113, u114, u115, u116, u117, u118, u119, u120, u121, u122, u123, u124, u125, u126, u127, u128, u129, u130, u131, u132, u133, u134, u135, u136, u137, u138, u139, u140, u141, u142, u143, u144, u145, u146], []⟩ wf := by
  conv => arg 2; whnf
  have hwr : IntKind.i64.wrap ((k : Int) + 1) = (k : Int) + 1 := by rw [IntKind.wrap_i64]; omega
  go_wp2
  go_loopw [6, 7] (fun s6 s7 wr => ∃ (j : Nat) (x : Rg) (bb : Bool), s7 = .int .i64 (j : Int) ∧ s6 = .bool bb ∧ k < j ∧ j ≤ l.length ∧ Hid (Okr x) ∧ Hid (SetAt G b (l.set k x) wr) ∧ Hid (Below b w wr) ∧ Hid (sw (m0, m1) (l.drop (k + 1)) = sw x (l.drop j))) (fun _ j _ => l.length - (RowKit.intOf j).toNat)
  case atStart => exact ⟨k + 1, (m0, m1), true, by go_num, rfl, Nat.lt_succ_self k, hk, hok, hS4, hB4, rfl⟩
  case round =>
    obtain ⟨wq, hwq⟩ : ∃ wq : World, wq = wr := ⟨_, rfl⟩
    rw [← hwq] at hrel ⊢
    clear hwq
    obtain ⟨j, x, bb, rfl, rfl, hkj, hjl, hxo, hS5, hB5, hsw⟩ := hrel
    obtain ⟨s3, hs3, hr3, hgd3⟩ := hS5.out
    replace hgd3 := Lib.hid hgd3
    have hl3 : (l.set k x).length = l.length := by simp
    obtain ⟨g, cap, hsv3, hbg, hgw, hlc⟩ := hr3.form1 (by rw [hl3]; omega)
    rw [hl3] at hsv3 hlc
    subst hsv3
    have hbw : b < wq.heap.size := (Array.getElem?_eq_some_iff.1 hs3).1
    have hcw : wq.cell? ⟨b, 0, none⟩ = some (.slice (some ⟨g, 0, none⟩) l.length cap) := cell_of_row wq b 0 _ _ _ hs3
    have hfw := frozen_of_row wq b 0 _ _ hs3
    have hmx := hr3.at.2.2.2.2
    rcases Nat.lt_or_ge j l.length with hjn | hjn
    · obtain ⟨hq0, hq1⟩ := hr3.cell k (by rw [hl3]; exact hk)
      obtain ⟨hp0, hp1⟩ := hr3.cell j (by rw [hl3]; exact hjn)
      have hqf0 := hr3.frozen (k * 2)
      have hqf1 := hr3.frozen (k * 2 + 1)
      obtain ⟨y, hy⟩ : ∃ y, l.getD j d0 = y := ⟨_, rfl⟩
      have hyo : Okr y := by rw [← hy]; exact okr_get hcan.out hjn
      rw [show (l.set k x).getD k d0 = x by rw [getD_set l k k x hk, if_pos rfl]] at hq0 hq1
      rw [show (l.set k x).getD j d0 = y by rw [getD_set l k j x hk, if_neg (by omega), hy]] at hp0 hp1
      obtain ⟨n0, n1, mo, hgm, hmt, hmT, hmF⟩ := merged_is hxo.out hyo
      have hmer := Lib.hid (fun W => merge_any hxo.out hyo W)
      rw [hgm] at hmer
      have hswT : mo = true → sw (m0, m1) (l.drop (k + 1)) = sw (n0, n1) (l.drop (j + 1)) := fun h => by
        rw [hsw.out, drop_at hjn, hy, sw, if_pos (by rw [← hmt, h]), hmT h]
      have hokT : mo = true → Okr (n0, n1) := fun h => by rw [← hmT h]; exact mrg_okr hxo.out hyo
      have hxF : mo = false → x = (n0, n1) := hmF
      have hinsF : mo = false → ins l (v0, v1) = l.take k ++ (n0, n1) :: l.drop j := fun h => by
        rw [hins.out, hsw.out, drop_at hjn, hy, sw, if_neg (by rw [← hmt, h]; decide), hmF h]
      replace hswT := Lib.hid hswT
      replace hokT := Lib.hid hokT
      replace hinsF := Lib.hid hinsF
      replace hs3 := Lib.hid hs3
      replace hr3 := Lib.hid hr3
      obtain ⟨x0, x1⟩ := x
      obtain ⟨y0, y1⟩ := y
      clear hgm hmt hmT hmF hy hyo hxF
      have hw1 : (k : Int) < (l.length : Int) := by omega
      have hw2 : (j : Int) < (l.length : Int) := by omega
      go_upto_region 16 with (fail)
      go_cut [6] (fun s6 wx => s6 = .bool mo ∧ Hid (SetAt G b (l.set k (n0, n1)) wx) ∧ Hid (Below b w wx))
      case first =>
        go_region_law (go_simp; go_at_call 23; refine (hmer.out _).mono ?_; rintro e w2 ⟨rfl, hb2⟩; have hb2' := Lib.hid (show Below wq.heap.size wq w2 by first | exact hb2 | exact (Below.refl _ _).drew.trans hb2); have hc2 := (hb2'.out.cell (p := ⟨b, 0, none⟩) hbw).trans hcw; have hq20 := (hb2'.out.cell (p := ⟨g, k * 2, none⟩) hgw).trans hq0; have hq21 := (hb2'.out.cell (p := ⟨g, k * 2 + 1, none⟩) hgw).trans hq1; have hqf20 := (hb2'.out.frozen (p := ⟨g, k * 2, none⟩) hgw).trans hqf0; have hqf21 := (hb2'.out.frozen (p := ⟨g, k * 2 + 1, none⟩) hgw).trans hqf1; clear hb2)
        all_goals
          have hS0 := setAt_elem ((hb2'.out.block b hbw).trans hs3.out) (hr3.out.below hb2'.out) (hgd3.out.below hb2'.out) k n0 n1
          rw [List.set_set] at hS0
          have hS := Lib.hid hS0
          have hB4 := Lib.hid (show Below b w ((w2.setCell ⟨g, k * 2, none⟩ (.int .u32 (n0 : Int))).setCell ⟨g, k * 2 + 1, none⟩ (.int .u32 (n1 : Int))) from ((hB5.out.trans (hb2'.out.mono (Nat.le_of_lt hbw))).setCell (by show b ≤ g; omega) _).setCell (by show b ≤ g; omega) _)
          clear hS0 hq0 hq1 hp0 hp1 hqf0 hqf1 hq20 hq21 hqf20 hqf21 hcw hc2 hswT hokT hinsF hw1 hw2 hwr
          go_wp2_with fail
          go_meet
          exact ⟨rfl, hS, hB4⟩
      case rest =>
        obtain ⟨rfl, hS6, hB6⟩ := hcut
        obtain ⟨wg, hwg⟩ : ∃ wg : World, wg = wc := ⟨_, rfl⟩
        rw [← hwg] at hS6 hB6 ⊢
        clear hwg hs3 hr3 hcw hfw hq0 hq1 hp0 hp1 hqf0 hqf1 hbw hgw hmer
        cases mo with
        | true =>
          have hswT2 := Lib.hid (hswT.out rfl)
          have hokT2 := Lib.hid (hokT.out rfl)
          clear hswT hokT hinsF
          go_wp2
          go_roundw
          case rel => exact ⟨j + 1, (n0, n1), true, by go_num, rfl, by omega, hjn, hokT2, hS6, hB6, hswT2⟩
          case measure => simp [RowKit.intOf]; omega
        | false =>
          have hinsF2 := Lib.hid (hinsF.out rfl)
          clear hswT hokT hinsF
          rcases Nat.lt_or_ge (k + 1) j with hkj2 | hkj2
          · obtain ⟨s6, hs6, hr6, hgd6⟩ := hS6.out
            obtain ⟨g6, cap6, hsv6, hbg6, hgw6, hlc6⟩ := hr6.form1 (by rw [List.length_set]; omega)
            rw [List.length_set] at hsv6 hlc6
            subst hsv6
            have hc6 : wg.cell? ⟨b, 0, none⟩ = some (.slice (some ⟨g6, 0, none⟩) l.length cap6) := cell_of_row wg b 0 _ _ _ hs6
            have hf6 := frozen_of_row wg b 0 _ _ hs6
            obtain ⟨cur6, hcur6, hcl6, hct6⟩ := hr6.block
            have hnews := Lib.hid (show ∀ q u, (flat (l.drop j))[q]? = some u → wg.cell? ((⟨g6, j * 2, none⟩ : Addr).add q) = some u from fun q u hq => by
              rw [Addr.add_lit, cell_of_row wg g6 _ _ _ _ hcur6, List.getElem?_toArray]
              have hd : l.drop j = (l.set k (n0, n1)).drop j := by rw [List.drop_set, if_pos hkj]
              rw [hd, ← flat_drop, ← hct6, List.getElem?_drop, List.getElem?_take] at hq
              split at hq
              · exact hq
              · cases hq)
            have hown6 := Lib.hid (hr6.take (k + 1) (by rw [List.length_set]; omega))
            have hlt6 : ((l.set k (n0, n1)).take (k + 1)).length = k + 1 := by rw [List.length_take, List.length_set]; omega
            have hown7 : Hid (wg.ownsRow (b + 1) 50 2 (.slice (some ⟨g6, 0, none⟩) (k + 1) cap6) (k + 1) (flat ((l.set k (n0, n1)).take (k + 1)))) := by
              have := hown6.out
              unfold RowQ at this
              rwa [hlt6] at this
            have hfin : (l.set k (n0, n1)).take (k + 1) ++ l.drop j = ins l (v0, v1) := by
              rw [hinsF2.out, set_split hk, List.take_append, List.length_take, show k + 1 - min k l.length = 1 by omega, List.take_succ_cons, List.take_zero, List.take_take, show min (k + 1) k = k by omega, List.append_assoc]
              rfl
            have hfin' := Lib.hid hfin
            have hs6' := Lib.hid hs6
            have hflen : Hid ((flat (l.drop j)).length = (l.length - j) * 2) := by show _ = _; rw [flat_len, List.length_drop]
            have hlen7 : ((l.set k (n0, n1)).take (k + 1) ++ l.drop j).length = k + 1 + (l.length - j) := by rw [List.length_append, hlt6, List.length_drop]
            replace hlen7 := Lib.hid hlen7
            replace hgd6 := Lib.hid hgd6
            have hwd0 : b < wg.heap.size := (Array.getElem?_eq_some_iff.1 hs6).1
            obtain ⟨i0, hi0, hz0, hz1, hz2⟩ := info_parts info_seq
            clear hs6 hr6 hcur6 hcl6 hct6 hlt6 hfin hown6
            have hz1' : (0 : Int) ≤ (k : Int) + 1 := by omega
            have hz2' : (k : Int) + 1 ≤ (cap6 : Int) := by omega
            have hz3' : ((k : Int) + 1).toNat = k + 1 := by omega
            have hz4' : (j : Int) ≤ (l.length : Int) := by omega
            have hz5' : ¬ (cap6 = j) := by omega
            have hz6' : decide ((k : Int) + 1 < (j : Int)) = true := decide_eq_true (by omega)
            have hz7' : decide (k + 1 < j) = true := decide_eq_true (by omega)
            go_upto_region 19 with (fail)
            go_region_law (refine step_append_lies _ rfl (.tmp 127) (.tmp 133) 64 rfl (b + 1) 50 i0 (.agg #[.int .u32 0, .int .u32 0]) 2 8 Tryd.underlying64 hi0 hz0 hz1 hz2 rfl (by decide) (.slice (some ⟨g6, 0, none⟩) (k + 1) cap6) (k + 1) (flat ((l.set k (n0, n1)).take (k + 1))) (by simp [Act.eval, Act.put]) hown7.out ⟨g6, j * 2, none⟩ (l.length - j) (cap6 - j) (flat (l.drop j)) (by simp [Act.eval, Act.put]) hflen.out hnews.out (flat_one _) (by omega) (by unfold maxLen; omega) (by omega) (by simp; omega) _ rfl ?_; intro g2 cap2 w2 hown2 hgrow2 hat2 hlt2; have hb2 := Lib.hid (show Below (b + 1) wg w2 from Below.grown (by first | exact Below.refl _ _ | exact (Below.refl _ _).drew | exact (Below.refl _ _).drew.drew) hgrow2 (by simp; omega) (fun q e => (World.ownsRow.lt hown7.out q e).1)); have hc2 := (hb2.out.cell (p := ⟨b, 0, none⟩) (Nat.lt_succ_self b)).trans hc6; have hf2 := (hb2.out.frozen (p := ⟨b, 0, none⟩) (Nat.lt_succ_self b)).trans hf6)
            all_goals
              have hrow2 : RowQ w2 (b + 1) (.slice (some ⟨g2, 0, none⟩) (k + 1 + (l.length - j)) cap2) (ins l (v0, v1)) := by
                unfold RowQ
                rw [← hfin'.out, hlen7.out, flat_app]
                exact hown2
              have hg7 : Gd G (Value.slice (some ⟨g2, 0, none⟩) (k + 1 + (l.length - j)) cap2).ownBlock b w2 := by
                refine hgd6.out.step (fun q h1 h2 h3 => World.grownBy.block hgrow2 q h3 (fun e => h1 e.symm)) ?_
                rcases hat2 with h | h
                · exact .inl h.symm
                · have h3 : g2 = wg.heap.size := by simpa using h
                  exact .inr ⟨g2, by omega, rfl⟩
              have hset := Lib.hid (setAt_stored hs6'.out hb2.out hrow2 hg7)
              have hb3 := Lib.hid (show Below b w (w2.setCell ⟨b, 0, none⟩ (.slice (some ⟨g2, 0, none⟩) (k + 1 + (l.length - j)) cap2)) from hB6.out.trans ((hb2.out.mono (Nat.le_succ b)).setCell (Nat.le_refl b) _))
              clear hown2 hgrow2 hat2 hlt2 hrow2 hg7 hz1' hz2' hz3' hz4' hz5'
              go_wp2
              go_end0
              exact ⟨rfl, hset.out, hb3.out⟩
          · obtain rfl : j = k + 1 := by omega
            have hend := Lib.hid (show SetAt G b (ins l (v0, v1)) wg by rw [hinsF2.out, ← set_split hk]; exact hS6.out)
            have hz6' : decide ((k : Int) + 1 < ((k + 1 : Nat) : Int)) = false := decide_eq_false (by omega)
            clear hinsF2 hS6
            go_wp2
            go_end0
            exact ⟨rfl, hend.out, hB6.out⟩
    · obtain rfl : j = l.length := by omega
      have hr9 := hr3.take (k + 1) (by rw [List.length_set]; omega)
      have hfin : (l.set k x).take (k + 1) = ins l (v0, v1) := by
        rw [hins.out, hsw.out, List.drop_length, sw, set_split hk, List.take_append, List.length_take, show k + 1 - min k l.length = 1 by omega, List.take_succ_cons, List.take_zero, List.take_take, show min (k + 1) k = k by omega]
      rw [hfin] at hr9
      have hset := Lib.hid (setAt_stored hs3 (Below.refl _ _) hr9 hgd3.out)
      have hb3 := Lib.hid (show Below b w (wq.setCell ⟨b, 0, none⟩ (.slice (some ⟨g, 0, none⟩) (k + 1) cap)) from hB5.out.setCell (Nat.le_refl b) _)
      clear hs3 hr3 hr9 hfin
      have hz1' : (0 : Int) ≤ (k : Int) + 1 := by omega
      have hz2' : (k : Int) + 1 ≤ (cap : Int) := by omega
      have hz3' : ((k : Int) + 1).toNat = k + 1 := by omega
      go_wp2
      go_end0
      exact ⟨rfl, hset.out, hb3.out⟩
end Go.Proofs.YtajifebphcgcpaaDoor.Own
