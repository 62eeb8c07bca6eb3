/- FnSeqPlayed, the law's walk. FnSeqPlayed's argument: the cells of a slice of steps, read off the way the row hands it in. -/
import Derived.Test.YtajifebphcgcpaaDoorMR
import Derived.Deep.QuietTactic
import Derived.BigQuiet
import Derived.Deep.Slices
import Derived.Deep.Fields
import Derived.ChangeSame
import Derived.KernelRfl
namespace Go.Proofs.YtajifebphcgcpaaDoor.Own
open Go.RowKit Go.Lib Sets Go.Proofs.YtajifebphcgcpaaDoorW.PrintWords
set_option linter.unusedVariables false
set_option linter.unusedSimpArgs false

/-- What a round of the law carries: the ranges so far, and what is due. -/
def LS (B : Nat) (w0 : World) (v u : Value) (l : List Rg) (ol : List Bool) (w : World) : Prop := RowI w B v l ∧ RowB w B u ol ∧ Below B w0 w ∧ B ≤ w.heap.size
theorem LS.below {B : Nat} {w0 : World} {v u : Value} {l : List Rg} {ol : List Bool} {w w' : World} (h : LS B w0 v u l ol w) (hb : Below w.heap.size w w') : LS B w0 v u l ol w' :=
  ⟨h.1.below hb, h.2.1.below hb, h.2.2.1.trans (hb.mono h.2.2.2), Nat.le_trans h.2.2.2 hb.size⟩
theorem LS.push {B n g cap : Nat} {w0 : World} {v u : Value} {l m : List Rg} {ol : List Bool} {w w2 : World} {xs ys : List Value} (h : LS B w0 v u l ol w) (hn : n = m.length) (hx : xs = flat l) (hy : ys = flat m)
    (hown : w2.ownsRow B 24 2 (.slice (some ⟨g, 0, none⟩) (l.length + n) cap) (l.length + n) (xs ++ ys)) (hg : w.grownBy w2 v.ownBlock) : LS B w0 (.slice (some ⟨g, 0, none⟩) (l.length + n) cap) u (l ++ m) ol w2 :=
  ⟨RowI.snoc hn hx hy hown, h.2.1.grown h.1 hg, h.2.2.1.grown hg h.2.2.2 (fun k e => (World.ownsRow.lt h.1 k e).1), Nat.le_trans h.2.2.2 hg.size⟩
theorem LS.tell {B g cap : Nat} {w0 : World} {v u : Value} {l : List Rg} {ol : List Bool} {x : Bool} {w w2 : World} {o : Obj} (h : LS B w0 v u l ol w)
    (hown : w2.ownsRow B 4 1 (.slice (some ⟨g, 0, none⟩) (ol.length + 1) cap) (ol.length + 1) (ol.map Value.bool ++ [.bool x])) (hg : (w.alloc o).grownBy w2 u.ownBlock) : LS B w0 v (.slice (some ⟨g, 0, none⟩) (ol.length + 1) cap) l (ol ++ [x]) w2 := by
  have h' := h.below ((Below.refl w.heap.size w).alloc (Nat.le_refl _) o)
  refine ⟨h'.1.grown h'.2.1 hg, ?_, h'.2.2.1.grown hg h'.2.2.2 (fun k e => (World.ownsRow.lt h'.2.1 k e).1), Nat.le_trans h'.2.2.2 hg.size⟩
  unfold RowB
  rw [List.length_append, List.map_append]
  exact hown
theorem spec_len (l : List Rg) {x : Step} (hx : Right x) : (specF l x).1.length ≤ l.length + 201 := by
  have hp := parts_len x.t
  have ht := hx.2.2.1
  have hu := upto_len (parts x.t)
  unfold specF
  repeat' split
  all_goals first | (simp; done) | (simp only [List.length_append, List.length_cons, List.length_nil]; omega) | simp

theorem play_okl : ∀ (t : List Step) (l : List Rg), Okl l → (∀ x ∈ t, Right x) → Okl (playF specF l t).1
  | [], l, h, _ => h
  | x :: t, l, h, hr => by
    rw [playF]
    exact play_okl t _ (spec_ok h (hr x (List.mem_cons_self ..))) fun y hy => hr y (List.mem_cons_of_mem _ hy)
theorem RowB.opened {w : World} {base : Nat} {v : Value} {l : List Bool} (h : RowB w base v l) : ∃ A c, v = .slice A l.length c ∧ (0 < l.length → ∃ g, A = some ⟨g, 0, none⟩ ∧ ∀ i, i < l.length → w.cell? ⟨g, i, none⟩ = some (.bool (l.getD i false))) := by
  rcases h.form with ⟨rfl, rfl⟩ | ⟨g, cap, rfl, _, _, _⟩
  · exact ⟨none, 0, rfl, fun h => absurd h (Nat.lt_irrefl _)⟩
  · exact ⟨_, cap, rfl, fun _ => ⟨g, rfl, fun i hi => h.cell i hi⟩⟩

set_option maxHeartbeats 8000000 in
set_option maxRecDepth 100000 in
theorem fnSeqPlayed_walk (R : List Raw) (hnum : ∀ x ∈ R, x.num) (A : Option Addr) (cap : Nat) (w : World) (hA : 0 < R.length → ∃ ad, A = some ad ∧ RawAt w ad R) (henv : EnvT w) :
    Calls Tryd.prog 6 #[.slice A R.length cap] w fun e w' => e = .returned (.bool true) ∧ Below w.heap.size w w' := by
  have hfit := Lib.hid (fits6_any R A cap w hA)
  obtain ⟨i0, hii, hz0, hz1, hz2⟩ := info_parts info_bool
  replace hii := Lib.hid hii
  replace hz0 := Lib.hid hz0
  replace hz1 := Lib.hid hz1
  replace hz2 := Lib.hid hz2
  obtain ⟨i1, hjj, hy0, hy1, hy2⟩ := info_parts info_iseq
  replace hjj := Lib.hid hjj
  replace hy0 := Lib.hid hy0
  replace hy1 := Lib.hid hy1
  replace hy2 := Lib.hid hy2
  replace henv := Lib.hid henv
  replace hA := Lib.hid hA
  replace hnum := Lib.hid hnum
  go_enter Tryd.func6, Tryd.ntmps6
  go_wp2_with fail
  refine (hfit.out).mono ?_
  rintro e w1 ⟨r, rfl, hb1⟩
  have hB1 := Lib.hid hb1
  clear hb1 hfit
  cases r with
  | false =>
    go_wp2_with fail
    go_ret
    exact ⟨rfl, hB1.out⟩
  | true =>
  rcases Nat.lt_or_ge 30 R.length with h30 | h30
  · have hd30 : decide (30 < (R.length : Int)) = true := decide_eq_true (by omega)
    go_wp2_with fail
    go_ret
    exact ⟨rfl, hB1.out⟩
  have hd30 : decide (30 < (R.length : Int)) = false := decide_eq_false (by omega)
  go_wp2_with fail
  clear hd30
  have hL0 := Lib.hid (show LS w.heap.size w (.slice none 0 0) (.slice none 0 0) [] [] w1 from ⟨RowI.nil _ _, RowB.nil _ _, hB1.out, hB1.out.size⟩)
  go_loopw [3, 4, 25] (fun s3 s4 s25 wr => ∃ (j : Nat) (v u : Value), s25 = .int .i64 (j : Int) ∧ j ≤ R.length ∧ s3 = v ∧ s4 = u ∧ Hid (∀ x ∈ R.take j, x.fit) ∧ (playF specF [] ((R.take j).map Raw.step)).1.length ≤ 201 * j ∧ Hid (LS w.heap.size w v u (playF specF [] ((R.take j).map Raw.step)).1 (playF specF [] ((R.take j).map Raw.step)).2 wr)) (fun _ _ s25 _ => R.length - (RowKit.intOf s25).toNat)
  case atStart => exact ⟨0, _, _, rfl, Nat.zero_le _, rfl, rfl, Lib.hid (fun x hx => by simp at hx), Nat.zero_le _, hL0⟩
  case round =>
    obtain ⟨wx, hwx⟩ : ∃ wx : World, wx = wr := ⟨_, rfl⟩
    rw [← hwx] at hrel ⊢
    clear hwx
    obtain ⟨j, v, u, rfl, hj, rfl, rfl, hF, hlen, hLS⟩ := hrel
    obtain ⟨l, hl⟩ : ∃ l, (playF specF [] ((R.take j).map Raw.step)).1 = l := ⟨_, rfl⟩
    obtain ⟨ol, hol⟩ : ∃ ol, (playF specF [] ((R.take j).map Raw.step)).2 = ol := ⟨_, rfl⟩
    have holl : ol.length = j := by rw [← hol, play_len, List.length_map, List.length_take]; omega
    have hnext : ∀ x, R[j]? = some x → playF specF [] ((R.take (j + 1)).map Raw.step) = ((specF l x.step).1, ol ++ [(specF l x.step).2]) := fun x hx => by
      have hjl : j < R.length := (List.getElem?_eq_some_iff.1 hx).1
      rw [List.take_succ_eq_append_getElem hjl, List.map_append, List.map_cons, List.map_nil, play_snoc, hl, hol]
      rw [List.getElem?_eq_getElem hjl] at hx
      rw [Option.some.inj hx]
    have hFnext : ∀ x, R[j]? = some x → x.fit → ∀ y ∈ R.take (j + 1), y.fit := fun x hx hf y hy => by
      have hjl : j < R.length := (List.getElem?_eq_some_iff.1 hx).1
      rw [List.take_succ_eq_append_getElem hjl, List.mem_append, List.mem_singleton] at hy
      rw [List.getElem?_eq_getElem hjl] at hx
      rcases hy with hy | rfl
      · exact hF.out y hy
      · rw [Option.some.inj hx]; exact hf
    rw [hl] at hLS hlen
    rw [hol] at hLS
    rcases Nat.lt_or_ge j R.length with hlt | hge
    · obtain ⟨x, hx⟩ : ∃ x, R[j]? = some x := ⟨_, List.getElem?_eq_getElem hlt⟩
      obtain ⟨ad, rfl, hst⟩ := hA.out (by omega)
      have hxn := hnum.out x (List.mem_of_getElem? hx)
      obtain ⟨q0, q1, q2, q3⟩ := hst.below (hLS.out.2.2.1) j x hx
      have hn1 := Lib.hid (hnext x hx)
      have hF1 := Lib.hid (hFnext x hx)
      have hr1 := Lib.hid (fun hf => Raw.right (x := x) hf hxn)
      have hsl := Lib.hid (fun hf => spec_len l (Raw.right (x := x) hf hxn))
      replace holl := Lib.hid holl
      have hj2 : (j : Int) < (R.length : Int) := by omega
      clear hnext hFnext hl hol hx hst hF
      obtain ⟨op, a, c, tx⟩ := x
      obtain ⟨ha, hc⟩ := hxn
      simp only at q0 q1 q2 q3 ha hc
      have hws : w.heap.size ≤ wx.heap.size := hLS.out.2.2.2
      have hL2 := Lib.hid (hLS.out.below ((Below.refl wx.heap.size wx).alloc (Nat.le_refl _) (.cells #[.int .i64 op, .int .u32 (a : Int), .int .u32 (c : Int), .string tx] 45)))
      have hV2 := Lib.hid (heap_alloc_new wx (.cells #[.int .i64 op, .int .u32 (a : Int), .int .u32 (c : Int), .string tx] 45))
      clear hLS
      go_upto_region 11 with (fail)
      obtain ⟨w2, hw2⟩ : ∃ w2, wx.alloc (.cells #[.int .i64 op, .int .u32 (a : Int), .int .u32 (c : Int), .string tx] 45) = w2 := ⟨_, rfl⟩
      rw [hw2] at hL2 hV2 ⊢
      obtain ⟨p, hp⟩ : ∃ p, wx.heap.size = p := ⟨_, rfl⟩
      rw [hp] at hV2 ⊢
      clear hw2 hp q0 q1 q2 q3 hws
      have v0 : w2.cell? ⟨p, 0, none⟩ = some (.int .i64 op) := cell_of_row w2 p 0 _ _ _ hV2.out
      have v1 : w2.cell? ⟨p, 1, none⟩ = some (.int .u32 (a : Int)) := cell_of_row w2 p 1 _ _ _ hV2.out
      have v2 : w2.cell? ⟨p, 2, none⟩ = some (.int .u32 (c : Int)) := cell_of_row w2 p 2 _ _ _ hV2.out
      have v3 : w2.cell? ⟨p, 3, none⟩ = some (.string tx) := cell_of_row w2 p 3 _ _ _ hV2.out
      have hbel : Hid (Below w.heap.size w w2) := hL2.out.2.2.1
      rcases Nat.lt_or_ge 200 tx.size with ht | ht
      · have hd : decide (200 < (tx.size : Int)) = true := decide_eq_true (by omega)
        go_wp2_with fail
        go_ret
        exact ⟨rfl, hbel.out⟩
      have hd : decide (200 < (tx.size : Int)) = false := decide_eq_false (by omega)
      by_cases ho1 : op < 1
      · go_wp2_with fail
        go_ret
        exact ⟨rfl, hbel.out⟩
      by_cases ho5 : 5 < op
      · go_wp2_with fail
        go_ret
        exact ⟨rfl, hbel.out⟩
      have hop : op = 1 ∨ op = 2 ∨ op = 3 ∨ op = 4 ∨ op = 5 := by omega
      have hft : Raw.fit ⟨op, a, c, tx⟩ := ⟨by show 1 ≤ op; omega, by show op ≤ 5; omega, ht⟩
      have hF2 := Lib.hid (hF1.out hft)
      have hR2 := hr1.out hft
      have hsl2 := hsl.out hft
      have hol30 : ol.length ≤ 30 := by have := holl.out; omega
      clear hF1 hr1 hsl hft hbel
      have hl30 : l.length ≤ 201 * 30 := by omega
      have hws2 : w.heap.size ≤ w2.heap.size := hL2.out.2.2.2
      rcases hop with rfl | rfl | rfl | rfl | rfl
      · have hstep := Lib.hid (show specF l (Raw.step ⟨1, a, c, tx⟩) = (l ++ [(a, a)], true) from rfl)
        have hnw2 := Lib.hid (two_new w2 _ rfl (.int .u32 (a : Int)) (.int .u32 (a : Int)) 24)
        have hLA := Lib.hid (hL2.out.below ((Below.refl w2.heap.size w2).alloc (Nat.le_refl _) (.cells #[.int .u32 (a : Int), .int .u32 (a : Int)] 24)))
        go_wp2_with (first
          | (at_builtin; refine wpList_append_lies _ rfl (.tmp 50) (.tmp 56) 26 rfl w.heap.size 24 i1 (.agg #[.int .u32 0, .int .u32 0]) 2 8 Tryd.underlying26 hjj.out hy0.out hy1.out hy2.out rfl (by decide) u3 l.length (flat l) rfl (World.ownsRow.alloc hL2.out.1 _) ⟨w2.heap.size, 0, none⟩ 1 1 [.int .u32 (a : Int), .int .u32 (a : Int)] rfl rfl hnw2.out (two_one' a a) (by decide) (by unfold maxLen; omega) (by omega) (by first | omega | (simp; omega)) _ rfl ?_; intro g5 cap5 w5 hown5 hgrow5 hat5 hlt5; have hE := Lib.hid (LS.push (m := [(a, a)]) hLA.out rfl rfl rfl hown5 hgrow5); have hwsE : w.heap.size ≤ w5.heap.size := hE.out.2.2.2; have hnwE := Lib.hid (one_row w5 _ rfl (.bool true) 4 rfl); clear hown5 hgrow5 hat5 hlt5 hnw2 hLA v0 v1 v2 v3)
          | (at_builtin; refine wpList_append_lies _ rfl (.tmp 93) (.tmp 95) 43 rfl w.heap.size 4 i0 (.bool false) 1 1 Tryd.underlying43 hii.out hz0.out hz1.out hz2.out rfl (by decide) u4 ol.length (ol.map Value.bool) rfl (World.ownsRow.alloc hE.out.2.1 _) ⟨w5.heap.size, 0, none⟩ 1 1 [.bool true] rfl rfl hnwE.out (by intro u hu; simp at hu; subst hu; rfl) (by decide) (by unfold maxLen; omega) (by omega) (by simp; omega) _ rfl ?_; intro g9 cap9 w9 hown9 hgrow9 hat9 hlt9))
        have hL9 := Lib.hid (LS.tell hE.out hown9 hgrow9)
        have hj9 := holl.out
        clear hown9 hgrow9 hat9 hlt9 hnwE
        go_roundw
        case rel => exact ⟨j + 1, _, _, by go_num, by omega, rfl, rfl, hF2, by rw [hn1.out, hstep.out]; rw [hstep.out] at hsl2; simp only at hsl2 ⊢; omega, by rw [hn1.out, hstep.out]; exact hL9⟩
        case measure => simp [RowKit.intOf]; omega
      · have hstep := Lib.hid (show specF l (Raw.step ⟨2, a, c, tx⟩) = (l ++ [rng a c], true) from rfl)
        have hcall := Lib.hid (range9_any a c w2)
        go_wp2_with fail
        refine (hcall.out).mono ?_
        rintro e w3 ⟨rfl, hb3⟩
        obtain ⟨x0, x1, hxy⟩ : ∃ x0 x1, rng a c = (x0, x1) := ⟨_, _, rfl⟩
        rw [hxy] at hstep ⊢
        have hL3 := Lib.hid (hL2.out.below hb3)
        have hws3 : w.heap.size ≤ w3.heap.size := hL3.out.2.2.2
        have hnw2 := Lib.hid (two_new w3 _ rfl (.int .u32 (x0 : Int)) (.int .u32 (x1 : Int)) 24)
        have hLA := Lib.hid (hL3.out.below ((Below.refl w3.heap.size w3).alloc (Nat.le_refl _) (.cells #[.int .u32 (x0 : Int), .int .u32 (x1 : Int)] 24)))
        clear hxy hb3 v0 v1 v2 v3 hcall
        go_wp2_with (first
          | (at_builtin; refine wpList_append_lies _ rfl (.tmp 60) (.tmp 66) 26 rfl w.heap.size 24 i1 (.agg #[.int .u32 0, .int .u32 0]) 2 8 Tryd.underlying26 hjj.out hy0.out hy1.out hy2.out rfl (by decide) u3 l.length (flat l) rfl (World.ownsRow.alloc hL3.out.1 _) ⟨w3.heap.size, 0, none⟩ 1 1 [.int .u32 (x0 : Int), .int .u32 (x1 : Int)] rfl rfl hnw2.out (two_one' x0 x1) (by decide) (by unfold maxLen; omega) (by omega) (by first | omega | (simp; omega)) _ rfl ?_; intro g5 cap5 w5 hown5 hgrow5 hat5 hlt5; have hE := Lib.hid (LS.push (m := [(x0, x1)]) hLA.out rfl rfl rfl hown5 hgrow5); have hwsE : w.heap.size ≤ w5.heap.size := hE.out.2.2.2; have hnwE := Lib.hid (one_row w5 _ rfl (.bool true) 4 rfl); clear hown5 hgrow5 hat5 hlt5 hnw2 hLA)
          | (at_builtin; refine wpList_append_lies _ rfl (.tmp 93) (.tmp 95) 43 rfl w.heap.size 4 i0 (.bool false) 1 1 Tryd.underlying43 hii.out hz0.out hz1.out hz2.out rfl (by decide) u4 ol.length (ol.map Value.bool) rfl (World.ownsRow.alloc hE.out.2.1 _) ⟨w5.heap.size, 0, none⟩ 1 1 [.bool true] rfl rfl hnwE.out (by intro u hu; simp at hu; subst hu; rfl) (by decide) (by unfold maxLen; omega) (by omega) (by simp; omega) _ rfl ?_; intro g9 cap9 w9 hown9 hgrow9 hat9 hlt9))
        have hL9 := Lib.hid (LS.tell hE.out hown9 hgrow9)
        have hj9 := holl.out
        clear hown9 hgrow9 hat9 hlt9 hnwE
        go_roundw
        case rel => exact ⟨j + 1, _, _, by go_num, by omega, rfl, rfl, hF2, by rw [hn1.out, hstep.out]; rw [hstep.out] at hsl2; simp only at hsl2 ⊢; omega, by rw [hn1.out, hstep.out]; exact hL9⟩
        case measure => simp [RowKit.intOf]; omega
      · have hcall := Lib.hid (parts9_any tx (by omega) w2)
        have hml := upto_len (parts tx)
        have hpl := parts_len tx
        go_wp2_with fail
        refine (hcall.out).mono ?_
        rintro e w3 ⟨v8, rfl, hrow8, hb3, hnil⟩
        have hstep := Lib.hid (show specF l (Raw.step ⟨3, a, c, tx⟩) = (l ++ (upto (parts tx)).1, (upto (parts tx)).2) from rfl)
        obtain ⟨m, hm⟩ : ∃ m, (upto (parts tx)).1 = m := ⟨_, rfl⟩
        obtain ⟨ok, hok⟩ : ∃ ok, (upto (parts tx)).2 = ok := ⟨_, rfl⟩
        rw [hm] at hstep hrow8 hnil hml
        rw [hok] at hstep ⊢
        have hL3 := Lib.hid (hL2.out.below hb3)
        have hws3 : w.heap.size ≤ w3.heap.size := hL3.out.2.2.2
        replace hrow8 := Lib.hid hrow8
        clear hm hok hb3 v0 v1 v2 v3 hcall
        by_cases hm0 : m = []
        · subst hm0
          obtain rfl := hnil rfl
          clear hnil
          go_wp2_with (first
            | (at_builtin; refine wpList_append_own_none rfl (.tmp 76) (.tmp 77) 26 rfl w.heap.size 24 i1 2 Tryd.underlying26 hjj.out u3 l.length (flat l) rfl hL3.out.1 rfl ?_; have hE := Lib.hid (show LS w.heap.size w u3 u4 (l ++ []) ol w3 by rw [List.append_nil]; exact hL3.out); have hwsE : w.heap.size ≤ w3.heap.size := hE.out.2.2.2; have hnwE := Lib.hid (one_row w3 _ rfl (.bool ok) 4 rfl))
            | (at_builtin; refine wpList_append_lies _ rfl (.tmp 93) (.tmp 95) 43 rfl w.heap.size 4 i0 (.bool false) 1 1 Tryd.underlying43 hii.out hz0.out hz1.out hz2.out rfl (by decide) u4 ol.length (ol.map Value.bool) rfl (World.ownsRow.alloc hE.out.2.1 _) ⟨w3.heap.size, 0, none⟩ 1 1 [.bool ok] rfl rfl hnwE.out (by intro u hu; simp at hu; subst hu; rfl) (by decide) (by unfold maxLen; omega) (by omega) (by simp; omega) _ rfl ?_; intro g9 cap9 w9 hown9 hgrow9 hat9 hlt9))
          have hL9 := Lib.hid (LS.tell hE.out hown9 hgrow9)
          have hj9 := holl.out
          clear hown9 hgrow9 hat9 hlt9 hnwE
          go_roundw
          case rel => exact ⟨j + 1, _, _, by go_num, by omega, rfl, rfl, hF2, by rw [hn1.out, hstep.out]; rw [hstep.out] at hsl2; simp only at hsl2 ⊢; omega, by rw [hn1.out, hstep.out]; exact hL9⟩
          case measure => simp [RowKit.intOf]; omega
        · have hmp : 0 < m.length := List.length_pos_iff.2 hm0
          obtain ⟨g8, cap8, rfl, hg8⟩ : ∃ g8 cap8, v8 = .slice (some ⟨g8, 0, none⟩) m.length cap8 ∧ True := by
            rcases hrow8.out.form with ⟨_, h⟩ | ⟨g8, cap8, h, _⟩
            · exact absurd h hm0
            · exact ⟨g8, cap8, h, trivial⟩
          have hnews := Lib.hid hrow8.out.news
          clear hnil hm0 hg8
          go_wp2_with (first
            | (at_builtin; refine wpList_append_lies _ rfl (.tmp 76) (.tmp 77) 26 rfl w.heap.size 24 i1 (.agg #[.int .u32 0, .int .u32 0]) 2 8 Tryd.underlying26 hjj.out hy0.out hy1.out hy2.out rfl (by decide) u3 l.length (flat l) rfl hL3.out.1 ⟨g8, 0, none⟩ m.length cap8 (flat m) rfl (flat_len m) hnews.out (flat_one m) hmp (by unfold maxLen; omega) (by omega) (by first | omega | (simp; omega)) _ rfl ?_; intro g5 cap5 w5 hown5 hgrow5 hat5 hlt5; have hE := Lib.hid (LS.push (m := m) hL3.out rfl rfl rfl hown5 hgrow5); have hwsE : w.heap.size ≤ w5.heap.size := hE.out.2.2.2; have hnwE := Lib.hid (one_row w5 _ rfl (.bool ok) 4 rfl); clear hown5 hgrow5 hat5 hlt5 hnews)
            | (at_builtin; refine wpList_append_lies _ rfl (.tmp 93) (.tmp 95) 43 rfl w.heap.size 4 i0 (.bool false) 1 1 Tryd.underlying43 hii.out hz0.out hz1.out hz2.out rfl (by decide) u4 ol.length (ol.map Value.bool) rfl (World.ownsRow.alloc hE.out.2.1 _) ⟨w5.heap.size, 0, none⟩ 1 1 [.bool ok] rfl rfl hnwE.out (by intro u hu; simp at hu; subst hu; rfl) (by decide) (by unfold maxLen; omega) (by omega) (by simp; omega) _ rfl ?_; intro g9 cap9 w9 hown9 hgrow9 hat9 hlt9))
          have hL9 := Lib.hid (LS.tell hE.out hown9 hgrow9)
          have hj9 := holl.out
          clear hown9 hgrow9 hat9 hlt9 hnwE
          go_roundw
          case rel => exact ⟨j + 1, _, _, by go_num, by omega, rfl, rfl, hF2, by rw [hn1.out, hstep.out]; rw [hstep.out] at hsl2; simp only at hsl2 ⊢; omega, by rw [hn1.out, hstep.out]; exact hL9⟩
          case measure => simp [RowKit.intOf]; omega
      · have hcall := Lib.hid (parts9_any tx (by omega) w2)
        have hml := upto_len (parts tx)
        have hpl := parts_len tx
        go_wp2_with fail
        refine (hcall.out).mono ?_
        rintro e w3 ⟨v8, rfl, hrow8, hb3, hnil⟩
        have hstep0 := Lib.hid (show specF l (Raw.step ⟨4, a, c, tx⟩) = if (upto (parts tx)).2 = true then (l ++ (upto (parts tx)).1, true) else (l, false) from rfl)
        have hup := Lib.hid (fun h => upto_pos (s := tx) h)
        obtain ⟨m, hm⟩ : ∃ m, (upto (parts tx)).1 = m := ⟨_, rfl⟩
        obtain ⟨ok, hok⟩ : ∃ ok, (upto (parts tx)).2 = ok := ⟨_, rfl⟩
        rw [hm] at hstep0 hrow8 hnil hml hup
        rw [hok] at hstep0 hup ⊢
        have hL3 := Lib.hid (hL2.out.below hb3)
        have hws3 : w.heap.size ≤ w3.heap.size := hL3.out.2.2.2
        replace hrow8 := Lib.hid hrow8
        clear hm hok hb3 v0 v1 v2 v3 hcall hnil
        cases ok with
        | false =>
          have hstep := Lib.hid (show specF l (Raw.step ⟨4, a, c, tx⟩) = (l, false) from hstep0.out)
          have hE := hL3
          clear hstep0 hup
          have hwsE : w.heap.size ≤ w3.heap.size := hE.out.2.2.2
          have hnwE := Lib.hid (one_row w3 _ rfl (.bool false) 4 rfl)
          go_wp2_with (at_builtin; refine wpList_append_lies _ rfl (.tmp 93) (.tmp 95) 43 rfl w.heap.size 4 i0 (.bool false) 1 1 Tryd.underlying43 hii.out hz0.out hz1.out hz2.out rfl (by decide) u4 ol.length (ol.map Value.bool) rfl (World.ownsRow.alloc hE.out.2.1 _) ⟨w3.heap.size, 0, none⟩ 1 1 [.bool false] rfl rfl hnwE.out (by intro u hu; simp at hu; subst hu; rfl) (by decide) (by unfold maxLen; omega) (by omega) (by simp; omega) _ rfl ?_; intro g9 cap9 w9 hown9 hgrow9 hat9 hlt9)
          have hL9 := Lib.hid (LS.tell hE.out hown9 hgrow9)
          have hj9 := holl.out
          clear hown9 hgrow9 hat9 hlt9 hnwE
          go_roundw
          case rel => exact ⟨j + 1, _, _, by go_num, by omega, rfl, rfl, hF2, by rw [hn1.out, hstep.out]; rw [hstep.out] at hsl2; simp only at hsl2 ⊢; omega, by rw [hn1.out, hstep.out]; exact hL9⟩
          case measure => simp [RowKit.intOf]; omega
        | true =>
          have hstep := Lib.hid (show specF l (Raw.step ⟨4, a, c, tx⟩) = (l ++ m, true) from hstep0.out)
          have hm0 : m ≠ [] := hup.out rfl
          have hmp : 0 < m.length := List.length_pos_iff.2 hm0
          obtain ⟨g8, cap8, rfl, hg8⟩ : ∃ g8 cap8, v8 = .slice (some ⟨g8, 0, none⟩) m.length cap8 ∧ True := by
            rcases hrow8.out.form with ⟨_, h⟩ | ⟨g8, cap8, h, _⟩
            · exact absurd h hm0
            · exact ⟨g8, cap8, h, trivial⟩
          have hnews := Lib.hid hrow8.out.news
          clear hstep0 hup hm0 hg8
          go_wp2_with (first
            | (at_builtin; refine wpList_append_lies _ rfl (.tmp 88) (.tmp 89) 26 rfl w.heap.size 24 i1 (.agg #[.int .u32 0, .int .u32 0]) 2 8 Tryd.underlying26 hjj.out hy0.out hy1.out hy2.out rfl (by decide) u3 l.length (flat l) rfl hL3.out.1 ⟨g8, 0, none⟩ m.length cap8 (flat m) rfl (flat_len m) hnews.out (flat_one m) hmp (by unfold maxLen; omega) (by omega) (by first | omega | (simp; omega)) _ rfl ?_; intro g5 cap5 w5 hown5 hgrow5 hat5 hlt5; have hE := Lib.hid (LS.push (m := m) hL3.out rfl rfl rfl hown5 hgrow5); have hwsE : w.heap.size ≤ w5.heap.size := hE.out.2.2.2; have hnwE := Lib.hid (one_row w5 _ rfl (.bool true) 4 rfl); clear hown5 hgrow5 hat5 hlt5 hnews)
            | (at_builtin; refine wpList_append_lies _ rfl (.tmp 93) (.tmp 95) 43 rfl w.heap.size 4 i0 (.bool false) 1 1 Tryd.underlying43 hii.out hz0.out hz1.out hz2.out rfl (by decide) u4 ol.length (ol.map Value.bool) rfl (World.ownsRow.alloc hE.out.2.1 _) ⟨w5.heap.size, 0, none⟩ 1 1 [.bool true] rfl rfl hnwE.out (by intro u hu; simp at hu; subst hu; rfl) (by decide) (by unfold maxLen; omega) (by omega) (by simp; omega) _ rfl ?_; intro g9 cap9 w9 hown9 hgrow9 hat9 hlt9))
          have hL9 := Lib.hid (LS.tell hE.out hown9 hgrow9)
          have hj9 := holl.out
          clear hown9 hgrow9 hat9 hlt9 hnwE
          go_roundw
          case rel => exact ⟨j + 1, _, _, by go_num, by omega, rfl, rfl, hF2, by rw [hn1.out, hstep.out]; rw [hstep.out] at hsl2; simp only at hsl2 ⊢; omega, by rw [hn1.out, hstep.out]; exact hL9⟩
          case measure => simp [RowKit.intOf]; omega
      · have hstep := Lib.hid (show specF l (Raw.step ⟨5, a, c, tx⟩) = ([], true) from rfl)
        have hE := Lib.hid (show LS w.heap.size w (.slice none 0 0) u4 [] ol w2 from ⟨RowI.nil _ _, hL2.out.2⟩)
        have hwsE : w.heap.size ≤ w2.heap.size := hE.out.2.2.2
        have hnwE := Lib.hid (one_row w2 _ rfl (.bool true) 4 rfl)
        go_wp2_with (at_builtin; refine wpList_append_lies _ rfl (.tmp 93) (.tmp 95) 43 rfl w.heap.size 4 i0 (.bool false) 1 1 Tryd.underlying43 hii.out hz0.out hz1.out hz2.out rfl (by decide) u4 ol.length (ol.map Value.bool) rfl (World.ownsRow.alloc hE.out.2.1 _) ⟨w2.heap.size, 0, none⟩ 1 1 [.bool true] rfl rfl hnwE.out (by intro u hu; simp at hu; subst hu; rfl) (by decide) (by unfold maxLen; omega) (by omega) (by simp; omega) _ rfl ?_; intro g9 cap9 w9 hown9 hgrow9 hat9 hlt9)
        have hL9 := Lib.hid (LS.tell hE.out hown9 hgrow9)
        have hj9 := holl.out
        clear hown9 hgrow9 hat9 hlt9 hnwE
        go_roundw
        case rel => exact ⟨j + 1, _, _, by go_num, by omega, rfl, rfl, hF2, by rw [hn1.out, hstep.out]; rw [hstep.out] at hsl2; simp only at hsl2 ⊢; omega, by rw [hn1.out, hstep.out]; exact hL9⟩
        case measure => simp [RowKit.intOf]; omega
    · obtain rfl : j = R.length := by omega
      have hF' : ∀ x ∈ R, x.fit := by have h := hF.out; rwa [List.take_length] at h
      rw [List.take_length] at hl hol
      have hRT : ∀ x ∈ R.map Raw.step, Right x := fun x hx => by
        obtain ⟨y, hy, rfl⟩ := List.mem_map.1 hx
        exact Raw.right (hF' y hy) (hnum.out y hy)
      have hokl : Okl l := by rw [← hl]; exact play_okl _ _ (fun x hx => by cases hx) hRT
      have hsp : playF stepF [] (R.map Raw.step) = (set9 l, ol) := by
        have h := play_spec (R.map Raw.step) [] (fun x hx => by cases hx) hRT
        rw [hl, hol] at h
        exact h
      have hok9 : Okl (set9 l) := (set9_ok l hokl).1.1
      have hlen9 : (set9 l).length ≤ 10000 := by
        have h := fold_len l []
        rw [fold_set9 l hokl, List.length_nil] at h
        omega
      have hp9 := Lib.hid (set9_any l (by omega) (fun x hx => ⟨(hokl x hx).1, (hokl x hx).2.1⟩) u3 wx w.heap.size hLS.out.1)
      have hplay := Lib.hid (show ∀ W, Below w.heap.size w W → Calls Tryd.prog 21 #[.slice A R.length cap] W (PlayedIs (R.map Raw.step) W) from fun W hb => by
        have h := played_any (R.map Raw.step) (by rw [List.length_map]; exact h30) hRT A cap W (fun hp => by
          rw [List.length_map] at hp
          obtain ⟨ad, h1, h2⟩ := hA.out hp
          exact ⟨ad, h1, (h2.below hb).steps hF'⟩) (henv.out.below hb)
        rw [List.length_map] at h
        exact h)
      have hsp' := Lib.hid hsp
      have hok9' := Lib.hid hok9
      have hB1 : Hid (Below w.heap.size w wx) := hLS.out.2.2.1
      have hU := Lib.hid hLS.out.2.1
      have hj3 : ¬ (R.length : Int) < (R.length : Int) := by omega
      obtain ⟨S9, hS9⟩ : ∃ S9, set9 l = S9 := ⟨_, rfl⟩
      rw [hS9] at hp9 hsp' hok9' hlen9
      replace holl := Lib.hid holl
      clear hnext hFnext hl hol hF hF' hRT hokl hsp hok9 hLS hA hnum hS9
      go_wp2_with fail
      refine (hp9.out).mono ?_
      rintro e w2 ⟨v2, rfl, hR2, hb2⟩
      have hB2 := Lib.hid (hB1.out.trans (hb2.mono hB1.out.size))
      have hU2 := Lib.hid (hU.out.below hb2)
      replace hR2 := Lib.hid hR2
      clear hb2 hp9
      go_wp2_with fail
      refine (hplay.out w2 hB2.out).mono ?_
      rintro e w3 ⟨v3, u3', rfl, hR3, hU3, hb3⟩
      rw [hsp'.out] at hR3 hU3 ⊢
      obtain ⟨txt, htxt⟩ : ∃ txt : ByteArray, (⟨((joinL S9).drop 1).toArray⟩ : ByteArray) = txt := ⟨_, rfl⟩
      rw [show ((S9, ol) : List Rg × List Bool).1 = S9 from rfl] at hR3 ⊢
      rw [show ((S9, ol) : List Rg × List Bool).2 = ol from rfl] at hU3
      rw [htxt]
      have hB3 := Lib.hid (hB2.out.trans (hb3.mono hB2.out.size))
      have hU4 := hU2.out.below hb3
      have hsame := Lib.hid (same_any S9 (by omega) v3 v2 w3 _ _ hR3 (Kd.R_below hR2.out hb3))
      have hR4 := Lib.hid (Kd.R_below hR2.out hb3)
      obtain ⟨A3, c3, rfl, hcell3⟩ := hU3.opened
      obtain ⟨A4, c4, rfl, hcell4⟩ := hU4.opened
      replace hcell3 := Lib.hid hcell3
      replace hcell4 := Lib.hid hcell4
      replace htxt := Lib.hid htxt
      clear hb3 hU3 hU4 hU2 hR3 hplay
      go_wp2_with fail
      refine (hsame.out).mono ?_
      rintro e w4 ⟨rfl, hb4⟩
      have hB4 := Lib.hid (hB3.out.trans (hb4.mono hB3.out.size))
      have hb34 := Lib.hid hb4
      have hst := Lib.hid (setText9_any (l := S9) hok9'.out hlen9 (Kd.R_below hR4.out hb4))
      rw [htxt.out] at hst
      clear hb4 hsame
      go_wp2_with fail
      refine (hst.out).mono ?_
      rintro e w5 ⟨rfl, hb5⟩
      have hB5 := Lib.hid (hB4.out.trans (hb5.mono hB4.out.size))
      have hb35 := Lib.hid (hb34.out.trans (hb5.mono hb34.out.size))
      clear hb5 hst
      go_wp2_with fail
      have hol30 : ol.length ≤ 6030 := by
        have h : ol.length = R.length := holl.out
        omega
      clear holl
      go_loopw [125] (fun s125 wr => ∃ k : Nat, s125 = .int .i64 (k : Int) ∧ k ≤ ol.length ∧ Hid (Below w5.heap.size w5 wr)) (fun s125 _ => ol.length - (RowKit.intOf s125).toNat)
      case atStart => exact ⟨0, rfl, Nat.zero_le _, Below.refl _ _⟩
      case round =>
        obtain ⟨wq, hwq⟩ : ∃ wq : World, wq = wr := ⟨_, rfl⟩
        rw [← hwq] at hrel ⊢
        clear hwq
        obtain ⟨k, rfl, hk, hBq⟩ := hrel
        have hb3q := Lib.hid (hb35.out.trans (hBq.out.mono hb35.out.size))
        rcases Nat.lt_or_ge k ol.length with hlt | hge
        · obtain ⟨g3, rfl, hc3⟩ := hcell3.out (by omega)
          obtain ⟨g4, rfl, hc4⟩ := hcell4.out (by omega)
          have q3 := hc3 k hlt
          have q4 := hc4 k hlt
          replace q3 := (hb3q.out.cell (World.block_lt_of_cell? w3 _ q3)).trans q3
          replace q4 := (hb3q.out.cell (World.block_lt_of_cell? w3 _ q4)).trans q4
          obtain ⟨x, hx⟩ : ∃ x, ol.getD k false = x := ⟨_, rfl⟩
          rw [hx] at q3 q4
          have hk1 : (0 : Int) ≤ (k : Int) := by omega
          have hk2 : (k : Int) < (ol.length : Int) := by omega
          clear hc3 hc4 hx
          cases x
          all_goals
            go_wp2_with fail
            go_quiet (fail)
            go_wp2_with fail
            go_roundw
            case rel => exact ⟨k + 1, by go_num, by omega, Lib.hid (by first | exact pw_below_drewN hBq.out _ | exact hBq.out.drew | exact hBq.out)⟩
            case measure => simp [RowKit.intOf]; omega
        · have hk3 : ¬ (k : Int) < (ol.length : Int) := by omega
          have hBw := Lib.hid (hB5.out.trans (hBq.out.mono hB5.out.size))
          have h7 := Lib.hid (show ∀ W : World, Below wq.heap.size wq W → W.heap[wq.heap.size]? = some (.cells #[.int .i64 1, .int .u32 7, .int .u32 0, .string ⟨#[]⟩] 45 (0, 0)) → Calls Tryd.prog 21 #[.slice (some ⟨wq.heap.size, 0, none⟩) 1 1] W (PlayedIs [(⟨1, 7, 0, ⟨#[]⟩⟩ : Step)] W) from fun W hb hW => by
            refine played_any [(⟨1, 7, 0, ⟨#[]⟩⟩ : Step)] (by decide) (fun x hx => ?_) (some ⟨wq.heap.size, 0, none⟩) 1 W (fun _ => ⟨_, rfl, fun i x hx => ?_⟩) (henv.out.below (hBw.out.trans (hb.mono hBw.out.size)))
            · simp at hx; subst hx; exact ⟨by decide, by decide, by decide, by decide, by decide⟩
            · match i, hx with
              | 0, hx =>
                simp at hx; subst hx
                have hadd : (⟨wq.heap.size, 0, none⟩ : Addr).add (0 * 4) = ⟨wq.heap.size, 0, none⟩ := by rw [Addr.add_lit]
                rw [hadd]
                exact ⟨cell_of_row W _ 0 _ _ _ hW, cell_of_row W _ 1 _ _ _ hW, cell_of_row W _ 2 _ _ _ hW, cell_of_row W _ 3 _ _ _ hW⟩)
          have hnew := Lib.hid (heap_alloc_new wq (.cells #[.int .i64 1, .int .u32 7, .int .u32 0, .string ⟨#[]⟩] 45))
          have hbal := Lib.hid ((Below.refl wq.heap.size wq).alloc (Nat.le_refl _) (.cells #[.int .i64 1, .int .u32 7, .int .u32 0, .string ⟨#[]⟩] 45))
          go_wp2_with fail
          refine (h7.out _ hbal.out hnew.out).mono ?_
          rintro e w6 ⟨v6, u6, rfl, _, _, hb6⟩
          have hB6 := Lib.hid ((hBw.out.trans (hbal.out.mono hBw.out.size)).trans (hb6.mono (Nat.le_trans hBw.out.size hbal.out.size)))
          rw [seven]
          clear hb6
          go_wp2_with fail
          go_ret
          exact ⟨rfl, hB6.out⟩
end Go.Proofs.YtajifebphcgcpaaDoor.Own

namespace Go.Proofs.YtajifebphcgcpaaDoor.Own
open Go.RowKit Go.Lib Go.ChangeShapes Go.WideShapes Go.Deep
set_option linter.unusedVariables false
set_option linter.unusedSimpArgs false

theorem list_of {α : Type} {p : Nat → α → Prop} : ∀ n : Nat, (∀ i, i < n → ∃ x, p i x) → ∃ l : List α, l.length = n ∧ ∀ i x, l[i]? = some x → p i x
  | 0, _ => ⟨[], rfl, fun i x h => by simp at h⟩
  | n + 1, h => by
    obtain ⟨l, h1, h2⟩ := list_of n (fun i hi => h i (by omega))
    obtain ⟨x, hx⟩ := h n (by omega)
    refine ⟨l ++ [x], by simp [h1], fun i y hy => ?_⟩
    rcases Nat.lt_or_ge i n with hi | hi
    · rw [List.getElem?_append_left (by omega)] at hy
      exact h2 i y hy
    · rw [List.getElem?_append_right (by omega), h1] at hy
      rcases Nat.lt_or_ge i (n + 1) with h3 | h3
      · obtain rfl : i = n := by omega
        simp at hy
        subst hy
        exact hx
      · obtain ⟨q, hq⟩ : ∃ q, i - n = q + 1 := ⟨i - n - 1, by omega⟩
        rw [hq] at hy
        simp at hy

theorem four {α : Type} : ∀ {l : List α}, l.length = 4 → ∃ a b c d, l = [a, b, c, d]
  | [a, b, c, d], _ => ⟨a, b, c, d, rfl⟩
section
variable {H : Type} {enc : TypeId × Value → H} {w : World} {spare : Nat → Bool} {held : Bool}
/-- One step: its four fields, read one after the other. -/
theorem open_step {fuel : Nat} {cs : List Value} {x : DataW H × List MemPlace} (h : DataW.trod enc Tryd.prog w 0 spare held fuel 45 cs = some x) :
    ∃ r : Raw, r.num ∧ cs = [.int .i64 r.op, .int .u32 (r.a : Int), .int .u32 (r.b : Int), .string r.t] := by
  obtain ⟨xs, n, _, _, hl, hlen, hg⟩ := DataW.trod_struct Tryd.underlying45 h
  rw [show Tryd.prog.cellsOf 45 = 4 by kernel_rfl] at hl
  have ci : Tryd.prog.cellsOf 3 = 1 := by kernel_rfl
  have cu : Tryd.prog.cellsOf 22 = 1 := by kernel_rfl
  have cst : Tryd.prog.cellsOf 9 = 1 := by kernel_rfl
  replace hlen : xs.length = 4 := hlen
  clear h
  obtain ⟨c0, c1, c2, c3, rfl⟩ := four hl
  obtain ⟨y0, y1, y2, y3, rfl⟩ := four hlen
  have g0 : DataW.trod enc Tryd.prog w 0 spare held n 3 [c0] = some y0 := by simpa [ci] using hg 0 _ rfl
  have g1 : DataW.trod enc Tryd.prog w 0 spare held n 22 [c1] = some y1 := by simpa [cu] using hg 1 _ rfl
  have g2 : DataW.trod enc Tryd.prog w 0 spare held n 22 [c2] = some y2 := by simpa [cu] using hg 2 _ rfl
  have g3 : DataW.trod enc Tryd.prog w 0 spare held n 9 [c3] = some y3 := by simpa [cst] using hg 3 _ rfl
  obtain ⟨a0, e0, _, _⟩ := DataW.trod_int Tryd.underlying3 g0
  obtain ⟨a1, e1, _, k1⟩ := DataW.trod_int Tryd.underlying22 g1
  obtain ⟨a2, e2, _, k2⟩ := DataW.trod_int Tryd.underlying22 g2
  obtain ⟨a3, e3, _, _⟩ := DataW.trod_string Tryd.underlying9 g3
  obtain ⟨n1, rfl, l1⟩ : ∃ m : Nat, a1 = (m : Int) ∧ m < 4294967296 := by
    have : 0 ≤ a1 ∧ a1 < 4294967296 := by
      simp [Lit.wf, IntKind.min, IntKind.max, IntKind.signed, IntKind.bits] at k1
      omega
    exact ⟨a1.toNat, by omega, by omega⟩
  obtain ⟨n2, rfl, l2⟩ : ∃ m : Nat, a2 = (m : Int) ∧ m < 4294967296 := by
    have : 0 ≤ a2 ∧ a2 < 4294967296 := by
      simp [Lit.wf, IntKind.min, IntKind.max, IntKind.signed, IntKind.bits] at k2
      omega
    exact ⟨a2.toNat, by omega, by omega⟩
  refine ⟨⟨a0, n1, n2, a3⟩, ⟨l1, l2⟩, ?_⟩
  simp at e0 e1 e2 e3
  simp [e0, e1, e2, e3]
theorem open_steps {a : Option Addr} {len cap : Nat} {d : DataW H} {p : List MemPlace} (h : DataW.Trod enc Tryd.prog w 0 spare held 41 (.slice a len cap) d p) :
    ∃ R : List Raw, R.length = len ∧ (∀ x ∈ R, x.num) ∧ (0 < R.length → ∃ ad, a = some ad ∧ RawAt w ad R) := by
  obtain ⟨fuel, hf⟩ := h
  rcases open_slice Tryd.underlying41 hf with ⟨hcs, _⟩ | ⟨ad, ln, cp, m, n, D, Pl, hcs, _, hl, _, hm, _, hi⟩
  · simp [Value.cells] at hcs
    obtain ⟨rfl, rfl, rfl⟩ := hcs
    exact ⟨[], rfl, by simp, fun h => absurd h (by simp)⟩
  · simp [Value.cells] at hcs
    obtain ⟨rfl, rfl, rfl⟩ := hcs
    have hlm : len ≤ m := by rw [hm]; split <;> omega
    have hC : Tryd.prog.cellsOf 45 = 4 := by kernel_rfl
    rw [hC] at hi
    obtain ⟨R, hR, hall⟩ := list_of (p := fun i (r : Raw) => r.num ∧ (w.cell? (ad.add (i * 4)) = some (.int .i64 r.op) ∧ w.cell? ⟨(ad.add (i * 4)).block, (ad.add (i * 4)).off + 1, none⟩ = some (.int .u32 (r.a : Int)) ∧
        w.cell? ⟨(ad.add (i * 4)).block, (ad.add (i * 4)).off + 2, none⟩ = some (.int .u32 (r.b : Int)) ∧ w.cell? ⟨(ad.add (i * 4)).block, (ad.add (i * 4)).off + 3, none⟩ = some (.string r.t))) len (fun i hil => by
      obtain ⟨cs', h1, h2⟩ := hi i (by omega)
      obtain ⟨r, hnum, rfl⟩ := open_step h2
      obtain ⟨_, _, hat⟩ := World.cells?_some h1
      have q0 := hat 0 (by omega)
      have q1 := hat 1 (by omega)
      have q2 := hat 2 (by omega)
      have q3 := hat 3 (by omega)
      refine ⟨r, hnum, ?_, ?_, ?_, ?_⟩
      · simpa [Addr.add] using q0
      · simpa [Addr.add] using q1
      · simpa [Addr.add] using q2
      · simpa [Addr.add] using q3)
    refine ⟨R, hR, fun x hx => ?_, fun _ => ⟨ad, rfl, fun i x hx => (hall i x hx).2⟩⟩
    obtain ⟨i, hx⟩ := List.getElem?_of_mem hx
    exact (hall i x hx).1
end
end Go.Proofs.YtajifebphcgcpaaDoor.Own
