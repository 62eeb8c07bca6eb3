/- impl.SeqPlayed by hand: the set behind some steps. FnSeqPlayed: the steps as they come in, and the rows that the law grows side by side. -/
import Derived.Test.YtajifebphcgcpaaDoorMQ
import Derived.Laws.AppendOwnNone
namespace Go.Proofs.YtajifebphcgcpaaDoor.Own
open Go.RowKit Go.Lib Sets Go.Proofs.YtajifebphcgcpaaDoorW.PrintWords
set_option linter.unusedVariables false
set_option linter.unusedSimpArgs false

theorem info_bool : (Tryd.prog.info? 4).map (fun i => (i.zero, i.size, i.bytes)) = some (some (.bool false), 1, 1) := by kernel_rfl
/-- The row of a slice of bools. -/
def RowB (w : World) (base : Nat) (v : Value) (l : List Bool) : Prop := w.ownsRow base 4 1 v l.length (l.map Value.bool)
theorem RowB.nil (w : World) (base : Nat) : RowB w base (.slice none 0 0) [] := World.ownsRow_nil _ _ _ _
theorem RowB.below {w w' : World} {base : Nat} {v : Value} {l : List Bool} (h : RowB w base v l) (hb : Below w.heap.size w w') : RowB w' base v l := own_move h fun k hk => hb.block k (World.ownsRow.lt h k hk).2
theorem RowB.form {w : World} {base : Nat} {v : Value} {l : List Bool} (h : RowB w base v l) : (v = .slice none 0 0 ∧ l = []) ∨ ∃ g cap, v = .slice (some ⟨g, 0, none⟩) l.length cap ∧ base ≤ g ∧ g < w.heap.size ∧ l.length ≤ cap := by
  rcases h.2 with ⟨h1, h0⟩ | ⟨g, cap, cur, hv, hb, hg, hc, _⟩
  · exact .inl ⟨h1, List.eq_nil_of_length_eq_zero h0⟩
  · exact .inr ⟨g, cap, hv, hb, (Array.getElem?_eq_some_iff.1 hg).1, hc⟩
theorem RowB.cell {w : World} {base g n cap : Nat} {l : List Bool} (h : RowB w base (.slice (some ⟨g, 0, none⟩) n cap) l) (i : Nat) (hi : i < l.length) : w.cell? ⟨g, i, none⟩ = some (.bool (l.getD i false)) := by
  have hn : n = l.length := by
    rcases h.form with ⟨h1, _⟩ | ⟨g', cap', hv, _⟩
    · simp at h1
    · simp only [Value.slice.injEq] at hv; exact hv.2.1
  subst hn
  have := World.ownsRow.cellAt h i (by omega)
  rw [this, List.getElem?_map, List.getD_eq_getElem?_getD, List.getElem?_eq_getElem hi]
  rfl
/-- A set at block b holds l; a row of bools u holds ol; neither touches the other's blocks. -/
def PS (b : Nat) (l : List Rg) (u : Value) (ol : List Bool) (w : World) : Prop := ∃ G, SetAt G b l w ∧ RowB w (b + 1) u ol ∧ ∀ k, u.ownBlock = some k → ∃ T, G k = some T
theorem PS.lt {b : Nat} {l : List Rg} {u : Value} {ol : List Bool} {w : World} (h : PS b l u ol w) : b < w.heap.size := by
  obtain ⟨G, h1, _⟩ := h; exact h1.lt
/-- Behind a callee that keeps what is guarded. -/
theorem PS.put {b : Nat} {u : Value} {ol : List Bool} {w w' : World} {G : Nat → Option Obj} {l' : List Rg} {l : List Rg} (h1 : SetAt G b l w) (h2 : RowB w (b + 1) u ol) (h3 : ∀ k, u.ownBlock = some k → ∃ T, G k = some T) (h : SetAt G b l' w') : PS b l' u ol w' := by
  refine ⟨G, h, own_move h2 fun k hk => ?_, h3⟩
  obtain ⟨T, hT⟩ := h3 k hk
  obtain ⟨_, _, _, d1⟩ := h1
  obtain ⟨_, _, _, d2⟩ := h
  rw [(d2 k T hT).2.2, (d1 k T hT).2.2]
theorem PS.below {b : Nat} {l : List Rg} {u : Value} {ol : List Bool} {w w' : World} (h : PS b l u ol w) (hb : Below w.heap.size w w') : PS b l u ol w' := by
  obtain ⟨G, h1, h2, h3⟩ := h
  exact ⟨G, h1.below hb, h2.below hb, h3⟩
/-- Behind one bool more. -/
theorem PS.push {b : Nat} {l : List Rg} {u : Value} {ol : List Bool} {x : Bool} {w w2 : World} {o : Obj} {g cap : Nat} (h : PS b l u ol w) (hg : (w.alloc o).grownBy w2 u.ownBlock) (hown : w2.ownsRow (b + 1) 4 1 (.slice (some ⟨g, 0, none⟩) (ol.length + 1) cap) (ol.length + 1) (ol.map Value.bool ++ [.bool x]))
    (hat : u.ownBlock = some g ∨ g = w.heap.size + 1) : PS b l (.slice (some ⟨g, 0, none⟩) (ol.length + 1) cap) (ol ++ [x]) w2 := by
  obtain ⟨G, ⟨v, h1, h2, h4⟩, hr, h3⟩ := h
  have hlt : b < w.heap.size := (Array.getElem?_eq_some_iff.1 h1).1
  have hkeep : ∀ k, k < w.heap.size → some k ≠ u.ownBlock → w2.heap[k]? = w.heap[k]? := fun k hk hne => by
    rw [hg.block k (by simp; omega) hne, Below.heap_alloc _ _ _ hk]
  have hub : ∀ k, u.ownBlock = some k → b + 1 ≤ k ∧ k < w.heap.size := fun k e => World.ownsRow.lt hr k e
  have hb2 : w2.heap[b]? = some (.cells #[v] 66 (0, 0)) := (hkeep b hlt (fun e => by have := hub b e.symm; omega)).trans h1
  have hvu : ∀ k, v.ownBlock = some k → some k ≠ u.ownBlock := fun k e e2 => by
    obtain ⟨T, hT⟩ := h3 k e2.symm
    exact (h4 k T hT).1 e
  have hv2 : RowQ w2 (b + 1) v l := own_move h2 fun k hk => hkeep k (World.ownsRow.lt h2 k hk).2 (hvu k hk)
  have hown' : RowB w2 (b + 1) (.slice (some ⟨g, 0, none⟩) (ol.length + 1) cap) (ol ++ [x]) := by
    unfold RowB
    rw [List.length_append, List.map_append]
    exact hown
  obtain ⟨T, hT⟩ : ∃ T, w2.heap[g]? = some T := by
    rcases hown.2 with ⟨h, _⟩ | ⟨g', cap', cur, hv, _, hg2, _⟩
    · simp at h
    · simp only [Value.slice.injEq, Option.some.injEq, Addr.mk.injEq, and_true, true_and] at hv
      obtain ⟨rfl, rfl⟩ := hv
      exact ⟨_, hg2⟩
  have hbg : b ≠ g := by
    have := (World.ownsRow.lt hown g rfl).1
    omega
  have hvg : v.ownBlock ≠ some g := fun e => by
    rcases hat with h | h
    · exact hvu g e h.symm
    · have := (World.ownsRow.lt h2 g e).2
      omega
  refine ⟨addG (fun _ => .none) g T, ⟨v, hb2, hv2, fun k U hk => ?_⟩, hown', fun k hk => ?_⟩
  · unfold addG at hk
    split at hk
    · rename_i e
      subst e
      cases hk
      exact ⟨hvg, hbg, hT⟩
    · cases hk
  · obtain rfl : g = k := Option.some.inj hk
    exact ⟨T, by unfold addG; rw [if_pos rfl]⟩
theorem one_row (W : World) (H : Nat) (hH : W.heap.size = H) (v : Value) (t : TypeId) (h1 : v.oneCell' = true) : ∀ j u, [v][j]? = some u → (W.alloc (.cells #[v] t)).cell? ((⟨H, 0, none⟩ : Addr).add j) = some u := by
  subst hH
  intro j u hj
  match j, hj with
  | 0, hj => simp at hj; subst hj; rw [Addr.add_lit]; exact cell_of_row _ _ 0 _ _ _ (heap_alloc_new W _)
/-- The steps' cells. -/
def StepsAt (w : World) (ad : Addr) (L : List Step) : Prop := ∀ i x, L[i]? = some x → w.cell? (ad.add (i * 4)) = some (.int .i64 (x.op : Int)) ∧ w.cell? ⟨(ad.add (i * 4)).block, (ad.add (i * 4)).off + 1, none⟩ = some (.int .u32 (x.a : Int)) ∧
  w.cell? ⟨(ad.add (i * 4)).block, (ad.add (i * 4)).off + 2, none⟩ = some (.int .u32 (x.b : Int)) ∧ w.cell? ⟨(ad.add (i * 4)).block, (ad.add (i * 4)).off + 3, none⟩ = some (.string x.t)
def PlayedIs (L : List Step) (w : World) (e : Ending) (w' : World) : Prop := ∃ v u, e = .returned (.tuple #[v, u, .string ⟨((joinL (playF stepF [] L).1).drop 1).toArray⟩]) ∧ RowR w' w.heap.size v (playF stepF [] L).1 ∧ RowB w' (w.heap.size + 1) u (playF stepF [] L).2 ∧ Below w.heap.size w w'
/-- What the row lists: the two errors' cells, and the table of powers. -/
def EnvT (w : World) : Prop := EnvS w ∧ TabB w
theorem EnvT.below {w w' : World} (h : EnvT w) (hb : Below w.heap.size w w') : EnvT w' := ⟨h.1.below hb, fun W hW => h.2 W (hb.trans (hW.mono hb.size))⟩

set_option maxHeartbeats 8000000 in
set_option maxRecDepth 100000 in
theorem played_any (L : List Step) (hL : L.length ≤ 30) (hR : ∀ x ∈ L, Right x) (A : Option Addr) (cap : Nat) (w : World) (hA : 0 < L.length → ∃ ad, A = some ad ∧ StepsAt w ad L) (henv : EnvT w) :
    Calls Tryd.prog 21 #[.slice A L.length cap] w (PlayedIs L w) := by
  obtain ⟨i0, hii, hz0, hz1, hz2⟩ := info_parts info_bool
  replace hii := Lib.hid hii
  replace hz0 := Lib.hid hz0
  replace hz1 := Lib.hid hz1
  replace hz2 := Lib.hid hz2
  obtain ⟨W0, hW0⟩ : ∃ W0, w.alloc (.cells #[.slice none 0 0] 66) = W0 := ⟨_, rfl⟩
  have hb0 := Lib.hid (show Below w.heap.size w W0 by rw [← hW0]; exact (Below.refl _ _).alloc (Nat.le_refl _) _)
  have hS0 : SetAt (fun _ => .none) w.heap.size [] W0 := ⟨.slice none 0 0, by rw [← hW0]; exact heap_alloc_new _ _, RowQ.nil _ _, Gd.none _ _ _⟩
  have hP0 := Lib.hid (show PS w.heap.size [] (.slice none 0 0) [] W0 from ⟨_, hS0, RowB.nil _ _, fun k hk => by cases hk⟩)
  replace henv := Lib.hid henv
  replace hA := Lib.hid hA
  replace hR := Lib.hid hR
  clear hS0
  go_enter Tryd.func21, Tryd.ntmps21
  go_wp2_with fail
  clear hW0
  go_loopw [3, 15] (fun s3 s15 wr => ∃ (j : Nat) (u : Value), s15 = .int .i64 (j : Int) ∧ j ≤ L.length ∧ s3 = u ∧ Hid (PS w.heap.size (playF stepF [] (L.take j)).1 u (playF stepF [] (L.take j)).2 wr) ∧ Hid (Canon (playF stepF [] (L.take j)).1) ∧ (playF stepF [] (L.take j)).1.length ≤ 201 * j ∧ Hid (Below w.heap.size w wr)) (fun _ s15 _ => L.length - (RowKit.intOf s15).toNat)
  case atStart => exact ⟨0, _, rfl, Nat.zero_le _, rfl, hP0, canon_nil, Nat.zero_le _, hb0⟩
  case round =>
    obtain ⟨wx, hwx⟩ : ∃ wx : World, wx = wr := ⟨_, rfl⟩
    rw [← hwx] at hrel ⊢
    clear hwx
    obtain ⟨j, u, rfl, hj, rfl, hP, hcan, hlen, hB⟩ := hrel
    obtain ⟨l, hl⟩ : ∃ l, (playF stepF [] (L.take j)).1 = l := ⟨_, rfl⟩
    obtain ⟨ol, hol⟩ : ∃ ol, (playF stepF [] (L.take j)).2 = ol := ⟨_, rfl⟩
    have holl : ol.length = j := by rw [← hol, play_len, List.length_take]; omega
    have hnext : ∀ x, L[j]? = some x → playF stepF [] (L.take (j + 1)) = ((stepF l x).1, ol ++ [(stepF l x).2]) := fun x hx => by
      have hjl : j < L.length := (List.getElem?_eq_some_iff.1 hx).1
      rw [List.take_succ_eq_append_getElem hjl, play_snoc, hl, hol]
      rw [List.getElem?_eq_getElem hjl] at hx
      rw [Option.some.inj hx]
    rw [hl] at hP hcan hlen
    rw [hol] at hP
    rcases Nat.lt_or_ge j L.length with hlt | hge
    · obtain ⟨x, hx⟩ : ∃ x, L[j]? = some x := ⟨_, List.getElem?_eq_getElem hlt⟩
      obtain ⟨ad, rfl, hst⟩ := hA.out (by omega)
      have hxR := hR.out x (List.mem_of_getElem? hx)
      obtain ⟨q0, q1, q2, q3⟩ := hst j x hx
      replace q0 := (hB.out.cell (World.block_lt_of_cell? w _ q0)).trans q0
      replace q1 := (hB.out.cell (World.block_lt_of_cell? w _ q1)).trans q1
      replace q2 := (hB.out.cell (World.block_lt_of_cell? w _ q2)).trans q2
      replace q3 := (hB.out.cell (World.block_lt_of_cell? w _ q3)).trans q3
      have hn := hnext x hx
      have hslen := step_len l hxR
      have hscan := Lib.hid (step_canon hcan.out hxR)
      replace hn := Lib.hid hn
      replace hxR := Lib.hid hxR
      replace holl := Lib.hid holl
      have hj2 : (j : Int) < (L.length : Int) := by omega
      clear hnext hl hol hx hst
      obtain ⟨op, a, c, tx⟩ := x
      have hop : op = 1 ∨ op = 2 ∨ op = 3 ∨ op = 4 ∨ op = 5 := by
        obtain ⟨h1, h2, _⟩ := hxR.out
        simp only at h1 h2
        omega
      have hts : tx.size ≤ 200 := hxR.out.2.2.1
      have ha : a < 4294967296 := hxR.out.2.2.2.1
      have hc : c < 4294967296 := hxR.out.2.2.2.2
      have hol30 : ol.length ≤ 30 := by have := holl.out; omega
      have hws : w.heap.size ≤ wx.heap.size := hB.out.size
      obtain ⟨opv, hopv⟩ : ∃ opv : Int, (op : Int) = opv := ⟨_, rfl⟩
      simp only at q0 q1 q2 q3
      rw [hopv] at q0
      have hP2 := Lib.hid (hP.out.below ((Below.refl wx.heap.size wx).alloc (Nat.le_refl _) (.cells #[.int .i64 opv, .int .u32 (a : Int), .int .u32 (c : Int), .string tx] 45)))
      have hB2 := Lib.hid (hB.out.alloc hws (.cells #[.int .i64 opv, .int .u32 (a : Int), .int .u32 (c : Int), .string tx] 45))
      have hV2 := Lib.hid (heap_alloc_new wx (.cells #[.int .i64 opv, .int .u32 (a : Int), .int .u32 (c : Int), .string tx] 45))
      clear hP hB
      go_upto_region 5 with (fail)
      obtain ⟨w2, hw2⟩ : ∃ w2, wx.alloc (.cells #[.int .i64 opv, .int .u32 (a : Int), .int .u32 (c : Int), .string tx] 45) = w2 := ⟨_, rfl⟩
      rw [hw2] at hP2 hB2 hV2 ⊢
      obtain ⟨p, hp⟩ : ∃ p, wx.heap.size = p := ⟨_, rfl⟩
      rw [hp] at hV2 ⊢
      clear hw2 hp q0 q1 q2 q3 hws
      have v0 : w2.cell? ⟨p, 0, none⟩ = some (.int .i64 opv) := cell_of_row w2 p 0 _ _ _ hV2.out
      have v1 : w2.cell? ⟨p, 1, none⟩ = some (.int .u32 (a : Int)) := cell_of_row w2 p 1 _ _ _ hV2.out
      have v2 : w2.cell? ⟨p, 2, none⟩ = some (.int .u32 (c : Int)) := cell_of_row w2 p 2 _ _ _ hV2.out
      have v3 : w2.cell? ⟨p, 3, none⟩ = some (.string tx) := cell_of_row w2 p 3 _ _ _ hV2.out
      have hES := Lib.hid (show EnvS w2 from henv.out.1.below hB2.out)
      have hEB := Lib.hid (show EnvB w.heap.size w2 from henv.out.1.belowB hB2.out)
      obtain ⟨G, hS2, hrow2, hgd2⟩ := hP2.out
      replace hS2 := Lib.hid hS2
      replace hrow2 := Lib.hid hrow2
      replace hgd2 := Lib.hid hgd2
      rcases hop with rfl | rfl | rfl | rfl | rfl
      · have hstep := Lib.hid (show stepF l ⟨1, a, c, tx⟩ = (ins l (a, a), true) from rfl)
        rw [hstep.out] at hslen hscan
        simp only at hslen
        obtain rfl : opv = 1 := hopv.symm
        clear hopv
        have hbA := (Below.refl w2.heap.size w2).alloc (Nat.le_refl _) (.cells #[.int .u32 (a : Int)] 22)
        have hcell := cell_of_row (w2.alloc (.cells #[.int .u32 (a : Int)] 22)) w2.heap.size 0 _ _ _ (heap_alloc_new _ _)
        have hcall := Lib.hid (addNum_any G w.heap.size w2.heap.size a l _ (hS2.out.below hbA) hcan.out ha (by omega) hcell)
        replace hbA := Lib.hid hbA
        clear hcell
        go_wp2_with fail
        refine (hcall.out).mono ?_
        rintro e w3 ⟨rfl, hS3, hb3⟩
        have hE := Lib.hid (PS.put hS2.out hrow2.out hgd2.out hS3)
        have hBE := Lib.hid (hB2.out.trans ((hbA.out.mono (Nat.le_of_lt hS2.out.lt)).trans hb3))
        clear hS3 hb3 v0 v1 v2 v3
        have hrowE := Lib.hid (show RowB w3 (w.heap.size + 1) u3 ol from by obtain ⟨_, _, h, _⟩ := hE.out; exact h)
        have hwsE : w.heap.size + 1 ≤ w3.heap.size := hE.out.lt
        have hnw := Lib.hid (one_row w3 _ rfl (.bool true) 4 rfl)
        go_wp2_with (at_builtin; refine wpList_append_lies _ rfl (.tmp 61) (.tmp 63) 43 rfl (w.heap.size + 1) 4 i0 (.bool false) 1 1 Tryd.underlying43 hii.out hz0.out hz1.out hz2.out rfl (by decide) u3 ol.length (ol.map Value.bool) rfl (World.ownsRow.alloc hrowE.out _) ⟨w3.heap.size, 0, none⟩ 1 1 [.bool true] rfl rfl hnw.out (by intro u hu; simp at hu; subst hu; rfl) (by decide) (by unfold maxLen; omega) (by omega) (by simp; omega) _ rfl ?_; intro g9 cap9 w9 hown9 hgrow9 hat9 hlt9)
        have hP9 := Lib.hid (PS.push hE.out hgrow9 hown9 (by simpa using hat9))
        have hB9 := Lib.hid (show Below w.heap.size w w9 from Below.grown (hBE.out.alloc (Nat.le_of_succ_le hwsE) _) hgrow9 (by simp; omega) (fun k e => Nat.le_of_succ_le (World.ownsRow.lt hrowE.out k e).1))
        have hl9 := Lib.hid (show (ol.length : Nat) = j from holl.out)
        clear hown9 hgrow9 hat9 hlt9 hrowE hnw
        go_roundw
        case rel => exact ⟨j + 1, _, by go_num, by omega, rfl, by rw [hn.out, hstep.out]; exact hP9, by rw [hn.out, hstep.out]; exact hscan, by rw [hn.out, hstep.out]; simp only; omega, hB9⟩
        case measure => simp [RowKit.intOf]; omega
      · have hstep := Lib.hid (show stepF l ⟨2, a, c, tx⟩ = (ins l (rng a c), true) from rfl)
        rw [hstep.out] at hslen hscan
        simp only at hslen
        obtain rfl : opv = 2 := hopv.symm
        clear hopv
        have hcall := Lib.hid (addRange_any G w.heap.size a c l w2 hS2.out hcan.out ha hc (by omega))
        go_wp2_with fail
        refine (hcall.out).mono ?_
        rintro e w3 ⟨rfl, hS3, hb3⟩
        have hE := Lib.hid (PS.put hS2.out hrow2.out hgd2.out hS3)
        have hBE := Lib.hid (hB2.out.trans hb3)
        clear hS3 hb3 v0 v1 v2 v3
        have hrowE := Lib.hid (show RowB w3 (w.heap.size + 1) u3 ol from by obtain ⟨_, _, h, _⟩ := hE.out; exact h)
        have hwsE : w.heap.size + 1 ≤ w3.heap.size := hE.out.lt
        have hnw := Lib.hid (one_row w3 _ rfl (.bool true) 4 rfl)
        go_wp2_with (at_builtin; refine wpList_append_lies _ rfl (.tmp 61) (.tmp 63) 43 rfl (w.heap.size + 1) 4 i0 (.bool false) 1 1 Tryd.underlying43 hii.out hz0.out hz1.out hz2.out rfl (by decide) u3 ol.length (ol.map Value.bool) rfl (World.ownsRow.alloc hrowE.out _) ⟨w3.heap.size, 0, none⟩ 1 1 [.bool true] rfl rfl hnw.out (by intro u hu; simp at hu; subst hu; rfl) (by decide) (by unfold maxLen; omega) (by omega) (by simp; omega) _ rfl ?_; intro g9 cap9 w9 hown9 hgrow9 hat9 hlt9)
        have hP9 := Lib.hid (PS.push hE.out hgrow9 hown9 (by simpa using hat9))
        have hB9 := Lib.hid (show Below w.heap.size w w9 from Below.grown (hBE.out.alloc (Nat.le_of_succ_le hwsE) _) hgrow9 (by simp; omega) (fun k e => Nat.le_of_succ_le (World.ownsRow.lt hrowE.out k e).1))
        have hl9 := Lib.hid (show (ol.length : Nat) = j from holl.out)
        clear hown9 hgrow9 hat9 hlt9 hrowE hnw
        go_roundw
        case rel => exact ⟨j + 1, _, by go_num, by omega, rfl, by rw [hn.out, hstep.out]; exact hP9, by rw [hn.out, hstep.out]; exact hscan, by rw [hn.out, hstep.out]; simp only; omega, hB9⟩
        case measure => simp [RowKit.intOf]; omega
      · have hstep0 := Lib.hid (show stepF l ⟨3, a, c, tx⟩ = addF l (parts tx) from rfl)
        rw [hstep0.out] at hslen hscan
        obtain rfl : opv = 3 := hopv.symm
        clear hopv
        have hcall := Lib.hid (add_any G w.heap.size l tx w2 hS2.out hcan.out (by omega) (by omega) hEB.out)
        go_wp2_with fail
        refine (hcall.out).mono ?_
        rintro e w3 ⟨ev, rfl, herr, hS3, hb3⟩
        obtain ⟨l', ok, hlo⟩ : ∃ l' ok, addF l (parts tx) = (l', ok) := ⟨_, _, rfl⟩
        rw [hlo] at herr hS3 hslen hscan
        have hstep := Lib.hid (hstep0.out.trans hlo)
        simp only at hslen
        have hE := Lib.hid (PS.put hS2.out hrow2.out hgd2.out hS3)
        have hBE := Lib.hid (hB2.out.trans hb3)
        clear hS3 hb3 v0 v1 v2 v3 hlo hstep0
        cases ok with
        | true =>
          obtain rfl := herr.1 rfl
          clear herr
          have hrowE := Lib.hid (show RowB w3 (w.heap.size + 1) u3 ol from by obtain ⟨_, _, h, _⟩ := hE.out; exact h)
          have hwsE : w.heap.size + 1 ≤ w3.heap.size := hE.out.lt
          have hnw := Lib.hid (one_row w3 _ rfl (.bool true) 4 rfl)
          go_wp2_with (at_builtin; refine wpList_append_lies _ rfl (.tmp 61) (.tmp 63) 43 rfl (w.heap.size + 1) 4 i0 (.bool false) 1 1 Tryd.underlying43 hii.out hz0.out hz1.out hz2.out rfl (by decide) u3 ol.length (ol.map Value.bool) rfl (World.ownsRow.alloc hrowE.out _) ⟨w3.heap.size, 0, none⟩ 1 1 [.bool true] rfl rfl hnw.out (by intro u hu; simp at hu; subst hu; rfl) (by decide) (by unfold maxLen; omega) (by omega) (by simp; omega) _ rfl ?_; intro g9 cap9 w9 hown9 hgrow9 hat9 hlt9)
          have hP9 := Lib.hid (PS.push hE.out hgrow9 hown9 (by simpa using hat9))
          have hB9 := Lib.hid (show Below w.heap.size w w9 from Below.grown (hBE.out.alloc (Nat.le_of_succ_le hwsE) _) hgrow9 (by simp; omega) (fun k e => Nat.le_of_succ_le (World.ownsRow.lt hrowE.out k e).1))
          have hl9 := Lib.hid (show (ol.length : Nat) = j from holl.out)
          clear hown9 hgrow9 hat9 hlt9 hrowE hnw
          go_roundw
          case rel => exact ⟨j + 1, _, by go_num, by omega, rfl, by rw [hn.out, hstep.out]; exact hP9, by rw [hn.out, hstep.out]; exact hscan, by rw [hn.out, hstep.out]; simp only; omega, hB9⟩
          case measure => simp [RowKit.intOf]; omega
        | false =>
          obtain ⟨T, z, rfl⟩ := herr.2 rfl
          clear herr
          have hrowE := Lib.hid (show RowB w3 (w.heap.size + 1) u3 ol from by obtain ⟨_, _, h, _⟩ := hE.out; exact h)
          have hwsE : w.heap.size + 1 ≤ w3.heap.size := hE.out.lt
          have hnw := Lib.hid (one_row w3 _ rfl (.bool false) 4 rfl)
          go_wp2_with (at_builtin; refine wpList_append_lies _ rfl (.tmp 61) (.tmp 63) 43 rfl (w.heap.size + 1) 4 i0 (.bool false) 1 1 Tryd.underlying43 hii.out hz0.out hz1.out hz2.out rfl (by decide) u3 ol.length (ol.map Value.bool) rfl (World.ownsRow.alloc hrowE.out _) ⟨w3.heap.size, 0, none⟩ 1 1 [.bool false] rfl rfl hnw.out (by intro u hu; simp at hu; subst hu; rfl) (by decide) (by unfold maxLen; omega) (by omega) (by simp; omega) _ rfl ?_; intro g9 cap9 w9 hown9 hgrow9 hat9 hlt9)
          have hP9 := Lib.hid (PS.push hE.out hgrow9 hown9 (by simpa using hat9))
          have hB9 := Lib.hid (show Below w.heap.size w w9 from Below.grown (hBE.out.alloc (Nat.le_of_succ_le hwsE) _) hgrow9 (by simp; omega) (fun k e => Nat.le_of_succ_le (World.ownsRow.lt hrowE.out k e).1))
          have hl9 := Lib.hid (show (ol.length : Nat) = j from holl.out)
          clear hown9 hgrow9 hat9 hlt9 hrowE hnw
          go_roundw
          case rel => exact ⟨j + 1, _, by go_num, by omega, rfl, by rw [hn.out, hstep.out]; exact hP9, by rw [hn.out, hstep.out]; exact hscan, by rw [hn.out, hstep.out]; simp only; omega, hB9⟩
          case measure => simp [RowKit.intOf]; omega
      · obtain rfl : opv = 4 := hopv.symm
        clear hopv
        have hcall := Lib.hid (parseSet_any tx (by omega) w2 (show EnvB w2.heap.size w2 from hES.out))
        have hlen4 := setOf_len (s := tx) (by omega)
        go_wp2_with fail
        refine (hcall.out).mono ?_
        rintro e w3 ⟨ev, rfl, herr, ⟨vt, hvt, hrt, _⟩, hb3⟩
        have hB3 := Lib.hid (hB2.out.trans (hb3.mono hB2.out.size))
        have hS3 := Lib.hid (hS2.out.below hb3)
        clear v0 v1 v2 v3
        cases hok : (setOf tx).2 with
        | true =>
          have hstep := Lib.hid (show stepF l ⟨4, a, c, tx⟩ = ((setOf tx).1.foldl ins l, true) by unfold stepF; rw [if_neg (by show ¬ (4 = 1); decide), if_neg (by show ¬ (4 = 2); decide), if_neg (by show ¬ (4 = 3); decide), if_pos rfl, if_pos hok])
          rw [hstep.out] at hslen hscan
          rw [hok] at herr
          simp only at hslen
          obtain rfl := herr.1 rfl
          have hvc : w3.cell? ⟨w2.heap.size, 0, none⟩ = some vt := cell_of_row w3 _ 0 _ _ _ hvt
          have hblt := hS2.out.lt
          have hcall2 := Lib.hid (addSet_any G w.heap.size w2.heap.size l (setOf tx).1 vt w3 hS3.out hcan.out (setOf_canon tx).1 (by omega) hlen4 hvc hrt hblt
            (fun q hq k hk e => by
              obtain ⟨q2, g1, g2, _⟩ := hS2.out
              have h5 := (hb3.block _ hblt).trans g1
              obtain rfl : q = q2 := by have := hq.symm.trans h5; simpa using this
              have h6 := (World.ownsRow.lt g2 k e).2
              have h7 := (World.ownsRow.lt hrt k hk).1
              omega)
            (fun k hk => hS2.out.freshG (Nat.le_of_succ_le (World.ownsRow.lt hrt k hk).1)))
          clear herr hvt hrt hb3 hok hvc
          go_wp2_with fail
          refine (hcall2.out).mono ?_
          rintro e w4 ⟨rfl, hS4, hb4⟩
          have hE := Lib.hid (PS.put hS2.out hrow2.out hgd2.out hS4)
          have hBE := Lib.hid (hB3.out.trans hb4)
          clear hS4 hb4
          have hrowE := Lib.hid (show RowB w4 (w.heap.size + 1) u3 ol from by obtain ⟨_, _, h, _⟩ := hE.out; exact h)
          have hwsE : w.heap.size + 1 ≤ w4.heap.size := hE.out.lt
          have hnw := Lib.hid (one_row w4 _ rfl (.bool true) 4 rfl)
          go_wp2_with (at_builtin; refine wpList_append_lies _ rfl (.tmp 61) (.tmp 63) 43 rfl (w.heap.size + 1) 4 i0 (.bool false) 1 1 Tryd.underlying43 hii.out hz0.out hz1.out hz2.out rfl (by decide) u3 ol.length (ol.map Value.bool) rfl (World.ownsRow.alloc hrowE.out _) ⟨w4.heap.size, 0, none⟩ 1 1 [.bool true] rfl rfl hnw.out (by intro u hu; simp at hu; subst hu; rfl) (by decide) (by unfold maxLen; omega) (by omega) (by simp; omega) _ rfl ?_; intro g9 cap9 w9 hown9 hgrow9 hat9 hlt9)
          have hP9 := Lib.hid (PS.push hE.out hgrow9 hown9 (by simpa using hat9))
          have hB9 := Lib.hid (show Below w.heap.size w w9 from Below.grown (hBE.out.alloc (Nat.le_of_succ_le hwsE) _) hgrow9 (by simp; omega) (fun k e => Nat.le_of_succ_le (World.ownsRow.lt hrowE.out k e).1))
          have hl9 := Lib.hid (show (ol.length : Nat) = j from holl.out)
          clear hown9 hgrow9 hat9 hlt9 hrowE hnw
          go_roundw
          case rel => exact ⟨j + 1, _, by go_num, by omega, rfl, by rw [hn.out, hstep.out]; exact hP9, by rw [hn.out, hstep.out]; exact hscan, by rw [hn.out, hstep.out]; simp only; omega, hB9⟩
          case measure => simp [RowKit.intOf]; omega
        | false =>
          have hstep := Lib.hid (show stepF l ⟨4, a, c, tx⟩ = (l, false) by unfold stepF; rw [if_neg (by show ¬ (4 = 1); decide), if_neg (by show ¬ (4 = 2); decide), if_neg (by show ¬ (4 = 3); decide), if_pos rfl, if_neg (by rw [hok]; decide)])
          rw [hstep.out] at hslen hscan
          rw [hok] at herr
          simp only at hslen
          obtain ⟨T, z, rfl⟩ := herr.2 rfl
          have hE := Lib.hid (PS.put hS2.out hrow2.out hgd2.out hS3.out)
          have hBE := Lib.hid hB3.out
          clear herr hvt hrt hb3 hok
          have hrowE := Lib.hid (show RowB w3 (w.heap.size + 1) u3 ol from by obtain ⟨_, _, h, _⟩ := hE.out; exact h)
          have hwsE : w.heap.size + 1 ≤ w3.heap.size := hE.out.lt
          have hnw := Lib.hid (one_row w3 _ rfl (.bool false) 4 rfl)
          go_wp2_with (at_builtin; refine wpList_append_lies _ rfl (.tmp 61) (.tmp 63) 43 rfl (w.heap.size + 1) 4 i0 (.bool false) 1 1 Tryd.underlying43 hii.out hz0.out hz1.out hz2.out rfl (by decide) u3 ol.length (ol.map Value.bool) rfl (World.ownsRow.alloc hrowE.out _) ⟨w3.heap.size, 0, none⟩ 1 1 [.bool false] rfl rfl hnw.out (by intro u hu; simp at hu; subst hu; rfl) (by decide) (by unfold maxLen; omega) (by omega) (by simp; omega) _ rfl ?_; intro g9 cap9 w9 hown9 hgrow9 hat9 hlt9)
          have hP9 := Lib.hid (PS.push hE.out hgrow9 hown9 (by simpa using hat9))
          have hB9 := Lib.hid (show Below w.heap.size w w9 from Below.grown (hBE.out.alloc (Nat.le_of_succ_le hwsE) _) hgrow9 (by simp; omega) (fun k e => Nat.le_of_succ_le (World.ownsRow.lt hrowE.out k e).1))
          have hl9 := Lib.hid (show (ol.length : Nat) = j from holl.out)
          clear hown9 hgrow9 hat9 hlt9 hrowE hnw
          go_roundw
          case rel => exact ⟨j + 1, _, by go_num, by omega, rfl, by rw [hn.out, hstep.out]; exact hP9, by rw [hn.out, hstep.out]; exact hscan, by rw [hn.out, hstep.out]; simp only; omega, hB9⟩
          case measure => simp [RowKit.intOf]; omega
      · have hstep := Lib.hid (show stepF l ⟨5, a, c, tx⟩ = ([], true) from rfl)
        rw [hstep.out] at hslen hscan
        simp only at hslen
        obtain rfl : opv = 5 := hopv.symm
        clear hopv
        have hcall := Lib.hid (clear_any G w.heap.size l w2 hS2.out)
        go_wp2_with fail
        refine (hcall.out).mono ?_
        rintro e w3 ⟨rfl, hS3, hb3⟩
        have hE := Lib.hid (PS.put hS2.out hrow2.out hgd2.out hS3)
        have hBE := Lib.hid (hB2.out.trans hb3)
        clear hS3 hb3 v0 v1 v2 v3
        have hrowE := Lib.hid (show RowB w3 (w.heap.size + 1) u3 ol from by obtain ⟨_, _, h, _⟩ := hE.out; exact h)
        have hwsE : w.heap.size + 1 ≤ w3.heap.size := hE.out.lt
        have hnw := Lib.hid (one_row w3 _ rfl (.bool true) 4 rfl)
        go_wp2_with (at_builtin; refine wpList_append_lies _ rfl (.tmp 61) (.tmp 63) 43 rfl (w.heap.size + 1) 4 i0 (.bool false) 1 1 Tryd.underlying43 hii.out hz0.out hz1.out hz2.out rfl (by decide) u3 ol.length (ol.map Value.bool) rfl (World.ownsRow.alloc hrowE.out _) ⟨w3.heap.size, 0, none⟩ 1 1 [.bool true] rfl rfl hnw.out (by intro u hu; simp at hu; subst hu; rfl) (by decide) (by unfold maxLen; omega) (by omega) (by simp; omega) _ rfl ?_; intro g9 cap9 w9 hown9 hgrow9 hat9 hlt9)
        have hP9 := Lib.hid (PS.push hE.out hgrow9 hown9 (by simpa using hat9))
        have hB9 := Lib.hid (show Below w.heap.size w w9 from Below.grown (hBE.out.alloc (Nat.le_of_succ_le hwsE) _) hgrow9 (by simp; omega) (fun k e => Nat.le_of_succ_le (World.ownsRow.lt hrowE.out k e).1))
        have hl9 := Lib.hid (show (ol.length : Nat) = j from holl.out)
        clear hown9 hgrow9 hat9 hlt9 hrowE hnw
        go_roundw
        case rel => exact ⟨j + 1, _, by go_num, by omega, rfl, by rw [hn.out, hstep.out]; exact hP9, by rw [hn.out, hstep.out]; exact hscan, by rw [hn.out, hstep.out]; simp only; omega, hB9⟩
        case measure => simp [RowKit.intOf]; omega
    · obtain rfl : j = L.length := by omega
      rw [List.take_length] at hl hol
      obtain ⟨G, ⟨v, hv1, hrow, _⟩, hrowB, _⟩ := hP.out
      have hl6 : l.length ≤ 6030 := by omega
      obtain ⟨A2, c2, rfl, hc2, hC⟩ := hrow.reads (by omega)
      have hcx : wx.cell? ⟨w.heap.size, 0, none⟩ = some (.slice A2 l.length c2) := cell_of_row wx _ 0 _ _ _ hv1
      have hbx : w.heap.size < wx.heap.size := (Array.getElem?_eq_some_iff.1 hv1).1
      have hc31 := Lib.hid (show ∀ W, Below wx.heap.size wx W → Calls Tryd.prog 31 #[.slice A2 l.length c2] W fun e w' => ∃ u, e = .returned u ∧ RowR w' W.heap.size u l ∧ Below W.heap.size W w' from fun W hb => by
        have h := PFnSeqOf.impl_seqsOf.calls _ A2 c2 _ _ W (Kd.C_below hC hb) (by rw [List.length_map]; exact hc2) (seqsOf_tells l (by omega))
        rw [List.length_map] at h
        exact h)
      have hc40 := Lib.hid (show ∀ W, Below wx.heap.size wx W → Calls Tryd.prog 40 #[.agg #[.slice A2 l.length c2]] W fun e w' => e = .returned (.string ⟨((joinL l).drop 1).toArray⟩) ∧ Below W.heap.size W w' from fun W hb =>
        setString_any hcan.out (by omega) (hrow.below hb) (henv.out.below (hB.out.trans (hb.mono hB.out.size))).2)
      have hl' := Lib.hid hl
      have hol' := Lib.hid hol
      have hrowB' := Lib.hid hrowB
      clear hnext hl hol hv1 hrow hC hrowB hA hR hP hc2
      obtain ⟨txt, htxt⟩ : ∃ txt : ByteArray, (⟨((joinL l).drop 1).toArray⟩ : ByteArray) = txt := ⟨_, rfl⟩
      rw [htxt] at hc40
      replace htxt := Lib.hid htxt
      have hj3 : ¬ (L.length : Int) < (L.length : Int) := by omega
      go_upto_region 23 with (fail)
      go_region_held3 (fun w' => w'.cell? ⟨w.heap.size, 0, none⟩ = some (.slice A2 l.length c2) ∧ Hid (Below wx.heap.size wx w')) (first | exact ⟨hcx, Lib.hid (Below.refl _ _).drew⟩ | (obtain ⟨hq1, hq2⟩ := (by assumption : _ ∧ Hid (Below wx.heap.size wx _)); exact ⟨(hbn.out.cell (p := ⟨w.heap.size, 0, none⟩) (Nat.lt_of_lt_of_le hbx hq2.out.size)).trans hq1, Lib.hid (hq2.out.trans (hbn.out.mono hq2.out.size))⟩)) (first | ((go_at_call 31; refine (hc31.out _ (by obtain ⟨_, hq2⟩ := (by assumption : _ ∧ Hid (Below wx.heap.size wx _)); exact hq2.out)).mono ?_; rintro e w5 ⟨v5, rfl, hR5, hb5⟩; have hR5 := Lib.hid hR5; have hbn := Lib.hid hb5; clear hb5)) | ((go_at_call 40; refine (hc40.out _ (by obtain ⟨_, hq2⟩ := (by assumption : _ ∧ Hid (Below wx.heap.size wx _)); exact hq2.out)).mono ?_; rintro e w6 ⟨rfl, hb6⟩; have hbn := Lib.hid hb6; have hbs := Lib.hid hb6; clear hb6)))
      all_goals
        obtain ⟨_, hq2⟩ := (by assumption : _ ∧ Hid (Below wx.heap.size wx w6))
        have hfin : PlayedIs L w (.returned (.tuple #[v5, u3, .string txt])) w6 := by
          refine ⟨v5, u3, by rw [← htxt.out, hl'.out], ?_, ?_, hB.out.trans (hq2.out.mono hB.out.size)⟩
          · rw [hl'.out]
            exact Kd.R_lower (Kd.R_below hR5.out hbs.out) hB.out.size
          · rw [hol'.out]
            exact hrowB'.out.below hq2.out
        replace hfin := Lib.hid hfin
        clear hR5 hbs hbn hq2
        go_wp2_with fail
        go_ret3
        exact hfin.out
end Go.Proofs.YtajifebphcgcpaaDoor.Own

namespace Go.Proofs.YtajifebphcgcpaaDoor.Own
open Go.RowKit Go.Lib Sets Go.Proofs.YtajifebphcgcpaaDoorW.PrintWords
set_option linter.unusedVariables false
set_option linter.unusedSimpArgs false

/-- A step as it comes in. -/
structure Raw where
  op : Int
  a : Nat
  b : Nat
  t : ByteArray
def Raw.step (x : Raw) : Step := ⟨x.op.toNat, x.a, x.b, x.t⟩
def Raw.fit (x : Raw) : Prop := 1 ≤ x.op ∧ x.op ≤ 5 ∧ x.t.size ≤ 200
def Raw.num (x : Raw) : Prop := x.a < 4294967296 ∧ x.b < 4294967296
def RawAt (w : World) (ad : Addr) (R : List Raw) : Prop := ∀ i x, R[i]? = some x → w.cell? (ad.add (i * 4)) = some (.int .i64 x.op) ∧ w.cell? ⟨(ad.add (i * 4)).block, (ad.add (i * 4)).off + 1, none⟩ = some (.int .u32 (x.a : Int)) ∧
  w.cell? ⟨(ad.add (i * 4)).block, (ad.add (i * 4)).off + 2, none⟩ = some (.int .u32 (x.b : Int)) ∧ w.cell? ⟨(ad.add (i * 4)).block, (ad.add (i * 4)).off + 3, none⟩ = some (.string x.t)
theorem RawAt.below {w w' : World} {ad : Addr} {R : List Raw} (h : RawAt w ad R) (hb : Below w.heap.size w w') : RawAt w' ad R := fun i x hx => by
  obtain ⟨a, b, c, d⟩ := h i x hx
  exact ⟨(hb.cell (World.block_lt_of_cell? w _ a)).trans a, (hb.cell (World.block_lt_of_cell? w _ b)).trans b, (hb.cell (World.block_lt_of_cell? w _ c)).trans c, (hb.cell (World.block_lt_of_cell? w _ d)).trans d⟩
theorem Raw.right {x : Raw} (h : x.fit) (k : x.num) : Right x.step := by
  obtain ⟨h1, h2, h3⟩ := h
  exact ⟨by show 1 ≤ x.op.toNat; omega, by show x.op.toNat ≤ 5; omega, h3, k.1, k.2⟩
theorem RawAt.steps {w : World} {ad : Addr} {R : List Raw} (h : RawAt w ad R) (hf : ∀ x ∈ R, x.fit) : StepsAt w ad (R.map Raw.step) := fun i y hy => by
  rw [List.getElem?_map] at hy
  cases hx : R[i]? with
  | none => rw [hx] at hy; cases hy
  | some x =>
    rw [hx] at hy
    obtain rfl : x.step = y := Option.some.inj hy
    obtain ⟨a, b, c, d⟩ := h i x hx
    have hop : ((x.step.op : Nat) : Int) = x.op := by
      have := (hf x (List.mem_of_getElem? hx)).1
      show ((x.op.toNat : Nat) : Int) = x.op
      omega
    exact ⟨by rw [hop]; exact a, b, c, d⟩
def SomeB (w : World) (e : Ending) (w' : World) : Prop := ∃ r, e = .returned (.bool r) ∧ Below w.heap.size w w'
theorem fits7_any (x : Raw) (w : World) : Calls Tryd.prog 34 #[.agg #[.int .i64 x.op, .int .u32 (x.a : Int), .int .u32 (x.b : Int), .string x.t]] w (SomeB w) := by
  obtain ⟨op, a, b, t⟩ := x
  rcases Nat.lt_or_ge 2147483647 t.size with h | h
  · go_enter Tryd.func34, Tryd.ntmps34
    go_wp2_with fail
    go_ret
    exact ⟨_, rfl, (Below.refl _ _).alloc (Nat.le_refl _) _⟩
  · go_enter Tryd.func34, Tryd.ntmps34
    go_wp2_with fail
    go_ret
    exact ⟨_, rfl, (Below.refl _ _).alloc (Nat.le_refl _) _⟩
set_option maxRecDepth 100000 in
theorem fits6_any (R : List Raw) (A : Option Addr) (cap : Nat) (w : World) (hA : 0 < R.length → ∃ ad, A = some ad ∧ RawAt w ad R) :
    Calls Tryd.prog 20 #[.slice A R.length cap] w (SomeB w) := by
  replace hA := Lib.hid hA
  rcases Nat.lt_or_ge 2147483647 R.length with h | h
  · go_enter Tryd.func20, Tryd.ntmps20
    go_wp2_with fail
    go_ret
    exact ⟨_, rfl, Below.refl _ _⟩
  · go_enter Tryd.func20, Tryd.ntmps20
    go_wp2_with fail
    go_loopw [10] (fun s10 wr => ∃ j : Nat, s10 = .int .i64 (j : Int) ∧ j ≤ R.length ∧ Hid (Below w.heap.size w wr)) (fun s10 _ => R.length - (RowKit.intOf s10).toNat)
    case atStart => exact ⟨0, rfl, Nat.zero_le _, Below.refl _ _⟩
    case round =>
      obtain ⟨wx, hwx⟩ : ∃ wx : World, wx = wr := ⟨_, rfl⟩
      rw [← hwx] at hrel ⊢
      clear hwx
      obtain ⟨j, rfl, hj, hB⟩ := hrel
      rcases Nat.lt_or_ge j R.length with hlt | hge
      · obtain ⟨ad, rfl, hat⟩ := hA.out (by omega)
        obtain ⟨x, hx⟩ : ∃ x, R[j]? = some x := ⟨_, List.getElem?_eq_getElem hlt⟩
        obtain ⟨q0, q1, q2, q3⟩ := hat j x hx
        replace q0 := (hB.out.cell (World.block_lt_of_cell? w _ q0)).trans q0
        replace q1 := (hB.out.cell (World.block_lt_of_cell? w _ q1)).trans q1
        replace q2 := (hB.out.cell (World.block_lt_of_cell? w _ q2)).trans q2
        replace q3 := (hB.out.cell (World.block_lt_of_cell? w _ q3)).trans q3
        have hcall := Lib.hid (fun W => fits7_any x W)
        have hj2 : (j : Int) < (R.length : Int) := by omega
        obtain ⟨op, a, b, t⟩ := x
        clear hx hat
        simp only at q0 q1 q2 q3 hcall
        go_wp2_with fail
        refine (hcall.out _).mono ?_
        rintro e w2 ⟨r, rfl, hb2⟩
        have hB2 := Lib.hid ((hB.out.alloc hB.out.size (.cells #[.int .i64 op, .int .u32 (a : Int), .int .u32 (b : Int), .string t] 45)).trans (hb2.mono (by have := hB.out.size; simp; omega)))
        clear hb2 q0 q1 q2 q3
        cases r with
        | false =>
          go_wp2_with fail
          go_ret
          exact ⟨_, rfl, hB2.out⟩
        | true =>
          go_wp2_with fail
          go_roundw
          case rel => exact ⟨j + 1, by go_num, by omega, hB2⟩
          case measure => simp [RowKit.intOf]; omega
      · have hj3 : ¬ (j : Int) < (R.length : Int) := by omega
        go_wp2_with fail
        go_ret
        exact ⟨_, rfl, hB.out⟩
/-- Rows of bools and of ranges lie apart. -/
theorem apartBI {w : World} {b1 b2 : Nat} {u v : Value} {ol : List Bool} {l : List Rg} (hB : RowB w b1 u ol) (hI : RowI w b2 v l) : ∀ k, u.ownBlock = some k → some k ≠ v.ownBlock := fun k hk e => by
  rcases hB.2 with ⟨h1, _⟩ | ⟨g, cap, cur, hv, _, hg, _⟩
  · rw [h1] at hk; cases hk
  · rw [hv] at hk
    obtain rfl : g = k := Option.some.inj hk
    rcases hI.2 with ⟨h1, _⟩ | ⟨g2, cap2, cur2, hv2, _, hg2, _⟩
    · rw [h1] at e; cases e
    · rw [hv2] at e
      obtain rfl : g = g2 := Option.some.inj e
      rw [hg] at hg2
      simp at hg2
theorem RowB.grown {w w2 : World} {b1 b2 : Nat} {u v : Value} {ol : List Bool} {l : List Rg} (hB : RowB w b1 u ol) (hI : RowI w b2 v l) (hg : w.grownBy w2 v.ownBlock) : RowB w2 b1 u ol :=
  own_move hB fun k hk => hg.block k (World.ownsRow.lt hB k hk).2 (apartBI hB hI k hk)
theorem RowI.grown {w w2 : World} {b1 b2 : Nat} {u v : Value} {ol : List Bool} {l : List Rg} (hI : RowI w b2 v l) (hB : RowB w b1 u ol) (hg : w.grownBy w2 u.ownBlock) : RowI w2 b2 v l :=
  own_move hI fun k hk => hg.block k (World.ownsRow.lt hI k hk).2 (fun e => apartBI hB hI k e.symm hk.symm)
theorem RowI.alloc {w : World} {b : Nat} {v : Value} {l : List Rg} (h : RowI w b v l) (o : Obj) : RowI (w.alloc o) b v l := World.ownsRow.alloc h o
theorem RowB.alloc {w : World} {b : Nat} {v : Value} {l : List Bool} (h : RowB w b v l) (o : Obj) : RowB (w.alloc o) b v l := World.ownsRow.alloc h o
theorem RowI.snoc {w : World} {B g cap n : Nat} {l m : List Rg} {xs ys : List Value} (hn : n = m.length) (hx : xs = flat l) (hy : ys = flat m) (h : w.ownsRow B 24 2 (.slice (some ⟨g, 0, none⟩) (l.length + n) cap) (l.length + n) (xs ++ ys)) : RowI w B (.slice (some ⟨g, 0, none⟩) (l.length + n) cap) (l ++ m) := by
  subst hn hx hy
  unfold RowI
  rw [List.length_append, flat_app]
  exact h
theorem RowI.news {w : World} {b g cap n : Nat} {l : List Rg} (h : RowI w b (.slice (some ⟨g, 0, none⟩) n cap) l) : ∀ j u, (flat l)[j]? = some u → w.cell? ((⟨g, 0, none⟩ : Addr).add j) = some u := fun j u hj => by
  have hlt : j < (flat l).length := (List.getElem?_eq_some_iff.1 hj).1
  rw [flat_len] at hlt
  rw [Addr.add_lit, Nat.zero_add]
  have hn : n = l.length := by
    rcases h.form with ⟨h1, _⟩ | ⟨g', cap', hv, _⟩
    · simp at h1
    · simp only [Value.slice.injEq] at hv; exact hv.2.1
  subst hn
  rw [World.ownsRow.cellAt h j (by omega)]
  exact hj
theorem upto_pos {s : ByteArray} (h : (upto (parts s)).2 = true) : (upto (parts s)).1 ≠ [] := by
  unfold parts at h ⊢
  have : ∃ p t, splitN s.size s = p :: t := by
    cases hs : s.size with
    | zero => exact ⟨_, _, rfl⟩
    | succ n =>
      rw [splitN]
      split
      · exact ⟨_, _, rfl⟩
      · exact ⟨_, _, rfl⟩
  obtain ⟨p, t, e⟩ := this
  rw [e, upto] at h ⊢
  cases hq : ps p with
  | none => rw [hq] at h; cases h
  | some r => intro e2; cases e2
theorem seven : ((joinL (playF stepF [] [(⟨1, 7, 0, ⟨#[]⟩⟩ : Step)]).1).drop 1) = [55] := by decide +kernel
end Go.Proofs.YtajifebphcgcpaaDoor.Own
