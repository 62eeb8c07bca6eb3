/- (*SeqSet).AddNum, AddRange, AddSet and Clear by hand. (SeqSet).String by hand: how a set is written. spec.SetText9 by hand, and what a set's steps come to, plainly. -/
import Derived.Test.YtajifebphcgcpaaDoorMD
import Derived.Test.YtajifebphcgcpaaDoorMP
import Derived.Test.YtajifebphcgcpaaDoorMF
import Derived.Lib.OthersKept
namespace Go.Proofs.YtajifebphcgcpaaDoor.Own
open Go.RowKit Go.Lib Sets
set_option linter.unusedVariables false
set_option linter.unusedSimpArgs false

theorem okr_one {a : Nat} (h : a < 4294967296) : Okr (a, a) := ⟨h, h, by
  unfold lo hi
  simp only
  split <;> omega⟩
theorem addNum_any (G : Nat → Option Obj) (b g a : Nat) (l : List Rg) (w : World) (h : SetAt G b l w) (hcan : Canon l) (ha : a < 4294967296) (hl : l.length ≤ 10000) (hc : w.cell? ⟨g, 0, none⟩ = some (.int .u32 (a : Int))) :
    Calls Tryd.prog 35 #[.pointer (some ⟨b, 0, none⟩), .slice (some ⟨g, 0, none⟩) 1 1] w (Put G b (ins l (a, a)) w) := by
  have hi := Lib.hid (insert_any G b a a l w h hcan (okr_one ha) hl)
  clear h hcan
  go_enter Tryd.func35, Tryd.ntmps35
  go_wp2_with fail
  go_loopw [8] (fun s8 wr => (s8 = .int .i64 0 ∧ wr = w) ∨ (s8 = .int .i64 1 ∧ Hid (SetAt G b (ins l (a, a)) wr) ∧ Hid (Below b w wr))) (fun s8 _ => 1 - (RowKit.intOf s8).toNat)
  case atStart => exact .inl ⟨rfl, rfl⟩
  case round =>
    rcases hrel with ⟨rfl, rfl⟩ | ⟨rfl, hS, hB⟩
    · go_wp2_with fail
      refine (hi.out).mono ?_
      rintro e w1 ⟨rfl, hS, hB⟩
      replace hS := Lib.hid hS
      replace hB := Lib.hid hB
      clear hi hc
      go_wp2_with fail
      go_roundw
      case rel => exact .inr ⟨rfl, hS, hB⟩
      case measure => simp [RowKit.intOf]
    · clear hi hc
      go_wp2_with fail
      go_end0
      exact ⟨rfl, hS.out, hB.out⟩
theorem addRange_any (G : Nat → Option Obj) (b x y : Nat) (l : List Rg) (w : World) (h : SetAt G b l w) (hcan : Canon l) (hx : x < 4294967296) (hy : y < 4294967296) (hl : l.length ≤ 10000) :
    Calls Tryd.prog 36 #[.pointer (some ⟨b, 0, none⟩), .int .u32 (x : Int), .int .u32 (y : Int)] w (Put G b (ins l (rng x y)) w) := by
  have hok := rng_okr hx hy
  by_cases hsw : x = 0 ∨ (y ≠ 0 ∧ y < x)
  · have hr : rng x y = (y, x) := if_pos hsw
    rw [hr] at hok ⊢
    have hi := Lib.hid (insert_any G b y x l w h hcan hok hl)
    clear h hcan hok hr
    rcases hsw with h0 | ⟨h1, h2⟩
    · subst h0
      have hx1 : decide ((y : Int) < 0) = false := decide_eq_false (by omega)
      go_enter Tryd.func36, Tryd.ntmps36
      go_wp2_with fail
      refine (hi.out).mono ?_
      rintro e w1 ⟨rfl, hS, hB⟩
      replace hS := Lib.hid hS
      replace hB := Lib.hid hB
      go_wp2_with fail
      go_end0
      exact ⟨rfl, hS.out, hB.out⟩
    · have hx1 : decide ((y : Int) < (x : Int)) = true := decide_eq_true (by omega)
      have hx2 : decide (y < x) = true := decide_eq_true h2
      have hx3 : ((y : Int) != 0) = true := by rw [bne_iff_ne]; omega
      have hx4 : (y != 0) = true := by rw [bne_iff_ne]; omega
      clear h1
      go_enter Tryd.func36, Tryd.ntmps36
      go_wp2_with fail
      refine (hi.out).mono ?_
      rintro e w1 ⟨rfl, hS, hB⟩
      replace hS := Lib.hid hS
      replace hB := Lib.hid hB
      go_wp2_with fail
      go_end0
      exact ⟨rfl, hS.out, hB.out⟩
  · have hr : rng x y = (x, y) := if_neg hsw
    rw [hr] at hok ⊢
    have hi := Lib.hid (insert_any G b x y l w h hcan hok hl)
    have hx5 : ((x : Int) == 0) = false := by rw [beq_eq_false_iff_ne]; intro h; exact hsw (.inl (by omega))
    have hx6 : (x == 0) = false := by rw [beq_eq_false_iff_ne]; intro h; exact hsw (.inl h)
    by_cases hy0 : y = 0
    · subst hy0
      have hx0 : 0 < x := by
        rcases Nat.eq_zero_or_pos x with h | h
        · exact absurd (.inl h) hsw
        · exact h
      have hx1 : decide ((0 : Int) < (x : Int)) = true := decide_eq_true (by omega)
      have hx2 : decide (0 < x) = true := decide_eq_true hx0
      clear h hcan hok hr hsw
      go_enter Tryd.func36, Tryd.ntmps36
      go_wp2_with fail
      refine (hi.out).mono ?_
      rintro e w1 ⟨rfl, hS, hB⟩
      replace hS := Lib.hid hS
      replace hB := Lib.hid hB
      go_wp2_with fail
      go_end0
      exact ⟨rfl, hS.out, hB.out⟩
    · have hx1 : decide ((y : Int) < (x : Int)) = false := decide_eq_false (fun h => hsw (.inr ⟨hy0, by omega⟩))
      have hx2 : decide (y < x) = false := decide_eq_false (fun h => hsw (.inr ⟨hy0, h⟩))
      clear h hcan hok hr hsw
      go_enter Tryd.func36, Tryd.ntmps36
      go_wp2_with fail
      refine (hi.out).mono ?_
      rintro e w1 ⟨rfl, hS, hB⟩
      replace hS := Lib.hid hS
      replace hB := Lib.hid hB
      go_wp2_with fail
      go_end0
      exact ⟨rfl, hS.out, hB.out⟩
theorem clear_any (G : Nat → Option Obj) (b : Nat) (l : List Rg) (w : World) (h : SetAt G b l w) :
    Calls Tryd.prog 39 #[.pointer (some ⟨b, 0, none⟩)] w (Put G b [] w) := by
  obtain ⟨v, hv, hrow, hgd⟩ := h
  have hlt : b < w.heap.size := (Array.getElem?_eq_some_iff.1 hv).1
  have hc0 : w.cell? ⟨b, 0, none⟩ = some v := cell_of_row w b 0 _ _ _ hv
  have hf0 := frozen_of_row w b 0 _ _ hv
  rcases hrow.form with ⟨rfl, rfl⟩ | ⟨g, cap, rfl, _, _, hcap⟩
  · have hset := Lib.hid (setAt_stored (G := G) (u := .slice none 0 0) hv (Below.refl _ _) hrow hgd)
    have hb := Lib.hid (show Below b w (w.setCell ⟨b, 0, none⟩ (.slice none 0 0)) from (Below.refl _ _).setCell (Nat.le_refl b) _)
    clear hv hrow hgd
    go_enter Tryd.func39, Tryd.ntmps39
    go_wp2_with fail
    go_end0
    exact ⟨rfl, hset.out, hb.out⟩
  · have hr9 := hrow.take 0 (Nat.zero_le _)
    rw [List.take_zero] at hr9
    have hset := Lib.hid (setAt_stored (G := G) (v := .slice (some ⟨g, 0, none⟩) 0 cap) hv (Below.refl _ _) hr9 hgd)
    have hb := Lib.hid (show Below b w (w.setCell ⟨b, 0, none⟩ (.slice (some ⟨g, 0, none⟩) 0 cap)) from (Below.refl _ _).setCell (Nat.le_refl b) _)
    clear hv hrow hgd hr9
    go_enter Tryd.func39, Tryd.ntmps39
    go_wp2_with fail
    go_end0
    exact ⟨rfl, hset.out, hb.out⟩
theorem RowQ.whole {w : World} {base g n cap : Nat} {l : List Rg} (h : RowQ w base (.slice (some ⟨g, 0, none⟩) n cap) l) : ∃ cur : List Value, w.heap[g]? = some (.cells cur.toArray 50 (0, 0)) ∧ cur.take (l.length * 2) = flat l := by
  obtain ⟨cur, h1, _, h3⟩ := h.block
  exact ⟨cur, h1, h3⟩
theorem flat_read {W : World} {g : Nat} {cur : List Value} {l : List Rg} (hg : W.heap[g]? = some (.cells cur.toArray 50 (0, 0))) (ht : cur.take (l.length * 2) = flat l) (i : Nat) (hi : i < l.length) :
    W.cell? ⟨g, i * 2, none⟩ = some (.int .u32 ((l.getD i d0).1 : Int)) ∧ W.cell? ⟨g, i * 2 + 1, none⟩ = some (.int .u32 ((l.getD i d0).2 : Int)) := by
  obtain ⟨h1, h2⟩ := flat_at l i hi
  rw [← ht, List.getElem?_take] at h1 h2
  rw [if_pos (by omega)] at h1 h2
  rw [cell_of_row W g _ _ _ _ hg, cell_of_row W g _ _ _ _ hg, List.getElem?_toArray, List.getElem?_toArray]
  exact ⟨h1, h2⟩
theorem fold_len : ∀ (m l : List Rg), (m.foldl ins l).length ≤ l.length + m.length
  | [], l => Nat.le_refl _
  | x :: m, l => by
    have h1 := fold_len m (ins l x)
    have h2 := ins_len l x
    rw [List.foldl_cons, List.length_cons]; omega
/-- The values of another set t (its header at block bt, its own row elsewhere) are taken in. -/
theorem addSet_any (G : Nat → Option Obj) (b bt : Nat) (l m : List Rg) (v : Value) (w : World) (h : SetAt G b l w) (hcan : Canon l) (hmc : ∀ x ∈ m, Okr x) (hl : l.length ≤ 9000) (hm : m.length ≤ 501)
    (ht : w.cell? ⟨bt, 0, none⟩ = some v) (hrow : RowQ w (bt + 1) v m) (hbb : b < bt) (hap : ∀ u, w.heap[b]? = some (.cells #[u] 66 (0, 0)) → ∀ k, v.ownBlock = some k → u.ownBlock ≠ some k) (hG : ∀ k, v.ownBlock = some k → G k = .none) :
    Calls Tryd.prog 38 #[.pointer (some ⟨b, 0, none⟩), .pointer (some ⟨bt, 0, none⟩)] w (Put G b (m.foldl ins l) w) := by
  replace h := Lib.hid h
  rcases hrow.form with ⟨rfl, rfl⟩ | ⟨g, cap, rfl, hgb, hgw, hcap⟩
  · clear hrow hap hG hcan hmc
    go_enter Tryd.func38, Tryd.ntmps38
    go_wp2_with fail
    go_loop [11] (fun s11 => s11 = .int .i64 0) (fun _ => 0)
    case atStart => rfl
    case round =>
      obtain rfl := hrel
      go_wp2_with fail
      go_end0
      exact ⟨rfl, h.out, Below.refl _ _⟩
  · obtain ⟨cur, hcur, htk⟩ := hrow.whole
    have hS1 := Lib.hid (h.out.guard (T := .cells cur.toArray 50 (0, 0)) (by omega) hcur (fun u hu e => hap u hu g rfl e))
    have hG0 := Lib.hid (hG g rfl)
    have htk' := Lib.hid htk
    have hmc' := Lib.hid hmc
    replace hcan := Lib.hid hcan
    clear hrow hap hG hcur htk hmc
    go_enter Tryd.func38, Tryd.ntmps38
    go_wp2_with fail
    go_loopw [11] (fun s11 wr => ∃ (k : Nat) (lk : List Rg), s11 = .int .i64 (k : Int) ∧ k ≤ m.length ∧ lk.length ≤ l.length + k ∧ Hid (Canon lk) ∧ Hid (m.foldl ins l = (m.drop k).foldl ins lk) ∧ Hid (SetAt (addG G g (.cells cur.toArray 50 (0, 0))) b lk wr) ∧ Hid (Below b w wr)) (fun s11 _ => m.length - (RowKit.intOf s11).toNat)
    case atStart => exact ⟨0, l, rfl, Nat.zero_le _, Nat.le_refl _, hcan, rfl, hS1, Below.refl _ _⟩
    case round =>
      obtain ⟨wx, hwx⟩ : ∃ wx : World, wx = wr := ⟨_, rfl⟩
      rw [← hwx] at hrel ⊢
      clear hwx
      obtain ⟨k, lk, rfl, hk, hlk, hcan1, hrest, hS, hB⟩ := hrel
      rcases Nat.lt_or_ge k m.length with hlt2 | hge
      · have hT := (hS.out.open hG0.out).2
        obtain ⟨hc0, hc1⟩ := flat_read hT htk'.out k hlt2
        obtain ⟨r, hr⟩ : ∃ r, m.getD k d0 = r := ⟨_, rfl⟩
        have hrm : r ∈ m := by rw [← hr, getD_of_lt m k hlt2]; exact List.getElem_mem _
        have hrok := hmc'.out r hrm
        have hdr : m.drop k = r :: m.drop (k + 1) := by
          rw [List.drop_eq_getElem_cons hlt2, ← getD_of_lt m k hlt2, hr]
        have hstep := hrest.out
        rw [hdr, List.foldl_cons] at hstep
        rw [hr] at hc0 hc1
        have hins := ins_len lk r
        have hcan2 := Lib.hid (ins_ok hcan1.out hrok).1
        obtain ⟨r0, r1⟩ := r
        replace hstep := Lib.hid hstep
        replace hrok := Lib.hid hrok
        have hbw2 := hS.out.lt
        have hW : Hid (∀ W, Below wx.heap.size wx W → SetAt (addG G g (.cells cur.toArray 50 (0, 0))) b lk W ∧ Below b w W) := fun W hW => ⟨hS.out.below hW, hB.out.trans (hW.mono (Nat.le_of_lt hbw2))⟩
        have hic := Lib.hid (fun W hh => insert_any (addG G g (.cells cur.toArray 50 (0, 0))) b r0 r1 lk W hh hcan1.out hrok.out (by omega))
        have hk1 : (k : Int) < (m.length : Int) := by omega
        clear hdr hr hT hrm
        go_wp2_with fail
        refine (hic.out _ (hW.out _ ((Below.refl _ _).alloc (Nat.le_refl _) _)).1).mono ?_
        rintro e w3 ⟨rfl, hS3, hB3⟩
        have hB4 := Lib.hid ((hW.out _ ((Below.refl _ _).alloc (Nat.le_refl _) _)).2.trans hB3)
        replace hS3 := Lib.hid hS3
        clear hB3 hW hic
        go_wp2_with fail
        go_roundw
        case rel => exact ⟨k + 1, ins lk (r0, r1), by go_num, by omega, by omega, hcan2, hstep, hS3, hB4⟩
        case measure => simp [RowKit.intOf]; omega
      · have hke : k = m.length := by omega
        have hend : Put G b (m.foldl ins l) w (.returned (.tuple #[])) wx := by
          have h1 := hrest.out
          rw [hke, List.drop_length, List.foldl_nil] at h1
          exact ⟨rfl, by rw [h1]; exact (hS.out.open hG0.out).1, hB.out⟩
        replace hend := Lib.hid hend
        have hk1 : ¬ (k : Int) < (m.length : Int) := by omega
        clear hke hrest
        go_wp2_with fail
        go_end0
        exact hend.out
end Go.Proofs.YtajifebphcgcpaaDoor.Own

namespace Go.Proofs.YtajifebphcgcpaaDoor.Own
open Go.RowKit Go.Sort Go.Lib Sets
set_option linter.unusedVariables false
set_option linter.unusedSimpArgs false

/-- The ranges' texts, a comma ahead of each. -/
def joinL : List Rg → List UInt8
  | [] => []
  | x :: l => 44 :: seqL x.1 x.2 ++ joinL l
theorem joinL_app : ∀ l m : List Rg, joinL (l ++ m) = joinL l ++ joinL m
  | [], m => rfl
  | x :: l, m => by rw [List.cons_append, joinL, joinL_app l m, joinL]; simp
theorem dec_len (a : Nat) (ha : a < 4294967296) : (Lib.decDigits a).length ≤ 20 := by
  rw [Lib.decDigits_length]
  by_cases h1 : 1 ≤ a
  · have := Lib.numDigits_eq a h1 (by omega); split at this <;> omega
  · rw [Lib.nDigits_small (by omega)]; omega
theorem seqL_len {x : Rg} (hx : Okr x) : (seqL x.1 x.2).length ≤ 41 := by
  have h1 := dec_len x.1 hx.1
  have h2 := dec_len x.2 hx.2.1
  unfold seqL
  repeat' split
  all_goals simp
  all_goals omega
theorem joinL_len : ∀ l : List Rg, (∀ x ∈ l, Okr x) → (joinL l).length ≤ 42 * l.length
  | [], _ => Nat.le_refl _
  | x :: l, h => by
    have h1 := joinL_len l fun y hy => h y (List.mem_cons_of_mem _ hy)
    have h2 := seqL_len (h x (List.mem_cons_self ..))
    rw [joinL]
    simp only [List.length_append, List.length_cons]
    omega
theorem seqL_pos (a b : Nat) : 1 ≤ (seqL a b).length := by
  have h1 := dec_pos a
  unfold seqL
  repeat' split
  all_goals first | (simp; done) | (simp only [List.length_append, List.length_cons]; omega) | omega
theorem joinL_take {l : List Rg} {j : Nat} (hj : j < l.length) : joinL (l.take (j + 1)) = joinL (l.take j) ++ 44 :: seqL (l.getD j d0).1 (l.getD j d0).2 := by
  rw [List.take_succ_eq_append_getElem hj, joinL_app, getD_of_lt l j hj, joinL, joinL]
  simp
theorem one_b (W : World) (H : Nat) (hH : W.heap.size = H) (c : Int) (t : TypeId) : ∀ j u, [Value.int .u8 c][j]? = some u → (W.alloc (.cells #[.int .u8 c] t)).cell? ((⟨H, 0, none⟩ : Addr).add j) = some u := by
  subst hH
  intro j u hj
  match j, hj with
  | 0, hj => simp at hj; subst hj; simp [go_sem]
theorem two_b (W : World) (H : Nat) (hH : W.heap.size = H) (c d : Int) (t : TypeId) : ∀ j u, [Value.int .u8 c, Value.int .u8 d][j]? = some u → (W.alloc (.cells #[.int .u8 c, .int .u8 d] t)).cell? ((⟨H, 0, none⟩ : Addr).add j) = some u := by
  subst hH
  intro j u hj
  match j, hj with
  | 0, hj => simp at hj; subst hj; simp [go_sem]
  | 1, hj => simp at hj; subst hj; simp [go_sem]
def Row8 (w : World) (B : Nat) (v : Value) (L : List UInt8) : Prop := w.ownsRow B 5 1 v L.length (Lib.byteCells L)
theorem Row8.form {w : World} {B : Nat} {v : Value} {L : List UInt8} (h : Row8 w B v L) (h0 : 0 < L.length) : ∃ g cap, v = .slice (some ⟨g, 0, none⟩) L.length cap ∧ B ≤ g ∧ L.length ≤ cap := by
  obtain ⟨g, cap, h1, h2, h3⟩ := World.ownsRow.form h h0
  refine ⟨g, cap, h1, h2, ?_⟩
  rcases h.2 with ⟨e, _⟩ | ⟨g', cap', cur, hv, _, _, hc, _⟩
  · rw [h1] at e; simp at e
  · rw [h1] at hv
    simp only [Value.slice.injEq] at hv
    rw [hv.2.2]; exact hc
theorem Row8.lt {w : World} {B : Nat} {v : Value} {L : List UInt8} (h : Row8 w B v L) : ∀ k, v.ownBlock = some k → B ≤ k := fun k e => (World.ownsRow.lt h k e).1
theorem Row8.below {w w' : World} {B : Nat} {v : Value} {L : List UInt8} (h : Row8 w B v L) (hb : Below w.heap.size w w') : Row8 w' B v L := Go.Proofs.YtajifebphcgcpaaDoorW.PrintWords.own_move h fun k hk => hb.block k (World.ownsRow.lt h k hk).2
theorem conv_drop (w : World) (B g n cap : Nat) (L : List UInt8) (hn : n = L.length) (h0 : 1 ≤ n) (h : w.ownsRow B 5 1 (.slice (some ⟨g, 0, none⟩) n cap) n (Lib.byteCells L)) :
    (convert 74 9 (.slice (some ⟨g, 1, none⟩) (n - 1) (cap - 1))).run Tryd.prog w = .ok (.string ⟨(L.drop 1).toArray⟩) w := by
  subst hn
  have := run_convert_bytes_back (P := Tryd.prog) w 74 9 5 ⟨g, 1, none⟩ (cap - 1) (L.drop 1) Tryd.underlying74 Tryd.underlying5 Tryd.underlying9 (fun j hj => by
    rw [List.length_drop] at hj
    have hj1 : j + 1 < L.length := by omega
    have := h.cells (g := g) rfl (j + 1) (Value.int .u8 (L[j + 1].toNat : Int)) (by simp [Lib.byteCells, hj1])
    rw [Addr.add_lit, Nat.zero_add] at this
    rw [Addr.add_lit, Nat.add_comm 1 j]
    simpa using this)
  rw [List.length_drop] at this
  exact this
/-- The appended byte's law, told anew over rows of bytes. -/
theorem row8_snoc {w : World} {B g cap : Nat} {L : List UInt8} {M : List UInt8} (h : w.ownsRow B 5 1 (.slice (some ⟨g, 0, none⟩) (L.length + M.length) cap) (L.length + M.length) (Lib.byteCells L ++ Lib.byteCells M)) : Row8 w B (.slice (some ⟨g, 0, none⟩) (L ++ M).length cap) (L ++ M) := by
  unfold Row8
  rw [List.length_append, byteCells_app]
  exact h

theorem appU2_any (B n u : Nat) (hu64 : u < 18446744073709551616) (sv : Value) (xs : List Value) (w : World) (hown : w.ownsRow B 5 1 sv n xs) (hBw : B ≤ w.heap.size) (hlim : n + 20 ≤ 140737488355328)
    (htab : Lib.TabIs Tryd.prog w "internal/strconv.uint64pow10" .u64 Lib.pow10Tab) :
    Calls Tryd.prog 42 #[sv, .int .u64 u, .int .i64 10] w fun e w' => ∃ v', e = .returned v' ∧ w'.ownsRow B 5 1 v' (n + (Lib.decDigits u).length) (xs ++ Lib.byteCells (Lib.decDigits u)) ∧ Below B w w' ∧ Lib.OthersKept 5 none w w' := by
  have h' := Lib.hid (Tryd.internal_strconv_AppendUint_10 B n u hu64 sv xs w hown hBw hlim htab)
  clear hown htab
  go_enter Tryd.func42, Tryd.ntmps42
  go_wp2_with (go_at_call 50; refine h'.out.mono ?_; rintro e w' ⟨v', rfl, hown', hb, hk⟩)
  go_ret
  exact ⟨v', rfl, hown', hb, hk⟩
/-- What a round of the writing carries: the row so far, what lay below, and the round's own range. -/
def St (B p : Nat) (a c : Int) (W0 : World) (L : List UInt8) (u : Value) (w : World) : Prop := Row8 w B u L ∧ Below B W0 w ∧ Cell2 p a c w ∧ B ≤ w.heap.size
theorem Cell2.apart {p : Nat} {a c : Int} {w : World} (h : Cell2 p a c w) {B : Nat} {v : Value} {L : List UInt8} (hr : Row8 w B v L) : some p ≠ v.ownBlock := by
  intro e
  rcases hr.2 with ⟨h1, _⟩ | ⟨g, cap, cur, hv, _, hg, _⟩
  · rw [h1] at e; cases e
  · rw [hv] at e
    have e2 : p = g := Option.some.inj e
    subst e2
    unfold Cell2 at h
    rw [hg] at h
    simp at h
theorem St.push {B p : Nat} {a c : Int} {W0 : World} {L M : List UInt8} {u : Value} {w w3 : World} {g cap : Nat} {o : Obj} (h : St B p a c W0 L u w) (hown : w3.ownsRow B 5 1 (.slice (some ⟨g, 0, none⟩) (L.length + M.length) cap) (L.length + M.length) (Lib.byteCells L ++ Lib.byteCells M))
    (hg : (w.alloc o).grownBy w3 u.ownBlock) : St B p a c W0 (L ++ M) (.slice (some ⟨g, 0, none⟩) (L ++ M).length cap) w3 := by
  obtain ⟨h1, h2, h3, h4⟩ := h
  have hb : Below B W0 w3 := Below.grown (h2.alloc h4 o) hg (by simp; omega) (fun k e => h1.lt k e)
  refine ⟨row8_snoc hown, hb, ?_, ?_⟩
  · have hp : p < w.heap.size := (Array.getElem?_eq_some_iff.1 h3).1
    unfold Cell2
    rw [hg.block p (by simp; omega) (h3.apart h1), Below.heap_alloc _ _ _ hp]
    exact h3
  · have := hg.size
    simp at this; omega
theorem Row8.own {w : World} {B n : Nat} {v : Value} {L : List UInt8} (h : Row8 w B v L) (hn : n = L.length) : w.ownsRow B 5 1 v n (Lib.byteCells L) := by
  subst hn; exact h
theorem St.push' {B p : Nat} {a c : Int} {W0 : World} {L M : List UInt8} {u : Value} {w w3 : World} {g cap n m : Nat} {o : Obj} {xs ys : List Value} (h : St B p a c W0 L u w) (hn : n = L.length) (hm : m = M.length) (hx : xs = Lib.byteCells L) (hy : ys = Lib.byteCells M)
    (hown : w3.ownsRow B 5 1 (.slice (some ⟨g, 0, none⟩) (n + m) cap) (n + m) (xs ++ ys)) (hg : (w.alloc o).grownBy w3 u.ownBlock) : St B p a c W0 (L ++ M) (.slice (some ⟨g, 0, none⟩) (n + m) cap) w3 := by
  subst hn hm hx hy
  have := h.push hown hg
  rwa [List.length_append] at this
theorem St.drew {B p : Nat} {a c : Int} {W0 : World} {L : List UInt8} {u : Value} {w : World} (h : St B p a c W0 L u w) : St B p a c W0 L u w.drew := ⟨World.ownsRow.drew h.1, h.2.1.drew, h.2.2.1, h.2.2.2⟩
theorem St.app {B p : Nat} {a c : Int} {W0 : World} {L M : List UInt8} {u v : Value} {w w3 : World} (h : St B p a c W0 L u w) (hown : w3.ownsRow B 5 1 v (L.length + M.length) (Lib.byteCells L ++ Lib.byteCells M))
    (hb : Below B w w3) (hk : Lib.OthersKept 5 none w w3) : St B p a c W0 (L ++ M) v w3 := by
  obtain ⟨h1, h2, h3, h4⟩ := h
  refine ⟨?_, h2.trans hb, ?_, Nat.le_trans h4 hb.size⟩
  · unfold Row8; rw [List.length_append, byteCells_app]; exact hown
  · exact hk p _ h3 (by simp) (fun c fz e => by simp at e)

set_option maxRecDepth 1000000 in
set_option maxHeartbeats 8000000 in
theorem setString_any {l : List Rg} (hcan : Canon l) (hn : l.length ≤ 10000) {w : World} {base : Nat} {v : Value} (hr : RowQ w base v l) (htab : TabB w) :
    Calls Tryd.prog 40 #[.agg #[v]] w fun e w' => e = .returned (.string ⟨((joinL l).drop 1).toArray⟩) ∧ Below w.heap.size w w' := by
  have htab' := Lib.hid htab
  clear htab
  obtain ⟨W0, hW0⟩ : ∃ W0, w.alloc (.cells #[v] 66) = W0 := ⟨_, rfl⟩
  have hb0 : Below w.heap.size w W0 := by rw [← hW0]; exact (Below.refl _ _).alloc (Nat.le_refl _) _
  have hc0 : W0.cell? ⟨w.heap.size, 0, none⟩ = some v := by rw [← hW0]; exact cell_of_row _ _ 0 _ _ _ (heap_alloc_new _ _)
  have hsz0 : w.heap.size < W0.heap.size := by rw [← hW0]; simp
  have hr0 := hr.below hb0
  have htb0 := Lib.hid (show TabB W0 from fun W hW => htab'.out W (hb0.trans (hW.mono hb0.size)))
  have hB0 := Lib.hid hb0
  clear hr hb0
  by_cases h0 : l = []
  · subst h0
    rcases hr0.form with ⟨rfl, _⟩ | ⟨g, cap, rfl, _⟩
    all_goals
      clear hr0
      go_enter Tryd.func40, Tryd.ntmps40
      go_wp2_with fail
      go_ret
      exact ⟨rfl, by first | exact hB0.out | exact (Below.refl _ _).alloc (Nat.le_refl _) _⟩
  · have hpos : 0 < l.length := List.length_pos_iff.2 h0
    obtain ⟨g, cap, rfl, hgb, hgw, hcap⟩ := hr0.form1 hpos
    have hcell := Lib.hid (fun i hi => hr0.cell i hi)
    have hok := Lib.hid hcan.1
    have hl0 : ((l.length : Int) == 0) = false := by rw [beq_eq_false_iff_ne]; omega
    obtain ⟨i0, hii, hz0, hz1, hz2⟩ := info_parts info_u8
    obtain ⟨Z, hZ, hZs⟩ : ∃ Z : Array Value, Z = madeCells (Value.int .u8 0).cells (64 * i0.size) ∧ Z.size = 64 := ⟨_, rfl, by rw [size_madeCells, hz1]⟩
    have hmk : ∀ W, (Instr.makeSlice 74 (.int .i64 0) (.int .i64 64)).run Tryd.prog W = .ok (.slice (some ⟨W.heap.size, 0, none⟩) 0 64) (W.alloc (.cells Z 5)) := fun W => by
      have := run_makeSlice (P := Tryd.prog) (w := W) 74 5 i0 (.int .u8 0) Tryd.underlying74 hii hz0 .i64 .i64 0 64 (by omega) (by omega) (by rw [hz1]; decide) (by rw [hz2]; decide) (by omega)
      rw [hZ]
      exact this
    have hrow0 := Lib.hid (World.ownsRow_made (base := W0.heap.size) (e := 5) (size := 1) W0 Z 64 (Nat.le_refl _) (by decide) (by rw [hZs]))
    have hbz := Lib.hid ((Below.refl W0.heap.size W0).alloc (Nat.le_refl _) (.cells Z 5))
    clear hr0 hcan h0 hZ hZs
    replace hii := Lib.hid hii
    replace hz0 := Lib.hid hz0
    replace hz1 := Lib.hid hz1
    replace hz2 := Lib.hid hz2
    go_enter Tryd.func40, Tryd.ntmps40
    go_wp2_with fail
    clear hmk hW0
    go_loopw [3, 14] (fun s3 s14 wr => ∃ (j : Nat) (u : Value), s14 = .int .i64 (j : Int) ∧ j ≤ l.length ∧ s3 = u ∧ Hid (Row8 wr W0.heap.size u (joinL (l.take j))) ∧ Hid (Below W0.heap.size W0 wr)) (fun _ s14 _ => l.length - (RowKit.intOf s14).toNat)
    case atStart => exact ⟨0, _, rfl, Nat.zero_le _, rfl, hrow0, hbz⟩
    case round =>
      obtain ⟨wx, hwx⟩ : ∃ wx : World, wx = wr := ⟨_, rfl⟩
      rw [← hwx] at hrel ⊢
      clear hwx
      obtain ⟨j, u, rfl, hj, rfl, hrow, hB⟩ := hrel
      have hlen : (joinL (l.take j)).length ≤ 42 * 10000 := by
        have h1 := joinL_len (l.take j) (fun x hx => hok.out x (List.mem_of_mem_take hx))
        rw [List.length_take] at h1
        omega
      have hsx : W0.heap.size ≤ wx.heap.size := hB.out.size
      rcases Nat.lt_or_ge j l.length with hlt | hge
      · obtain ⟨hc0', hc1'⟩ := hcell.out j hlt
        have hxo := hok.out (l.getD j d0) (by rw [getD_of_lt l j hlt]; exact List.getElem_mem _)
        have hnext := joinL_take hlt
        obtain ⟨x, hx⟩ : ∃ x, l.getD j d0 = x := ⟨_, rfl⟩
        rw [hx] at hc0' hc1' hxo hnext
        obtain ⟨a, c⟩ := x
        replace hc0' := (hB.out.cell (World.block_lt_of_cell? W0 _ hc0')).trans hc0'
        replace hc1' := (hB.out.cell (World.block_lt_of_cell? W0 _ hc1')).trans hc1'
        obtain ⟨L, hL⟩ : ∃ L, joinL (l.take j) = L := ⟨_, rfl⟩
        rw [hL] at hrow hlen hnext
        have ha : a < 4294967296 := hxo.1
        have hc : c < 4294967296 := hxo.2.1
        have hxo' := hxo.2.2
        have hj2 : (j : Int) < (l.length : Int) := by omega
        replace hnext := Lib.hid hnext
        have hS2 := Lib.hid (show St W0.heap.size wx.heap.size (a : Int) (c : Int) W0 L u3 (wx.alloc (.cells #[.int .u32 (a : Int), .int .u32 (c : Int)] 50)) from ⟨hrow.out.below ((Below.refl _ _).alloc (Nat.le_refl _) _), hB.out.alloc hsx _, heap_alloc_new _ _, by simp; omega⟩)
        clear hx hL hrow hB
        go_upto_region 7 with (fail)
        obtain ⟨w2, hw2⟩ : ∃ w2, wx.alloc (.cells #[.int .u32 (a : Int), .int .u32 (c : Int)] 50) = w2 := ⟨_, rfl⟩
        rw [hw2] at hS2 ⊢
        clear hw2 hc0' hc1'
        obtain ⟨p, hp⟩ : ∃ p, wx.heap.size = p := ⟨_, rfl⟩
        rw [hp] at hS2 ⊢
        clear hp hsx
        have hx0 := hS2.out.2.2.1.c0
        have hx1 := hS2.out.2.2.1.c1
        have hnw2 := Lib.hid (one_b w2 _ rfl 44 5)
        have hws2 := hS2.out.2.2.2
        have hgoon : Hid (∀ (W : World) (v : Value) (M : List UInt8), M = seqL a c → St W0.heap.size p (a : Int) (c : Int) W0 (L ++ 44 :: M) v W → Row8 W W0.heap.size v (joinL (l.take (j + 1))) ∧ Below W0.heap.size W0 W) := fun W v M hM hS => by
          rw [hnext.out, ← hM]
          exact ⟨hS.1, hS.2.1⟩
        by_cases ha0 : a = 0
        · have hc0 : c = 0 := by
            subst ha0
            unfold lo hi at hxo'
            simp at hxo'
            by_cases h : c = 0
            · exact h
            · rw [if_neg h] at hxo'; omega
          have hseq := Lib.hid (show [42] = seqL a c by rw [ha0, hc0]; rfl)
          have hza : ((a : Int) == 0) = true := by rw [beq_iff_eq]; omega
          have hza2 : (a == 0) = true := by rw [beq_iff_eq]; exact ha0
          clear ha0 hc0 hxo'
          go_wp2_with (first
            | (at_builtin; refine wpList_append_lies _ rfl (.tmp 18) (.tmp 19) 74 rfl W0.heap.size 5 i0 (.int .u8 0) 1 1 Tryd.underlying74 hii.out hz0.out hz1.out hz2.out rfl (by decide) u3 L.length (Lib.byteCells L) rfl (World.ownsRow.alloc hS2.out.1 _) ⟨w2.heap.size, 0, none⟩ 1 1 [.int .u8 44] rfl rfl hnw2.out (by intro u hu; simp at hu; subst hu; rfl) (by decide) (by unfold maxLen; omega) (by omega) (by simp; omega) _ rfl ?_; intro g3 cap3 w3 hown3 hgrow3 hat3 hlt3; have hS3 := Lib.hid (St.push' (M := [44]) hS2.out rfl rfl rfl rfl hown3 hgrow3); have hx30 := hS3.out.2.2.1.c0; have hx31 := hS3.out.2.2.1.c1; have hws3 := hS3.out.2.2.2; have hnw3 := Lib.hid (one_b w3 _ rfl 42 5); clear hown3 hgrow3 hat3 hlt3 hx0 hx1 hnw2)
            | (at_builtin; refine wpList_append_lies _ rfl (.tmp 24) (.tmp 25) 74 rfl W0.heap.size 5 i0 (.int .u8 0) 1 1 Tryd.underlying74 hii.out hz0.out hz1.out hz2.out rfl (by decide) (.slice (some ⟨g3, 0, none⟩) (L.length + 1) cap3) (L.length + 1) (Lib.byteCells (L ++ [44])) rfl (World.ownsRow.alloc (Row8.own hS3.out.1 (by simp)) _) ⟨w3.heap.size, 0, none⟩ 1 1 [.int .u8 42] rfl rfl hnw3.out (by intro u hu; simp at hu; subst hu; rfl) (by decide) (by unfold maxLen; omega) (by omega) (by simp; omega) _ rfl ?_; intro g4 cap4 w4 hown4 hgrow4 hat4 hlt4))
          have hS4 : St W0.heap.size p (a : Int) (c : Int) W0 (L ++ 44 :: [42]) (.slice (some ⟨g4, 0, none⟩) (L.length + 1 + 1) cap4) w4 := by
            have h := St.push' (L := L ++ [44]) (M := [42]) hS3.out (by simp) rfl rfl rfl hown4 hgrow4
            rw [List.append_assoc] at h
            exact h
          have hfin := Lib.hid (hgoon.out w4 _ [42] hseq.out hS4)
          clear hown4 hgrow4 hat4 hlt4 hS4
          go_roundw
          case rel => exact ⟨j + 1, _, by go_num, by omega, rfl, hfin.out.1, hfin.out.2⟩
          case measure => simp [RowKit.intOf]; omega
        · have hza : ((a : Int) == 0) = false := by rw [beq_eq_false_iff_ne]; omega
          have hza2 : (a == 0) = false := by rw [beq_eq_false_iff_ne]; exact ha0
          have hwa : IntKind.u64.wrap (a : Int) = (a : Int) := by rw [IntKind.wrap_u64]; omega
          have hwc : IntKind.u64.wrap (c : Int) = (c : Int) := by rw [IntKind.wrap_u64]; omega
          have happ := Lib.hid (fun (W : World) (sv : Value) (hr : W.ownsRow W0.heap.size 5 1 sv (L.length + 1) (Lib.byteCells (L ++ [44]))) (hbl : Below W0.heap.size W0 W) => appU2_any W0.heap.size (L.length + 1) a (by omega) sv _ W hr hbl.size (by omega) ((htb0.out.on hbl).here))
          have hda := dec_len a ha
          have hdc := dec_len c hc
          replace ha0 := Lib.hid ha0
          go_wp2_with ((at_builtin; refine wpList_append_lies _ rfl (.tmp 18) (.tmp 19) 74 rfl W0.heap.size 5 i0 (.int .u8 0) 1 1 Tryd.underlying74 hii.out hz0.out hz1.out hz2.out rfl (by decide) u3 L.length (Lib.byteCells L) rfl (World.ownsRow.alloc hS2.out.1 _) ⟨w2.heap.size, 0, none⟩ 1 1 [.int .u8 44] rfl rfl hnw2.out (by intro u hu; simp at hu; subst hu; rfl) (by decide) (by unfold maxLen; omega) (by omega) (by simp; omega) _ rfl ?_; intro g3 cap3 w3 hown3 hgrow3 hat3 hlt3; have hS3 := Lib.hid (St.push' (M := [44]) hS2.out rfl rfl rfl rfl hown3 hgrow3); have hx30 := hS3.out.2.2.1.c0; have hx31 := hS3.out.2.2.1.c1; have hws3 := hS3.out.2.2.2; clear hown3 hgrow3 hat3 hlt3 hx0 hx1 hnw2))
          refine (happ.out w3 _ (Row8.own hS3.out.1 (by simp)) hS3.out.2.1).mono ?_
          rintro e w4 ⟨v4, rfl, hown4, hb4, hk4⟩
          have hS4 : St W0.heap.size p (a : Int) (c : Int) W0 (L ++ 44 :: Lib.decDigits a) v4 w4 := by
            have h := St.app (L := L ++ [44]) (M := Lib.decDigits a) hS3.out (by rw [List.length_append]; exact hown4) hb4 hk4
            rw [List.append_assoc] at h
            exact h
          have hx40 := hS4.2.2.1.c0
          have hx41 := hS4.2.2.1.c1
          have hws4 := hS4.2.2.2
          replace hS4 := Lib.hid hS4
          clear hown4 hb4 hk4 hx30 hx31 happ
          by_cases hac : a = c
          · subst hac
            have hseq : Lib.decDigits a = seqL a a := by unfold seqL; rw [if_pos rfl, if_neg ha0.out]
            have hfin := Lib.hid (hgoon.out w4 _ _ hseq hS4.out)
            clear hseq
            go_wp2_with fail
            go_roundw
            case rel => exact ⟨j + 1, _, by go_num, by omega, rfl, hfin.out.1, hfin.out.2⟩
            case measure => simp [RowKit.intOf]; omega
          · have hne : ((a : Int) != (c : Int)) = true := by rw [bne_iff_ne]; omega
            have hne2 : (a != c) = true := by rw [bne_iff_ne]; exact hac
            obtain ⟨L4, hL4⟩ : ∃ L4, L ++ 44 :: Lib.decDigits a = L4 := ⟨_, rfl⟩
            have hlen4 : L4.length ≤ 430000 := by rw [← hL4]; simp; omega
            rw [hL4] at hS4
            replace hL4 := Lib.hid hL4
            replace hac := Lib.hid hac
            by_cases hc0 : c = 0
            · have hzc : ((c : Int) == 0) = true := by rw [beq_iff_eq]; omega
              have hzc2 : (c == 0) = true := by rw [beq_iff_eq]; exact hc0
              have hseq := Lib.hid (show Lib.decDigits a ++ [58, 42] = seqL a c by unfold seqL; rw [if_neg hac.out, if_pos hc0])
              have hnw4 := Lib.hid (two_b w4 _ rfl 58 42 5)
              clear hc0
              go_wp2_with (at_builtin; refine wpList_append_lies _ rfl (.tmp 40) (.tmp 41) 74 rfl W0.heap.size 5 i0 (.int .u8 0) 1 1 Tryd.underlying74 hii.out hz0.out hz1.out hz2.out rfl (by decide) v4 L4.length (Lib.byteCells L4) rfl (World.ownsRow.alloc hS4.out.1 _) ⟨w4.heap.size, 0, none⟩ 2 2 [.int .u8 58, .int .u8 42] rfl rfl hnw4.out (by intro u hu; simp at hu; rcases hu with rfl | rfl <;> rfl) (by decide) (by unfold maxLen; omega) (by omega) (by simp; omega) _ rfl ?_; intro g5 cap5 w5 hown5 hgrow5 hat5 hlt5)
              have hS5 : St W0.heap.size p (a : Int) (c : Int) W0 (L ++ 44 :: (Lib.decDigits a ++ [58, 42])) (.slice (some ⟨g5, 0, none⟩) (L4.length + 2) cap5) w5 := by
                have h := St.push' (M := [58, 42]) hS4.out rfl rfl rfl rfl hown5 hgrow5
                have e : L4 ++ [58, 42] = L ++ 44 :: (Lib.decDigits a ++ [58, 42]) := by rw [← hL4.out]; simp
                rw [e] at h
                exact h
              have hfin := Lib.hid (hgoon.out w5 _ _ hseq.out hS5)
              clear hown5 hgrow5 hat5 hlt5 hS5
              go_roundw
              case rel => exact ⟨j + 1, _, by go_num, by omega, rfl, hfin.out.1, hfin.out.2⟩
              case measure => simp [RowKit.intOf]; omega
            · have hzc : ((c : Int) == 0) = false := by rw [beq_eq_false_iff_ne]; omega
              have hzc2 : (c == 0) = false := by rw [beq_eq_false_iff_ne]; exact hc0
              have hseq := Lib.hid (show Lib.decDigits a ++ (58 :: Lib.decDigits c) = seqL a c by unfold seqL; rw [if_neg hac.out, if_neg hc0])
              clear hc0
              have hnw4 := Lib.hid (one_b w4 _ rfl 58 5)
              have hrowA := Lib.hid (World.ownsRow.alloc hS4.out.1 (.cells #[.int .u8 58] 5))
              have hp4 : p < w4.heap.size := (Array.getElem?_eq_some_iff.1 hS4.out.2.2.1).1
              have hx4A : (w4.alloc (.cells #[.int .u8 58] 5)).cell? ⟨p, 1, none⟩ = some (.int .u32 (c : Int)) := (((Below.refl w4.heap.size w4).alloc (Nat.le_refl _) (.cells #[.int .u8 58] 5)).cell (p := ⟨p, 1, none⟩) hp4).trans hx41
              have happ2 := Lib.hid (fun (W : World) (sv : Value) (hr : W.ownsRow W0.heap.size 5 1 sv (L4.length + 1) (Lib.byteCells (L4 ++ [58]))) (hbl : Below W0.heap.size W0 W) => appU2_any W0.heap.size (L4.length + 1) c (by omega) sv _ W hr hbl.size (by omega) ((htb0.out.on hbl).here))
              go_upto_region 14 with (fail)
              go_region_law (first
                | ((refine step_append_lies _ rfl (.tmp 43) (.tmp 44) 74 rfl W0.heap.size 5 i0 (.int .u8 0) 1 1 Tryd.underlying74 hii.out hz0.out hz1.out hz2.out rfl (by decide) v4 L4.length (Lib.byteCells L4) (by simp [Act.eval, Act.put]) (by first | exact hrowA.out | exact hrowA.out.drew | exact hrowA.out.drew.drew) ⟨w4.heap.size, 0, none⟩ 1 1 [.int .u8 58] (by simp [Act.eval, Act.put]) rfl hnw4.out (by intro u hu; simp at hu; subst hu; rfl) (by omega) (by unfold maxLen; omega) (by omega) (by simp; omega) (w4.heap.size + 1) (by simp) ?_; intro g5 cap5 w5 hown5 hgrow5 hloc5 hlt5; have hS5 := Lib.hid (show St W0.heap.size p (a : Int) (c : Int) W0 (L4 ++ [58]) (.slice (some ⟨g5, 0, none⟩) (L4.length + 1) cap5) w5 by first | exact St.push' (o := .cells #[.int .u8 58] 5) (M := [58]) hS4.out rfl rfl rfl rfl hown5 hgrow5 | exact St.push' (o := .cells #[.int .u8 58] 5) (M := [58]) hS4.out.drew rfl rfl rfl rfl hown5 hgrow5 | exact St.push' (o := .cells #[.int .u8 58] 5) (M := [58]) hS4.out.drew.drew rfl rfl rfl rfl hown5 hgrow5); have hx51 := hS5.out.2.2.1.c1; clear hown5 hgrow5 hloc5 hlt5))
                | (go_simp; go_at_call 42; (refine (happ2.out _ _ (by first | exact Row8.own hS5.out.1 (by simp) | exact World.ownsRow.drew (Row8.own hS5.out.1 (by simp))) (by first | exact hS5.out.2.1 | exact hS5.out.2.1.drew)).mono ?_; rintro e w6 ⟨v6, rfl, hown6, hb6, hk6⟩; have hS6 := Lib.hid (show St W0.heap.size p (a : Int) (c : Int) W0 ((L4 ++ [58]) ++ Lib.decDigits c) v6 w6 from St.app hS5.out (by rw [List.length_append]; exact hown6) (by first | exact hb6 | exact (Below.refl _ _).drew.trans hb6) (by first | exact hk6 | exact hk6)); clear hown6 hb6 hk6)))
              all_goals
                have hS7 := hS6.out
                have e7 : (L4 ++ [58]) ++ Lib.decDigits c = L ++ 44 :: (Lib.decDigits a ++ (58 :: Lib.decDigits c)) := by rw [← hL4.out]; simp
                rw [e7] at hS7
                have hfin := Lib.hid (hgoon.out w6 _ _ hseq.out hS7)
                clear hS7 e7
                go_wp2_with fail
                go_roundw
                case rel => exact ⟨j + 1, _, by go_num, by omega, rfl, hfin.out.1, hfin.out.2⟩
                case measure => simp [RowKit.intOf]; omega
      · obtain rfl : j = l.length := by omega
        rw [List.take_length] at hrow hlen
        obtain ⟨x, t, hxt⟩ : ∃ x t, l = x :: t := by
          cases l with
          | nil => simp at hpos
          | cons x t => exact ⟨x, t, rfl⟩
        have hjl : 2 ≤ (joinL l).length := by
          have := seqL_pos x.1 x.2
          rw [hxt, joinL]
          simp only [List.length_append, List.length_cons]
          omega
        obtain ⟨g2, cap2, rfl, hg2, hc2⟩ := hrow.out.form (by omega)
        have hcv := conv_drop wx W0.heap.size g2 _ cap2 (joinL l) rfl (by omega) hrow.out
        have hfin := Lib.hid (hB0.out.trans (hB.out.mono (Nat.le_of_lt hsz0)))
        have hz1' : (1 : Int) ≤ ((joinL l).length : Int) := by omega
        have hz2' : ((joinL l).length : Int) ≤ (cap2 : Int) := by omega
        obtain ⟨m, hm⟩ : ∃ m, (joinL l).length = m := ⟨_, rfl⟩
        rw [hm] at hcv hjl hc2 hz1' hz2'
        obtain ⟨Q, hQ⟩ : ∃ Q, (joinL l).drop 1 = Q := ⟨_, rfl⟩
        rw [hQ] at hcv
        replace hQ := Lib.hid hQ
        rw [hm]
        have hcap1 : ¬ (cap2 = 1) := by omega
        clear hxt hrow hlen hm
        go_wp2_with fail
        go_ret
        exact ⟨by show Ending.returned (Value.string ⟨Q.toArray⟩) = _; rw [← hQ.out], hfin.out⟩
end Go.Proofs.YtajifebphcgcpaaDoor.Own

namespace Go.Proofs.YtajifebphcgcpaaDoor.Own
open Go.RowKit Go.Lib Sets Go.Proofs.YtajifebphcgcpaaDoorW.PrintWords
set_option linter.unusedVariables false
set_option linter.unusedSimpArgs false

theorem texts_same {x : Rg} (hx : Okr x) : text9L x.1 x.2 = seqL x.1 x.2 := by
  have h3 := hx.2.2
  unfold seqL text9L oneL
  by_cases h1 : x.1 = x.2
  · rw [if_pos h1, if_pos h1]
  · rw [if_neg h1, if_neg h1]
    have h0 : x.1 ≠ 0 := by
      intro e
      have h4 := hx.2.1
      unfold lo hi at h3
      rw [if_pos e] at h3
      split at h3 <;> omega
    rw [if_neg h0]
    by_cases h2 : x.2 = 0
    · rw [if_pos h2, if_pos h2]
    · rw [if_neg h2, if_neg h2]
theorem RowR.opened {w : World} {base : Nat} {v : Value} {l : List Rg} (h : RowR w base v l) : ∃ A c, v = .slice A l.length c ∧ (0 < l.length → ∃ g, A = some ⟨g, 0, none⟩ ∧ ∀ i, i < l.length →
    w.cell? ⟨g, i * 2, none⟩ = some (.int .u32 ((l.getD i d0).1 : Int)) ∧ w.cell? ⟨g, i * 2 + 1, none⟩ = some (.int .u32 ((l.getD i d0).2 : Int))) := by
  rcases Nat.eq_zero_or_pos l.length with h0 | h0
  · obtain ⟨A, c, hv, _, _⟩ := Kd.R_reads h
    rw [List.length_map] at hv
    exact ⟨A, c, hv, fun h => by omega⟩
  · obtain ⟨g, cap, hv, _, _, _⟩ := Kd.R_form h (by rw [List.length_map]; exact h0)
    obtain ⟨A, c, hv', _, hC⟩ := Kd.R_reads h
    rw [List.length_map] at hv
    have hA : A = some ⟨g, 0, none⟩ := by
      rw [hv] at hv'
      simp only [Value.slice.injEq] at hv'
      exact hv'.1.symm
    refine ⟨_, cap, hv, fun _ => ⟨g, rfl, fun i hi => ?_⟩⟩
    obtain ⟨ad, ha, h1, h2⟩ := PFnSeqOf.at_T24 hC (i : Int) (by omega) (by rw [List.length_map]; omega)
    rw [hA] at ha
    obtain rfl := Option.some.inj ha
    rw [rd24, Int.toNat_natCast] at h1 h2
    have hadd : (⟨g, 0, none⟩ : Addr).add (i * 2) = ⟨g, i * 2, none⟩ := by rw [Addr.add_lit, Nat.zero_add]
    rw [hadd] at h1 h2
    exact ⟨h1, h2⟩
theorem join_step {l : List Rg} {j : Nat} (hj : j < l.length) (h0 : 0 < j) : (joinL (l.take (j + 1))).drop 1 = (joinL (l.take j)).drop 1 ++ (44 :: seqL (l.getD j d0).1 (l.getD j d0).2) := by
  rw [joinL_take hj]
  have : 1 ≤ (joinL (l.take j)).length := by
    match l, hj, h0 with
    | x :: t, hj, h0 =>
      obtain ⟨j, rfl⟩ : ∃ i, j = i + 1 := ⟨j - 1, by omega⟩
      rw [List.take_succ_cons, joinL]; simp
  rw [List.drop_append_of_le_length this]
theorem str_app (a b : List UInt8) : (⟨a.toArray⟩ : ByteArray) ++ (⟨b.toArray⟩ : ByteArray) = ⟨(a ++ b).toArray⟩ := by
  apply ba_ext
  rw [app_list]
theorem setText9_any {l : List Rg} (hok : ∀ x ∈ l, Okr x) (hn : l.length ≤ 10000) {w : World} {base : Nat} {v : Value} (hr : RowR w base v l) :
    Calls Tryd.prog 22 #[v] w fun e w' => e = .returned (.string ⟨((joinL l).drop 1).toArray⟩) ∧ Below w.heap.size w w' := by
  obtain ⟨A, c, rfl, hcell⟩ := hr.opened
  have hcell' := Lib.hid hcell
  have hok' := Lib.hid hok
  clear hr hcell hok
  go_enter Tryd.func22, Tryd.ntmps22
  go_wp2_with fail
  go_loopw [3, 7] (fun s3 s7 wr => ∃ (j : Nat) (t : ByteArray), s7 = .int .i64 (j : Int) ∧ j ≤ l.length ∧ s3 = .string t ∧ t.size ≤ 42 * j ∧ Hid (t.data.toList = (joinL (l.take j)).drop 1) ∧ Hid (Below w.heap.size w wr)) (fun _ s7 _ => l.length - (RowKit.intOf s7).toNat)
  case atStart => exact ⟨0, ⟨#[]⟩, rfl, Nat.zero_le _, rfl, Nat.zero_le _, rfl, Below.refl _ _⟩
  case round =>
    obtain ⟨wx, hwx⟩ : ∃ wx : World, wx = wr := ⟨_, rfl⟩
    rw [← hwx] at hrel ⊢
    clear hwx
    obtain ⟨j, t, rfl, hj, rfl, hts, ht, hB⟩ := hrel
    rcases Nat.lt_or_ge j l.length with hlt | hge
    · obtain ⟨g, rfl, hcl⟩ := hcell'.out (by omega)
      obtain ⟨h0, h1⟩ := hcl j hlt
      replace h0 := (hB.out.cell (World.block_lt_of_cell? w _ h0)).trans h0
      replace h1 := (hB.out.cell (World.block_lt_of_cell? w _ h1)).trans h1
      have hxo := hok'.out (l.getD j d0) (by rw [getD_of_lt l j hlt]; exact List.getElem_mem _)
      have hnext : 0 < j → (joinL (l.take (j + 1))).drop 1 = (joinL (l.take j)).drop 1 ++ (44 :: seqL (l.getD j d0).1 (l.getD j d0).2) := fun h => join_step hlt h
      have hfirst : j = 0 → (joinL (l.take (j + 1))).drop 1 = seqL (l.getD j d0).1 (l.getD j d0).2 := fun h => by
        rw [joinL_take hlt, h, List.take_zero, joinL]; rfl
      obtain ⟨x, hx⟩ : ∃ x, l.getD j d0 = x := ⟨_, rfl⟩
      rw [hx] at h0 h1 hxo hnext hfirst
      have hsame := texts_same hxo
      have hlen := seqL_len hxo
      obtain ⟨a, c⟩ := x
      have hcall := Lib.hid (fun W => seqText9_any a c hxo.1 hxo.2.1 W)
      rw [show text9L a c = seqL a c from hsame] at hcall
      obtain ⟨M, hM⟩ : ∃ M, seqL a c = M := ⟨_, rfl⟩
      rw [hM] at hcall
      rw [show seqL ((a, c) : Rg).1 ((a, c) : Rg).2 = M from hM] at hnext hfirst hlen
      have hms : (⟨M.toArray⟩ : ByteArray).size ≤ 41 := by rw [size_mk]; exact hlen
      replace hnext := Lib.hid hnext
      replace hfirst := Lib.hid hfirst
      have hj2 : (j : Int) < (l.length : Int) := by omega
      obtain ⟨m, hm⟩ : ∃ m : ByteArray, m = ⟨M.toArray⟩ := ⟨_, rfl⟩
      rw [← hm] at hcall hms
      have hm' : m.data.toList = M := by rw [hm]
      replace hm' := Lib.hid hm'
      clear hcl hx hxo hsame hM hm hlen
      rcases Nat.eq_zero_or_pos j with hz | hz
      · subst hz
        have ht0 : t.size = 0 := by omega
        replace ht0 := Lib.hid ht0
        go_wp2_with fail
        refine (hcall.out _).mono ?_
        rintro e w2 ⟨rfl, hb2⟩
        have hB2 := Lib.hid (hB.out.trans (hb2.mono hB.out.size))
        clear hb2 h0 h1
        go_wp2_with fail
        go_roundw
        case rel =>
          refine ⟨1, t ++ m, by go_num, by omega, rfl, by rw [ByteArray.size_append]; omega, Lib.hid ?_, hB2⟩
          rw [app_list, hfirst.out (by simp), hm'.out]
          have e : t.data.toList = [] := List.eq_nil_of_length_eq_zero (by rw [← size_list]; exact ht0.out)
          rw [e, List.nil_append]
        case measure => simp [RowKit.intOf]; omega
      · have hz1 : decide (0 < (j : Int)) = true := decide_eq_true (by omega)
        go_wp2_with fail
        refine (hcall.out _).mono ?_
        rintro e w2 ⟨rfl, hb2⟩
        have hB2 := Lib.hid (hB.out.trans (hb2.mono hB.out.size))
        have hsz : (t ++ (⟨#[44]⟩ : ByteArray)).size ≤ 42 * j + 1 := by rw [ByteArray.size_append]; show t.size + 1 ≤ _; omega
        clear hb2 h0 h1
        go_wp2_with fail
        go_roundw
        case rel =>
          refine ⟨j + 1, t ++ (⟨#[44]⟩ : ByteArray) ++ m, by go_num, by omega, rfl, by rw [ByteArray.size_append]; omega, Lib.hid ?_, hB2⟩
          rw [app_list, app_list, hnext.out hz, hm'.out, ht.out, List.append_assoc]
          rfl
        case measure => simp [RowKit.intOf]; omega
    · obtain rfl : j = l.length := by omega
      have hfin : t = ⟨((joinL l).drop 1).toArray⟩ := by
        apply ba_ext
        rw [ht.out, List.take_length]
      replace hfin := Lib.hid hfin
      go_wp2_with fail
      go_ret
      exact ⟨by rw [← hfin.out]; rfl, hB.out⟩

/-- A step: what it is, two numbers, a text. -/
structure Step where
  op : Nat
  a : Nat
  b : Nat
  t : ByteArray
/-- The code's set behind a step, and whether it is taken. -/
def stepF (l : List Rg) (x : Step) : List Rg × Bool :=
  if x.op = 1 then (ins l (x.a, x.a), true)
  else if x.op = 2 then (ins l (rng x.a x.b), true)
  else if x.op = 3 then addF l (parts x.t)
  else if x.op = 4 then (if (setOf x.t).2 = true then ((setOf x.t).1.foldl ins l, true) else (l, false))
  else ([], true)
/-- The reference's ranges behind a step. -/
def specF (l : List Rg) (x : Step) : List Rg × Bool :=
  if x.op = 1 then (l ++ [(x.a, x.a)], true)
  else if x.op = 2 then (l ++ [rng x.a x.b], true)
  else if x.op = 3 then (l ++ (upto (parts x.t)).1, (upto (parts x.t)).2)
  else if x.op = 4 then (if (upto (parts x.t)).2 = true then (l ++ (upto (parts x.t)).1, true) else (l, false))
  else ([], true)
def Right (x : Step) : Prop := 1 ≤ x.op ∧ x.op ≤ 5 ∧ x.t.size ≤ 200 ∧ x.a < 4294967296 ∧ x.b < 4294967296
def Okl (l : List Rg) : Prop := ∀ x ∈ l, Okr x
theorem okl_app {l m : List Rg} (h : Okl l) (k : Okl m) : Okl (l ++ m) := fun x hx => by
  rcases List.mem_append.1 hx with h1 | h1
  · exact h x h1
  · exact k x h1
theorem okl_one {x : Rg} (h : Okr x) : Okl [x] := fun y hy => by simp at hy; subst hy; exact h
theorem set9_app {l m : List Rg} (h : Okl l) (k : Okl m) : set9 (l ++ m) = m.foldl ins (set9 l) := by
  rw [← fold_set9 _ (okl_app h k), List.foldl_append, fold_set9 _ h]
theorem set9_set9 {l m : List Rg} (h : Okl l) (k : Okl m) : (set9 m).foldl ins (set9 l) = m.foldl ins (set9 l) := by
  obtain ⟨c1, i1⟩ := set9_ok l h
  obtain ⟨c2, i2⟩ := set9_ok m k
  obtain ⟨d1, j1⟩ := fold_ins (set9 m) (set9 l) c1 c2.1
  obtain ⟨d2, j2⟩ := fold_ins m (set9 l) c1 k
  exact canon_unique d1 d2 fun p => by rw [j1, j2, i2]
theorem spec_ok {l : List Rg} (h : Okl l) {x : Step} (hx : Right x) : Okl (specF l x).1 := by
  unfold specF
  repeat' split
  · exact okl_app h (okl_one (okr_one hx.2.2.2.1))
  · exact okl_app h (okl_one (rng_okr hx.2.2.2.1 hx.2.2.2.2))
  · exact okl_app h (upto_okr _)
  · exact okl_app h (upto_okr _)
  · exact h
  · intro y hy; cases hy
theorem step_spec {l : List Rg} (h : Okl l) {x : Step} (hx : Right x) : stepF (set9 l) x = (set9 (specF l x).1, (specF l x).2) := by
  unfold stepF specF
  by_cases h1 : x.op = 1
  · rw [if_pos h1, if_pos h1, set9_app h (okl_one (okr_one hx.2.2.2.1))]; rfl
  · rw [if_neg h1, if_neg h1]
    by_cases h2 : x.op = 2
    · rw [if_pos h2, if_pos h2, set9_app h (okl_one (rng_okr hx.2.2.2.1 hx.2.2.2.2))]; rfl
    · rw [if_neg h2, if_neg h2]
      by_cases h3 : x.op = 3
      · rw [if_pos h3, if_pos h3, addF_upto, set9_app h (upto_okr _)]
      · rw [if_neg h3, if_neg h3]
        by_cases h4 : x.op = 4
        · rw [if_pos h4, if_pos h4, setOf_ok, setOf_set9]
          by_cases h5 : (upto (parts x.t)).2 = true
          · rw [if_pos h5, if_pos h5, set9_set9 h (upto_okr _), set9_app h (upto_okr _)]
          · rw [if_neg h5, if_neg h5]
        · rw [if_neg h4, if_neg h4]
          rfl
theorem parts_len (s : ByteArray) : (parts s).length ≤ s.size + 1 := splitN_len s.size s
theorem step_len (l : List Rg) {x : Step} (hx : Right x) : (stepF l x).1.length ≤ l.length + 201 := by
  have hp := parts_len x.t
  have ht := hx.2.2.1
  have h4 := setOf_len (s := x.t) (by omega)
  have h5 : (setOf x.t).1.length ≤ 201 := by
    have := addF_len (parts x.t) []
    unfold setOf
    simp only [List.length_nil] at this
    omega
  unfold stepF
  repeat' split
  · have := ins_len l (x.a, x.a); simp only; omega
  · have := ins_len l (rng x.a x.b); simp only; omega
  · have := addF_len (parts x.t) l; omega
  · have := fold_len (setOf x.t).1 l; simp only; omega
  · simp
  · simp
theorem step_canon {l : List Rg} (h : Canon l) {x : Step} (hx : Right x) : Canon (stepF l x).1 := by
  unfold stepF
  repeat' split
  · exact (ins_ok h (okr_one hx.2.2.2.1)).1
  · exact (ins_ok h (rng_okr hx.2.2.2.1 hx.2.2.2.2)).1
  · exact addF_canon _ _ h
  · exact (fold_ins _ _ h (setOf_canon x.t).1).1
  · exact h
  · exact canon_nil
/-- All steps, one behind the other: the set, and which were taken. -/
def playF (f : List Rg → Step → List Rg × Bool) : List Rg → List Step → List Rg × List Bool
  | l, [] => (l, [])
  | l, x :: t => ((playF f (f l x).1 t).1, (f l x).2 :: (playF f (f l x).1 t).2)
theorem play_spec : ∀ (t : List Step) (l : List Rg), Okl l → (∀ x ∈ t, Right x) → playF stepF (set9 l) t = (set9 (playF specF l t).1, (playF specF l t).2)
  | [], l, _, _ => rfl
  | x :: t, l, h, hr => by
    have hx := hr x (List.mem_cons_self ..)
    have ih := play_spec t (specF l x).1 (spec_ok h hx) fun y hy => hr y (List.mem_cons_of_mem _ hy)
    rw [playF, step_spec h hx]
    simp only
    rw [ih, playF]
theorem play_snoc (f : List Rg → Step → List Rg × Bool) : ∀ (t : List Step) (l : List Rg) (x : Step), playF f l (t ++ [x]) = ((f (playF f l t).1 x).1, (playF f l t).2 ++ [(f (playF f l t).1 x).2])
  | [], l, x => rfl
  | y :: t, l, x => by
    rw [List.cons_append, playF, play_snoc f t, playF]
    rfl
theorem play_len (f : List Rg → Step → List Rg × Bool) : ∀ (t : List Step) (l : List Rg), (playF f l t).2.length = t.length
  | [], l => rfl
  | x :: t, l => by rw [playF, List.length_cons, List.length_cons, play_len f t]
end Go.Proofs.YtajifebphcgcpaaDoor.Own
