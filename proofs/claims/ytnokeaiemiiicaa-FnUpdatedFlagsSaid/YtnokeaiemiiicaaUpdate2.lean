/- UpdateFlags by hand, on: what is added, what is removed. -/
import Derived.Test.YtnokeaiemiiicaaUpdate
namespace Go.Proofs.Ytnokeaiemiiicaa.Own
open Go.RowKit
set_option linter.unusedVariables false
set_option linter.unusedSimpArgs false

def hasS (l : List ByteArray) (x : ByteArray) : Bool := l.any (fun y => x.toList == y.toList)
def addFold (cur acc : List ByteArray) : List ByteArray → List ByteArray
  | [] => acc
  | x :: t => if hasS cur x then addFold cur acc t else addFold cur (acc ++ [x]) t
def hasT (l : List ByteArray) (x : ByteArray) : Bool := l.any (fun y => y.toList == x.toList)
def remFold (fl acc : List ByteArray) : List ByteArray → List ByteArray
  | [] => acc
  | x :: t => if hasT fl x then remFold fl acc t else remFold fl (acc ++ [x]) t
theorem take_getD (l : List ByteArray) (k : Nat) (h : k < l.length) : l.take (k + 1) = l.take k ++ [l.getD k ByteArray.empty] := by
  rw [List.take_succ_eq_append_getElem h, List.getD_eq_getElem?_getD, List.getElem?_eq_getElem h]; rfl
theorem hasS_step (l : List ByteArray) (x : ByteArray) (k : Nat) (h : k < l.length) : hasS (l.take (k + 1)) x = (hasS (l.take k) x || (x.toList == (l.getD k ByteArray.empty).toList)) := by
  rw [take_getD l k h]; simp [hasS]
theorem hasT_step (l : List ByteArray) (x : ByteArray) (k : Nat) (h : k < l.length) : hasT (l.take (k + 1)) x = (hasT (l.take k) x || ((l.getD k ByteArray.empty).toList == x.toList)) := by
  rw [take_getD l k h]; simp [hasT]
theorem hasS_of (l : List ByteArray) (x : ByteArray) (k : Nat) (h : k < l.length) (hn : hasS l x = false) : (x.toList == (l.getD k ByteArray.empty).toList) = false := by
  have := List.any_eq_false.1 hn (l.getD k ByteArray.empty) (by rw [List.getD_eq_getElem?_getD, List.getElem?_eq_getElem h]; exact List.getElem_mem h)
  simpa using this

/-- The current row is read on: behind an append. -/
theorem cur_kept {w w' : World} {base g cap g' g2 cap' cap2 : Nat} {cur acc : List ByteArray} {x : ByteArray} (h : RowS w base g cap cur) (h2 : RowS w' base g2 cap2 (acc ++ [x])) (hp : g' = g → cap' = cap ∧ cur <+: acc)
    (hg : (g2 = g' ∧ cap2 = cap' ∧ w.grownBy w' (some g')) ∨ (w.heap.size ≤ g2 ∧ w.grownBy w' none)) : RowS w' base g cap cur ∧ (g2 = g → cap2 = cap ∧ cur <+: acc ++ [x]) := by
  rcases hg with ⟨rfl, rfl, h1⟩ | ⟨h1, h3⟩
  · by_cases hgg : g2 = g
    · subst hgg
      obtain ⟨rfl, hpp⟩ := hp rfl
      have hpx : cur <+: acc ++ [x] := hpp.trans (List.prefix_append _ _)
      exact ⟨h2.prefix hpx, fun _ => ⟨rfl, hpx⟩⟩
    · exact ⟨h.kept h1 (by simp; omega), fun e => absurd e hgg⟩
  · exact ⟨h.kept h3 (by simp), fun e => by have := h.lt.2; omega⟩

set_option maxHeartbeats 4000000 in
theorem add_any (base g cap gf capf : Nat) (cur fl : List ByteArray) (w : World) (hcur : RowS w base g cap cur) (hfl : RowS w base gf capf fl) (hne : g ≠ gf) (hlc : cur.length ≤ 1000) (hlf : fl.length ≤ 1000) :
    Calls Try.prog 33 #[.slice (some ⟨g, 0, none⟩) cur.length cap, .string ⟨#[43, 70, 76, 65, 71, 83]⟩, .slice (some ⟨gf, 0, none⟩) fl.length capf] w (RowPost base (addFold cur cur fl) w) := by
  have hbase : base ≤ w.heap.size := Nat.le_trans hcur.lt.1 (Nat.le_of_lt hcur.lt.2)
  have hcur0 := Lib.hid hcur
  have hfl0 := Lib.hid hfl
  have hne0 := Lib.hid hne
  have hcc := hcur.len_cap
  obtain ⟨R, hR⟩ : ∃ R, addFold cur cur fl = R := ⟨_, rfl⟩
  rw [hR]
  have hR0 := Lib.hid hR
  clear hcur hfl hne hR
  go_enter Try.func33, Try.ntmps33
  go_wp2
  go_loopw [7, 60] (fun v i wr => ∃ (j : Nat) (acc : List ByteArray) (g' cap' : Nat), j ≤ fl.length ∧ i = .int .i64 j ∧ v = .slice (some ⟨g', 0, none⟩) acc.length cap' ∧ RowS wr base g' cap' acc ∧ RowS wr base gf capf fl ∧ RowS wr base g cap cur ∧ (g' = g → cap' = cap ∧ cur <+: acc) ∧ g' ≠ gf ∧ acc.length ≤ cur.length + j ∧ addFold cur acc (fl.drop j) = R ∧ Below base w wr) (fun _ i _ => fl.length - (intOf i).toNat)
  case atStart => exact ⟨0, cur, g, cap, Nat.zero_le _, rfl, rfl, hcur0.out, hfl0.out, hcur0.out, fun _ => ⟨rfl, List.prefix_refl _⟩, hne0.out, by omega, hR0.out, Below.refl _ _⟩
  case round =>
    obtain ⟨wx, hwx⟩ : ∃ wx : World, wx = wr := ⟨_, rfl⟩
    rw [← hwx] at hrel ⊢
    clear hwx
    obtain ⟨j, acc, g', cap', hj, rfl, rfl, hacc, hfl, hcu, hsame, hne, hal, hR, hbel⟩ := hrel
    by_cases hlt : j < fl.length
    · obtain ⟨x, hx⟩ : ∃ x, x = fl.getD j ByteArray.empty := ⟨_, rfl⟩
      have hcx : wx.cell? ⟨gf, j, none⟩ = some (.string x) := by rw [hx]; exact hfl.cell j hlt
      have hdr : fl.drop j = x :: fl.drop (j + 1) := by rw [hx]; exact drop_getD fl j hlt
      rw [hdr, addFold] at hR
      have hacc' := Lib.hid hacc
      have hfl' := Lib.hid hfl
      have hcu' := Lib.hid hcu
      have hsame' := Lib.hid hsame
      have hbel' := Lib.hid hbel
      have hbs := hbel.size
      have hne' := Lib.hid hne
      clear hacc hfl hcu hsame hbel hx hdr hne
      cases hin : hasS cur x with
      | true =>
        rw [hin, if_pos rfl] at hR
        have hR' := Lib.hid hR
        have hin' := Lib.hid hin
        clear hR hin
        go_wp2
        go_loopw [15, 66] (fun b i wq => ∃ k : Nat, k ≤ cur.length ∧ i = .int .i64 k ∧ b = .bool false ∧ hasS (cur.take k) x = false ∧ wx = wq) (fun _ i _ => cur.length - (intOf i).toNat)
        case atStart => exact ⟨0, Nat.zero_le _, rfl, rfl, rfl, rfl⟩
        case round =>
          obtain ⟨k, hk, rfl, rfl, hno, rfl⟩ := hrel
          have hno' := Lib.hid hno
          clear hno
          by_cases hlt : k < cur.length
          · obtain ⟨y, hy⟩ : ∃ y, y = cur.getD k ByteArray.empty := ⟨_, rfl⟩
            have hcy : wx.cell? ⟨g, k, none⟩ = some (.string y) := by rw [hy]; exact hcu'.out.cell k hlt
            have hst := hasS_step cur x k hlt
            rw [← hy, hno'.out, Bool.false_or] at hst
            have hst' := Lib.hid hst
            clear hy hst
            cases heq : (x.toList == y.toList) with
            | true =>
              go_wp2
              exact ⟨⟨j + 1, acc, g', cap', by omega, by go_num, rfl, hacc'.out, hfl'.out, hcu'.out, hsame'.out, hne'.out, by omega, hR'.out, hbel'.out⟩, by simp [intOf]; omega⟩
            | false =>
              have hno1 := Lib.hid (hst'.out.trans heq)
              clear hst'
              go_wp2
              exact ⟨⟨k + 1, by omega, by go_num, rfl, hno1.out, trivial⟩, by simp [intOf]; omega⟩
          · exfalso
            have e : cur.take k = cur := List.take_of_length_le (by omega)
            have := hno'.out
            rw [e, hin'.out] at this
            cases this
      | false =>
        rw [hin, if_neg Bool.false_ne_true] at hR
        have hR' := Lib.hid hR
        have hin' := Lib.hid hin
        clear hR hin
        go_wp2
        go_loopw [15, 66] (fun b i wq => ∃ k : Nat, k ≤ cur.length ∧ i = .int .i64 k ∧ b = .bool false ∧ wx = wq) (fun _ i _ => cur.length - (intOf i).toNat)
        case atStart => exact ⟨0, Nat.zero_le _, rfl, rfl, rfl⟩
        case round =>
          obtain ⟨k, hk, rfl, rfl, rfl⟩ := hrel
          by_cases hlt : k < cur.length
          · obtain ⟨y, hy⟩ : ∃ y, y = cur.getD k ByteArray.empty := ⟨_, rfl⟩
            have hcy : wx.cell? ⟨g, k, none⟩ = some (.string y) := by rw [hy]; exact hcu'.out.cell k hlt
            have heq := hasS_of cur x k hlt hin'.out
            rw [← hy] at heq
            clear hy
            go_wp2
            exact ⟨⟨k + 1, by omega, by go_num, rfl, trivial⟩, by simp [intOf]; omega⟩
          · go_wp2_with (first | (at_builtin; refine wpList_append_one _ rfl _ _ 22 rfl Try.underlying22 base g' cap' acc _ rfl rfl (hacc'.out.alloc _) ⟨wx.heap.size, 0, none⟩ x rfl (cell_one _ _ _) (by omega) (by simp; omega) ?_; intro g2 cap2 w1 hrow1 hgrow1) | go_in)
            have hck := cur_kept (hcu'.out.alloc (.cells #[.string x] 9)) hrow1 hsame'.out hgrow1
            exact ⟨⟨j + 1, acc ++ [x], g2, cap2, by omega, by go_num, by simp, hrow1, keep_row (hfl'.out.alloc _) hgrow1 (by have := hfl'.out.lt.2; simp; omega) hne'.out, hck.1, hck.2, keep_ne (by have := hfl'.out.lt.2; simp; omega) hgrow1 hne'.out, by simp; omega, hR'.out, keep_below (hbel'.out.alloc (by omega) _) hgrow1 (by simp; omega) hacc'.out.lt.1⟩, by simp [intOf]; omega⟩
    · have hj' : j = fl.length := by omega
      rw [hj', List.drop_length, addFold] at hR
      subst hR
      go_wp2
      go_ret
      exact ⟨_, _, rfl, hacc, hbel⟩

set_option maxHeartbeats 4000000 in
theorem rem_any (base g cap gf capf : Nat) (cur fl : List ByteArray) (w : World) (hcur : RowS w base g cap cur) (hfl : RowS w base gf capf fl) (hne : g ≠ gf) (hlc : cur.length ≤ 1000) (hlf : fl.length ≤ 1000) :
    Calls Try.prog 33 #[.slice (some ⟨g, 0, none⟩) cur.length cap, .string ⟨#[45, 70, 76, 65, 71, 83]⟩, .slice (some ⟨gf, 0, none⟩) fl.length capf] w (RowPost base (remFold fl [] cur) w) := by
  have hbase : base ≤ w.heap.size := Nat.le_trans hcur.lt.1 (Nat.le_of_lt hcur.lt.2)
  have hcur0 := Lib.hid hcur
  have hfl0 := Lib.hid hfl
  have hne0 := Lib.hid hne
  have hcc := hcur.len_cap
  have hgb := hcur.lt.1
  obtain ⟨R, hR⟩ : ∃ R, remFold fl [] cur = R := ⟨_, rfl⟩
  rw [hR]
  have hR0 := Lib.hid hR
  clear hcur hfl hne hR
  go_enter Try.func33, Try.ntmps33
  go_wp2
  go_loopw [7, 85] (fun v i wr => ∃ (k : Nat) (acc : List ByteArray), k ≤ cur.length ∧ i = .int .i64 k ∧ v = .slice (some ⟨g, 0, none⟩) acc.length cap ∧ RowS wr base g cap (acc ++ cur.drop acc.length) ∧ RowS wr base gf capf fl ∧ acc.length ≤ k ∧ remFold fl acc (cur.drop k) = R ∧ Below base w wr) (fun _ i _ => cur.length - (intOf i).toNat)
  case atStart => exact ⟨0, [], Nat.zero_le _, rfl, rfl, hcur0.out, hfl0.out, Nat.zero_le _, hR0.out, Below.refl _ _⟩
  case round =>
    obtain ⟨wx, hwx⟩ : ∃ wx : World, wx = wr := ⟨_, rfl⟩
    rw [← hwx] at hrel ⊢
    clear hwx
    obtain ⟨k, acc, hk, rfl, rfl, hrow, hfl, hal, hR, hbel⟩ := hrel
    by_cases hlt : k < cur.length
    · obtain ⟨x, hx⟩ : ∃ x, x = cur.getD k ByteArray.empty := ⟨_, rfl⟩
      have hlen : (acc ++ cur.drop acc.length).length = cur.length := by rw [List.length_append, List.length_drop]; omega
      have hcx : wx.cell? ⟨g, k, none⟩ = some (.string x) := by
        rw [hx, hrow.cell k (by omega)]
        rw [List.getD_eq_getElem?_getD, List.getD_eq_getElem?_getD, List.getElem?_append_right hal, List.getElem?_drop]
        congr 4
        omega
      have hdr : cur.drop k = x :: cur.drop (k + 1) := by rw [hx]; exact drop_getD cur k hlt
      rw [hdr, remFold] at hR
      have hset : (acc ++ cur.drop acc.length).set acc.length x = (acc ++ [x]) ++ cur.drop (acc ++ [x]).length := by
        rw [List.set_append_right _ _ (Nat.le_refl _), Nat.sub_self, drop_getD cur acc.length (by omega)]
        simp
      have hset' := Lib.hid hset
      have hlen' := Lib.hid hlen
      have hrow' := Lib.hid hrow
      have hfl' := Lib.hid hfl
      have hbel' := Lib.hid hbel
      have hbs := hbel.size
      have hR' := Lib.hid hR
      clear hrow hfl hbel hx hdr hset hlen hR
      go_wp2
      go_loopw [20, 91] (fun b i wq => ∃ j : Nat, j ≤ fl.length ∧ i = .int .i64 j ∧ b = .bool (hasT (fl.take j) x) ∧ wx = wq) (fun _ i _ => fl.length - (intOf i).toNat)
      case atStart => exact ⟨0, Nat.zero_le _, rfl, rfl, rfl⟩
      case round =>
        obtain ⟨j, hj, rfl, rfl, rfl⟩ := hrel
        by_cases hlt2 : j < fl.length
        · obtain ⟨y, hy⟩ : ∃ y, y = fl.getD j ByteArray.empty := ⟨_, rfl⟩
          have hcy : wx.cell? ⟨gf, j, none⟩ = some (.string y) := by rw [hy]; exact hfl'.out.cell j hlt2
          have hst := hasT_step fl x j hlt2
          rw [← hy] at hst
          have hst' := Lib.hid hst
          clear hy hst
          obtain ⟨b0, hb0⟩ : ∃ b0, hasT (fl.take j) x = b0 := ⟨_, rfl⟩
          rw [hb0] at hst' ⊢
          cases heq : (y.toList == x.toList) with
          | true =>
            have hfin := Lib.hid (show hasT (fl.take (j + 1)) x = true by rw [hst'.out, heq, Bool.or_true])
            clear hst' hb0
            go_wp2
            exact ⟨⟨j + 1, by omega, by go_num, by rw [hfin.out], trivial⟩, by simp [intOf]; omega⟩
          | false =>
            have hfin := Lib.hid (show hasT (fl.take (j + 1)) x = b0 by rw [hst'.out, heq, Bool.or_false])
            clear hst' hb0
            go_wp2
            exact ⟨⟨j + 1, by omega, by go_num, by rw [hfin.out], trivial⟩, by simp [intOf]; omega⟩
        · have htl : fl.take j = fl := List.take_of_length_le (by omega)
          rw [htl]
          clear htl
          cases hin : hasT fl x with
          | true =>
            have hR2 := Lib.hid (show remFold fl acc (cur.drop (k + 1)) = R by have := hR'.out; rw [hin, if_pos rfl] at this; exact this)
            clear hin hR'
            go_wp2
            exact ⟨⟨k + 1, acc, by omega, by go_num, rfl, hrow'.out, hfl'.out, by omega, hR2.out, hbel'.out⟩, by simp [intOf]; omega⟩
          | false =>
            have hR2 := Lib.hid (show remFold fl (acc ++ [x]) (cur.drop (k + 1)) = R by have := hR'.out; rw [hin, if_neg Bool.false_ne_true] at this; exact this)
            clear hin hR'
            go_wp2_with (first | (at_builtin; refine wpList_append_over _ rfl _ _ 22 rfl Try.underlying22 base g cap (acc ++ cur.drop acc.length) acc.length (by rw [hlen'.out]; omega) rfl (hrow'.out.alloc _) ⟨wx.heap.size, 0, none⟩ x rfl (cell_one _ _ _) (by rw [hlen'.out]; omega) ?_; intro w1 hrow1 hgrow1) | go_in)
            exact ⟨⟨k + 1, acc ++ [x], by omega, by go_num, by simp, (by rw [← hset'.out]; exact hrow1), (hfl'.out.alloc _).kept hgrow1 (by have := hne0.out; simp; omega), by simp; omega, hR2.out, (hbel'.out.alloc (by omega) _).grown hgrow1 (by simp; omega) (fun q e => by cases e; exact hgb)⟩, by simp [intOf]; omega⟩
    · have hj' : k = cur.length := by omega
      rw [hj', List.drop_length, remFold] at hR
      subst hR
      have hrow2 := Lib.hid (hrow.prefix (List.prefix_append acc _))
      have hbel' := Lib.hid hbel
      clear hrow hbel hfl
      go_wp2
      go_ret
      exact ⟨_, _, rfl, hrow2.out, hbel'.out⟩
end Go.Proofs.Ytnokeaiemiiicaa.Own
