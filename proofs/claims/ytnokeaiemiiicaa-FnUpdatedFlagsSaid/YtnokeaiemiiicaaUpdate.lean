/- UpdateFlags by hand: the three operations on two rows of texts. -/
import Derived.Test.YtnokeaiemiiicaaStrRow
import Derived.WalkSpells
import Derived.WalkSmall
import Derived.Lib.OthersKept
import Derived.Lib.Hide
namespace Go.Proofs.Ytnokeaiemiiicaa.Own
open Go.RowKit
set_option linter.unusedVariables false
set_option linter.unusedSimpArgs false

def recentF : ByteArray := ⟨#[92, 82, 101, 99, 101, 110, 116]⟩
def isRec (x : ByteArray) : Bool := x.toList == [92, 82, 101, 99, 101, 110, 116]
def setFold (b : Bool) (acc : List ByteArray) : List ByteArray → List ByteArray
  | [] => acc
  | x :: t => if isRec x then (if b then setFold b acc t else setFold true (acc ++ [x]) t) else setFold b (acc ++ [x]) t
def upSet (cur fl : List ByteArray) : List ByteArray := if cur.any isRec then setFold true [recentF] fl else setFold false [] fl

theorem drop_getD (l : List ByteArray) (j : Nat) (h : j < l.length) : l.drop j = l.getD j ByteArray.empty :: l.drop (j + 1) := by
  rw [List.drop_eq_getElem_cons h, List.getD_eq_getElem?_getD, List.getElem?_eq_getElem h]; rfl
theorem cell_one (w : World) (x : ByteArray) (t : TypeId) : (w.alloc (.cells #[.string x] t)).cell? ⟨w.heap.size, 0, none⟩ = some (.string x) := by simp [go_sem]
theorem keep_row {w w' : World} {base g cap g' g2 cap' cap2 : Nat} {X : List ByteArray} (h : RowS w base g cap X) (hg : (g2 = g' ∧ cap2 = cap' ∧ w.grownBy w' (some g')) ∨ (w.heap.size ≤ g2 ∧ w.grownBy w' none)) (hl : g < w.heap.size) (hne : g' ≠ g) : RowS w' base g cap X := by
  rcases hg with ⟨_, _, h1⟩ | ⟨_, h1⟩
  · exact h.kept h1 (by simp; omega)
  · exact h.kept h1 (by simp)
theorem keep_ne {w w' : World} {g g' g2 cap' cap2 : Nat} (hl : g < w.heap.size) (hg : (g2 = g' ∧ cap2 = cap' ∧ w.grownBy w' (some g')) ∨ (w.heap.size ≤ g2 ∧ w.grownBy w' none)) (hne : g' ≠ g) : g2 ≠ g := by
  rcases hg with ⟨h1, _, _⟩ | ⟨h1, _⟩ <;> omega
theorem keep_below {w0 w w' : World} {base g' g2 cap' cap2 : Nat} (h : Below base w0 w) (hg : (g2 = g' ∧ cap2 = cap' ∧ w.grownBy w' (some g')) ∨ (w.heap.size ≤ g2 ∧ w.grownBy w' none)) (hb : base ≤ w.heap.size) (hg' : base ≤ g') : Below base w0 w' := by
  rcases hg with ⟨_, _, h1⟩ | ⟨_, h1⟩
  · exact h.grown h1 hb (fun k e => by cases e; exact hg')
  · exact h.grown h1 hb (fun k e => by cases e)

/-- What it leaves: a row of its own that holds R. -/
def RowPost (base : Nat) (R : List ByteArray) (w : World) (e : Ending) (w' : World) : Prop := ∃ g cap, e = .returned (.slice (some ⟨g, 0, none⟩) R.length cap) ∧ RowS w' base g cap R ∧ Below base w w'

set_option maxHeartbeats 4000000 in
theorem set_none (base g cap gf capf : Nat) (cur fl : List ByteArray) (w : World) (hcur : RowS w base g cap cur) (hfl : RowS w base gf capf fl) (hne : g ≠ gf) (hlc : cur.length ≤ 1000) (hlf : fl.length ≤ 1000) (hrc : cur.any isRec = false) :
    Calls Try.prog 33 #[.slice (some ⟨g, 0, none⟩) cur.length cap, .string ⟨#[70, 76, 65, 71, 83]⟩, .slice (some ⟨gf, 0, none⟩) fl.length capf] w (RowPost base (setFold false [] fl) w) := by
  have hbase : base ≤ w.heap.size := Nat.le_trans hcur.lt.1 (Nat.le_of_lt hcur.lt.2)
  have hcur' := Lib.hid hcur
  have hfl' := Lib.hid hfl
  have hne' := Lib.hid hne
  have hcc := hcur.len_cap
  have hrc' := Lib.hid hrc
  obtain ⟨R, hR⟩ : ∃ R, setFold false [] fl = R := ⟨_, rfl⟩
  rw [hR]
  have hR0 := Lib.hid hR
  clear hcur hfl hne hrc hR
  go_enter Try.func33, Try.ntmps33
  go_wp2
  go_loopw [7, 8, 31] (fun v hb i wr => ∃ k : Nat, k ≤ cur.length ∧ i = .int .i64 k ∧ hb = .bool false ∧ v = .slice (some ⟨g, 0, none⟩) 0 cap ∧ w = wr) (fun _ _ i _ => cur.length - (intOf i).toNat)
  case atStart => exact ⟨0, Nat.zero_le _, rfl, rfl, rfl, rfl⟩
  case round =>
    obtain ⟨k, hk, rfl, rfl, rfl, rfl⟩ := hrel
    by_cases hlt : k < cur.length
    · obtain ⟨x, hx⟩ : ∃ x, x = cur.getD k ByteArray.empty := ⟨_, rfl⟩
      have hcx : w.cell? ⟨g, k, none⟩ = some (.string x) := by rw [hx]; exact hcur'.out.cell k hlt
      have hrec : (x.toList == [92, 82, 101, 99, 101, 110, 116]) = false := by
        have := List.any_eq_false.1 hrc'.out x (by rw [hx, List.getD_eq_getElem?_getD, List.getElem?_eq_getElem hlt]; exact List.getElem_mem hlt)
        simpa [isRec] using this
      clear hx
      go_wp2
      exact ⟨⟨k + 1, by omega, by go_num, rfl, rfl, trivial⟩, by simp [intOf]; omega⟩
    · go_wp2
      go_loopw [7, 8, 43] (fun v hb i wr => ∃ (j : Nat) (b : Bool) (acc : List ByteArray) (g' cap' : Nat), j ≤ fl.length ∧ i = .int .i64 j ∧ hb = .bool b ∧ v = .slice (some ⟨g', 0, none⟩) acc.length cap' ∧ RowS wr base g' cap' acc ∧ RowS wr base gf capf fl ∧ g' ≠ gf ∧ acc.length ≤ j + 1 ∧ setFold b acc (fl.drop j) = R ∧ Below base w wr) (fun _ _ i _ => fl.length - (intOf i).toNat)
      case atStart => exact ⟨0, false, [], g, cap, Nat.zero_le _, rfl, rfl, rfl, hcur'.out.take 0 (Nat.zero_le _), hfl'.out, hne'.out, by simp, hR0.out, Below.refl _ _⟩
      case round =>
        obtain ⟨j, b, acc, g', cap', hj, rfl, rfl, rfl, hacc, hfl, hne, hal, hR, hbel⟩ := hrel
        by_cases hlt : j < fl.length
        · obtain ⟨x, hx⟩ : ∃ x, x = fl.getD j ByteArray.empty := ⟨_, rfl⟩
          have hcx : wr.cell? ⟨gf, j, none⟩ = some (.string x) := by rw [hx]; exact hfl.cell j hlt
          have hdr : fl.drop j = x :: fl.drop (j + 1) := by rw [hx]; exact drop_getD fl j hlt
          rw [hdr, setFold] at hR
          have hacc' := Lib.hid hacc
          have hfl' := Lib.hid hfl
          have hbel' := Lib.hid hbel
          have hbs := hbel.size
          have hne' := Lib.hid hne
          clear hacc hfl hbel hx hdr hne
          cases hrec : isRec x with
          | true =>
            rw [hrec, if_pos rfl] at hR
            have hrec' : (x.toList == [92, 82, 101, 99, 101, 110, 116]) = true := hrec
            clear hrec
            cases b with
            | true =>
              rw [if_pos rfl] at hR
              have hR' := Lib.hid hR
              clear hR
              go_wp2
              exact ⟨⟨j + 1, true, acc, g', cap', by omega, by go_num, rfl, rfl, hacc'.out, hfl'.out, hne'.out, by omega, hR'.out, hbel'.out⟩, by simp [intOf]; omega⟩
            | false =>
              rw [if_neg Bool.false_ne_true] at hR
              have hR' := Lib.hid hR
              clear hR
              go_wp2_with (first | (at_builtin; refine wpList_append_one _ rfl _ _ 22 rfl Try.underlying22 base g' cap' acc _ rfl rfl (hacc'.out.alloc _) ⟨wr.heap.size, 0, none⟩ x rfl (cell_one _ _ _) (by omega) (by simp; omega) ?_; intro g2 cap2 w1 hrow1 hgrow1) | go_in)
              exact ⟨⟨j + 1, true, acc ++ [x], g2, cap2, by omega, by go_num, rfl, by simp, hrow1, keep_row (hfl'.out.alloc _) hgrow1 (by have := hfl'.out.lt.2; simp; omega) hne'.out, keep_ne (by have := hfl'.out.lt.2; simp; omega) hgrow1 hne'.out, by simp; omega, hR'.out, keep_below (hbel'.out.alloc (by omega) _) hgrow1 (by simp; omega) hacc'.out.lt.1⟩, by simp [intOf]; omega⟩
          | false =>
            rw [hrec, if_neg Bool.false_ne_true] at hR
            have hR' := Lib.hid hR
            have hrec' : (x.toList == [92, 82, 101, 99, 101, 110, 116]) = false := hrec
            clear hrec hR
            go_wp2_with (first | (at_builtin; refine wpList_append_one _ rfl _ _ 22 rfl Try.underlying22 base g' cap' acc _ rfl rfl (hacc'.out.alloc _) ⟨wr.heap.size, 0, none⟩ x rfl (cell_one _ _ _) (by omega) (by simp; omega) ?_; intro g2 cap2 w1 hrow1 hgrow1) | go_in)
            exact ⟨⟨j + 1, b, acc ++ [x], g2, cap2, by omega, by go_num, rfl, by simp, hrow1, keep_row (hfl'.out.alloc _) hgrow1 (by have := hfl'.out.lt.2; simp; omega) hne'.out, keep_ne (by have := hfl'.out.lt.2; simp; omega) hgrow1 hne'.out, by simp; omega, hR'.out, keep_below (hbel'.out.alloc (by omega) _) hgrow1 (by simp; omega) hacc'.out.lt.1⟩, by simp [intOf]; omega⟩
        · have hj' : j = fl.length := by omega
          rw [hj', List.drop_length, setFold] at hR
          subst hR
          go_wp2
          go_ret
          exact ⟨_, _, rfl, hacc, hbel⟩


set_option maxHeartbeats 4000000 in
theorem set_some (base g cap gf capf : Nat) (cur fl : List ByteArray) (w : World) (hcur : RowS w base g cap cur) (hfl : RowS w base gf capf fl) (hne : g ≠ gf) (hlc : cur.length ≤ 1000) (hlf : fl.length ≤ 1000) (hrc : cur.any isRec = true) :
    Calls Try.prog 33 #[.slice (some ⟨g, 0, none⟩) cur.length cap, .string ⟨#[70, 76, 65, 71, 83]⟩, .slice (some ⟨gf, 0, none⟩) fl.length capf] w (RowPost base (setFold true [recentF] fl) w) := by
  have hbase : base ≤ w.heap.size := Nat.le_trans hcur.lt.1 (Nat.le_of_lt hcur.lt.2)
  have hcur' := Lib.hid hcur
  have hfl' := Lib.hid hfl
  have hne' := Lib.hid hne
  have hcc := hcur.len_cap
  have hrc' := Lib.hid hrc
  obtain ⟨R, hR⟩ : ∃ R, setFold true [recentF] fl = R := ⟨_, rfl⟩
  rw [hR]
  have hR0 := Lib.hid hR
  have hrow0 := Lib.hid (hcur.take 0 (Nat.zero_le _))
  clear hcur hfl hne hrc hR
  go_enter Try.func33, Try.ntmps33
  go_wp2
  go_loopw [7, 8, 31] (fun v hb i wr => ∃ k : Nat, k ≤ cur.length ∧ i = .int .i64 k ∧ hb = .bool false ∧ v = .slice (some ⟨g, 0, none⟩) 0 cap ∧ (cur.take k).any isRec = false ∧ w = wr) (fun _ _ i _ => cur.length - (intOf i).toNat)
  case atStart => exact ⟨0, Nat.zero_le _, rfl, rfl, rfl, rfl, rfl⟩
  case round =>
    obtain ⟨k, hk, rfl, rfl, rfl, hno, rfl⟩ := hrel
    have hno' := Lib.hid hno
    clear hno
    by_cases hlt : k < cur.length
    · obtain ⟨x, hx⟩ : ∃ x, x = cur.getD k ByteArray.empty := ⟨_, rfl⟩
      have hcx : w.cell? ⟨g, k, none⟩ = some (.string x) := by rw [hx]; exact hcur'.out.cell k hlt
      have htk : cur.take (k + 1) = cur.take k ++ [x] := by rw [hx, List.take_succ_eq_append_getElem hlt, List.getD_eq_getElem?_getD, List.getElem?_eq_getElem hlt]; rfl
      clear hx
      cases hrec0 : isRec x with
      | false =>
        have hno1 := Lib.hid (show (cur.take (k + 1)).any isRec = false by rw [htk, List.any_append, hno'.out]; simp [hrec0])
        have hrec : (x.toList == [92, 82, 101, 99, 101, 110, 116]) = false := hrec0
        clear htk hrec0
        go_wp2
        exact ⟨⟨k + 1, by omega, by go_num, rfl, rfl, hno1.out, trivial⟩, by simp [intOf]; omega⟩
      | true =>
        have hrec : (x.toList == [92, 82, 101, 99, 101, 110, 116]) = true := hrec0
        clear htk hrec0
        go_wp2_with (first | (at_builtin; refine wpList_append_one _ rfl _ _ 22 rfl Try.underlying22 base g cap [] _ rfl rfl (hrow0.out.alloc _) ⟨w.heap.size, 0, none⟩ recentF rfl (cell_one _ _ _) (by simp) (by simp; omega) ?_; intro g3 cap3 w3 hrow3 hgrow3) | go_in)
        have hfl3 := Lib.hid (keep_row (hfl'.out.alloc (.cells #[.string recentF] 9)) hgrow3 (by have := hfl'.out.lt.2; simp; omega) hne'.out)
        have hne3 := Lib.hid (keep_ne (by have := hfl'.out.lt.2; simp; omega) hgrow3 hne'.out)
        have hb3 := Lib.hid (keep_below ((Below.refl base w).alloc hbase (.cells #[.string recentF] 9)) hgrow3 (by simp; omega) hrow0.out.lt.1)
        have hrow3' := Lib.hid hrow3
        clear hgrow3 hrow3
        go_loopw [7, 8, 43] (fun v hb i wr => ∃ (j : Nat) (b : Bool) (acc : List ByteArray) (g' cap' : Nat), j ≤ fl.length ∧ i = .int .i64 j ∧ hb = .bool b ∧ v = .slice (some ⟨g', 0, none⟩) acc.length cap' ∧ RowS wr base g' cap' acc ∧ RowS wr base gf capf fl ∧ g' ≠ gf ∧ acc.length ≤ j + 1 ∧ setFold b acc (fl.drop j) = R ∧ Below base w wr) (fun _ _ i _ => fl.length - (intOf i).toNat)
        case atStart => exact ⟨0, true, [recentF], g3, cap3, Nat.zero_le _, rfl, rfl, rfl, hrow3'.out, hfl3.out, hne3.out, by simp, hR0.out, hb3.out⟩
        case round =>
          obtain ⟨j, b, acc, g', cap', hj, rfl, rfl, rfl, hacc, hfl, hne, hal, hR, hbel⟩ := hrel
          by_cases hlt : j < fl.length
          · obtain ⟨x, hx⟩ : ∃ x, x = fl.getD j ByteArray.empty := ⟨_, rfl⟩
            have hcx : wr.cell? ⟨gf, j, none⟩ = some (.string x) := by rw [hx]; exact hfl.cell j hlt
            have hdr : fl.drop j = x :: fl.drop (j + 1) := by rw [hx]; exact drop_getD fl j hlt
            rw [hdr, setFold] at hR
            have hacc' := Lib.hid hacc
            have hfl' := Lib.hid hfl
            have hbel' := Lib.hid hbel
            have hbs := hbel.size
            have hne' := Lib.hid hne
            clear hacc hfl hbel hx hdr hne
            cases hrec : isRec x with
            | true =>
              rw [hrec, if_pos rfl] at hR
              have hrec' : (x.toList == [92, 82, 101, 99, 101, 110, 116]) = true := hrec
              clear hrec
              cases b with
              | true =>
                rw [if_pos rfl] at hR
                have hR' := Lib.hid hR
                clear hR
                go_wp2
                exact ⟨⟨j + 1, true, acc, g', cap', by omega, by go_num, rfl, rfl, hacc'.out, hfl'.out, hne'.out, by omega, hR'.out, hbel'.out⟩, by simp [intOf]; omega⟩
              | false =>
                rw [if_neg Bool.false_ne_true] at hR
                have hR' := Lib.hid hR
                clear hR
                go_wp2_with (first | (at_builtin; refine wpList_append_one _ rfl _ _ 22 rfl Try.underlying22 base g' cap' acc _ rfl rfl (hacc'.out.alloc _) ⟨wr.heap.size, 0, none⟩ x rfl (cell_one _ _ _) (by omega) (by simp; omega) ?_; intro g2 cap2 w1 hrow1 hgrow1) | go_in)
                exact ⟨⟨j + 1, true, acc ++ [x], g2, cap2, by omega, by go_num, rfl, by simp, hrow1, keep_row (hfl'.out.alloc _) hgrow1 (by have := hfl'.out.lt.2; simp; omega) hne'.out, keep_ne (by have := hfl'.out.lt.2; simp; omega) hgrow1 hne'.out, by simp; omega, hR'.out, keep_below (hbel'.out.alloc (by omega) _) hgrow1 (by simp; omega) hacc'.out.lt.1⟩, by simp [intOf]; omega⟩
            | false =>
              rw [hrec, if_neg Bool.false_ne_true] at hR
              have hR' := Lib.hid hR
              have hrec' : (x.toList == [92, 82, 101, 99, 101, 110, 116]) = false := hrec
              clear hrec hR
              go_wp2_with (first | (at_builtin; refine wpList_append_one _ rfl _ _ 22 rfl Try.underlying22 base g' cap' acc _ rfl rfl (hacc'.out.alloc _) ⟨wr.heap.size, 0, none⟩ x rfl (cell_one _ _ _) (by omega) (by simp; omega) ?_; intro g2 cap2 w1 hrow1 hgrow1) | go_in)
              exact ⟨⟨j + 1, b, acc ++ [x], g2, cap2, by omega, by go_num, rfl, by simp, hrow1, keep_row (hfl'.out.alloc _) hgrow1 (by have := hfl'.out.lt.2; simp; omega) hne'.out, keep_ne (by have := hfl'.out.lt.2; simp; omega) hgrow1 hne'.out, by simp; omega, hR'.out, keep_below (hbel'.out.alloc (by omega) _) hgrow1 (by simp; omega) hacc'.out.lt.1⟩, by simp [intOf]; omega⟩
          · have hj' : j = fl.length := by omega
            rw [hj', List.drop_length, setFold] at hR
            subst hR
            go_wp2
            go_ret
            exact ⟨_, _, rfl, hacc, hbel⟩

    · exfalso
      have e : cur.take k = cur := List.take_of_length_le (by omega)
      have := hno'.out
      rw [e, hrc'.out] at this
      cases this
end Go.Proofs.Ytnokeaiemiiicaa.Own
