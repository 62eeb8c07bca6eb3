/- gosmtp's parser: peekByte, readByte, acceptByte, expectByte, by hand. strings.Builder's writers: the shelf's contracts, laid over the closure of strings.ToUpper (the shelf's tool does not lay them here: the refused end of copyCheck names no type). gosmtp's parser: parseLocalPart, by hand, of a local part that is one. gosmtp's parser: parseLocalPart, by hand, of a local part without quotes. (Written by wip/gen_locd.py.) gosmtp's parser: parseMailbox and parsePath, by hand, of a mailbox that is one. gosmtp's parser: parsePath and parseReversePath, by hand, of a path that is one. gosmtp.cutPrefixFold and errSyntax by hand. A map of texts by texts, as a list of pairs. No law of the program is proved here. -/
import Derived.Test.YtldiamldbpobgaaGreatDoorOne
import Derived.Test.YtldiamldbpobgaaGreatDoorShelf
import Derived.Test.YtldiamldbpobgaaGreatDoorSpecial
import Derived.Lib.OthersKept
import Derived.Maps.OwnSet
import Derived.Maps.StringElems
import Derived.Maps.RangeWalk
import Derived.Sort.KeysCollected
namespace Go.Proofs.YtldiamldbpobgaaGreatDoor.Own
open Go.RowKit Go.Lib
set_option linter.unusedVariables false
set_option linter.unusedSimpArgs false

/-- Block p is a parser with l still to read. -/
def Par (w : World) (p : Nat) (l : List UInt8) : Prop := One w p 49 (.string ⟨l.toArray⟩)
theorem peek_nil (w : World) (p : Nat) (h : Par w p []) :
    Calls Tryz.prog 51 #[.pointer (some ⟨p, 0, none⟩)] w fun e w' => e = .returned (.tuple #[.int .u8 0, .bool false]) ∧ w = w' := by
  have q := h.cell
  clear h
  go_enter Tryz.func51, Tryz.ntmps51
  go_wp2
  go_ret2
  exact ⟨rfl, rfl⟩
theorem peek_cons (w : World) (p : Nat) (c : UInt8) (t : List UInt8) (h : Par w p (c :: t)) :
    Calls Tryz.prog 51 #[.pointer (some ⟨p, 0, none⟩)] w fun e w' => e = .returned (.tuple #[.int .u8 (c.toNat : Int), .bool true]) ∧ w = w' := by
  have q := h.cell
  obtain ⟨S, hS⟩ : ∃ S : ByteArray, S = ⟨(c :: t).toArray⟩ := ⟨_, rfl⟩
  rw [← hS] at q
  have hz : ((S.size : Int) == 0) = false := by
    rw [beq_eq_false_iff_ne, hS]
    show (((t.length + 1 : Nat)) : Int) ≠ 0
    omega
  have h0 : (0 : Int) < (S.size : Int) := by
    rw [hS]
    show (0 : Int) < ((t.length + 1 : Nat) : Int)
    omega
  have hg : ∀ h, (S[0]'h : UInt8) = c := by
    subst hS
    intro h
    rfl
  have hS' := Lib.hid hS
  clear h hS
  go_enter Tryz.func51, Tryz.ntmps51
  go_wp2
  go_ret2
  exact ⟨rfl, rfl⟩
theorem read_nil (w : World) (p : Nat) (h : Par w p []) :
    Calls Tryz.prog 52 #[.pointer (some ⟨p, 0, none⟩)] w fun e w' => e = .returned (.tuple #[.int .u8 0, .bool false]) ∧ w = w' := by
  have hc := Lib.hid (peek_nil w p h)
  clear h
  go_enter Tryz.func52, Tryz.ntmps52
  go_wp2_with (go_at_call 51; refine hc.out.mono ?_; rintro e w1 ⟨rfl, rfl⟩)
  go_ret2
  exact ⟨rfl, rfl⟩
theorem read_cons (w : World) (p : Nat) (c : UInt8) (t : List UInt8) (h : Par w p (c :: t)) :
    Calls Tryz.prog 52 #[.pointer (some ⟨p, 0, none⟩)] w fun e w' => e = .returned (.tuple #[.int .u8 (c.toNat : Int), .bool true]) ∧ But p w w' ∧ Par w' p t := by
  have hc := Lib.hid (peek_cons w p c t h)
  have q := h.cell
  have f := h.free
  have hset := Lib.hid (fun v => One.set h v)
  obtain ⟨S, hS⟩ : ∃ S : ByteArray, S = ⟨(c :: t).toArray⟩ := ⟨_, rfl⟩
  rw [← hS] at q
  have h1 : (1 : Int) ≤ (S.size : Int) := by
    rw [hS]
    show (1 : Int) ≤ ((t.length + 1 : Nat) : Int)
    omega
  have hx : S.extract 1 S.size = ⟨t.toArray⟩ := by rw [hS]; exact tail_cons c t
  have hS' := Lib.hid hS
  clear h hS
  go_enter Tryz.func52, Tryz.ntmps52
  go_wp2_with (go_at_call 51; refine hc.out.mono ?_; rintro e w1 ⟨rfl, rfl⟩)
  go_ret2
  exact ⟨rfl, But.setCell p 0 _ _, hset.out _⟩
theorem accept_yes (w : World) (p : Nat) (c : UInt8) (t : List UInt8) (h : Par w p (c :: t)) :
    Calls Tryz.prog 31 #[.pointer (some ⟨p, 0, none⟩), .int .u8 (c.toNat : Int)] w fun e w' => e = .returned (.bool true) ∧ But p w w' ∧ Par w' p t := by
  have hc := Lib.hid (peek_cons w p c t h)
  have hr := Lib.hid (read_cons w p c t h)
  have hcc : ((c.toNat : Int) != (c.toNat : Int)) = false := by simp
  clear h
  go_enter Tryz.func31, Tryz.ntmps31
  go_wp2_with (first | (go_at_call 51; refine hc.out.mono ?_; rintro e w1 ⟨rfl, rfl⟩) | (go_at_call 52; refine hr.out.mono ?_; rintro e w2 ⟨rfl, hb, hp⟩))
  go_ret
  exact ⟨rfl, hb, hp⟩
theorem accept_no (w : World) (p : Nat) (a c : UInt8) (t : List UInt8) (h : Par w p (c :: t)) (hn : c ≠ a) :
    Calls Tryz.prog 31 #[.pointer (some ⟨p, 0, none⟩), .int .u8 (a.toNat : Int)] w fun e w' => e = .returned (.bool false) ∧ w = w' := by
  have hc := Lib.hid (peek_cons w p c t h)
  have hcc : ((c.toNat : Int) != (a.toNat : Int)) = true := by
    rw [bne_iff_ne]
    intro h0
    exact hn (UInt8.toNat_inj.1 (by omega))
  clear h
  go_enter Tryz.func31, Tryz.ntmps31
  go_wp2_with (go_at_call 51; refine hc.out.mono ?_; rintro e w1 ⟨rfl, rfl⟩)
  go_ret
  exact ⟨rfl, rfl⟩
theorem expect_yes (w : World) (p : Nat) (c : UInt8) (t : List UInt8) (h : Par w p (c :: t)) :
    Calls Tryz.prog 35 #[.pointer (some ⟨p, 0, none⟩), .int .u8 (c.toNat : Int)] w fun e w' => e = .returned .nilIface ∧ But p w w' ∧ Par w' p t := by
  have hc := Lib.hid (accept_yes w p c t h)
  clear h
  go_enter Tryz.func35, Tryz.ntmps35
  go_wp2_with (go_at_call 31; refine hc.out.mono ?_; rintro e w1 ⟨rfl, hb, hp⟩)
  go_ret
  exact ⟨rfl, hb, hp⟩
end Go.Proofs.YtldiamldbpobgaaGreatDoor.Own

namespace Go.Proofs.YtldiamldbpobgaaGreatDoor.Own
open Go.RowKit
set_option linter.unusedVariables false

theorem bld_rune (B b : Nat) (bs : List Value) (r : Int) (hr0 : -2147483648 ≤ r) (hr1 : r ≤ 2147483647) (w : World) (h : Lib.IsBuilderF 100 5 B b bs w) (hlen : bs.length + 4 ≤ 140737488355328) (hBw : B ≤ w.heap.size) :
    Calls Tryz.prog 97 #[.pointer (some ⟨b, 0, none⟩), .int .i32 r] w fun e w' => e = .returned (.tuple #[.int .i64 (Lib.runeCells r).length, .nilIface]) ∧ (Lib.BuilderAtF 100 5 B b (.pointer (some ⟨b, 0, none⟩)) (bs ++ Lib.runeCells r) w' ∧ Below B w w' ∧ Lib.OthersKept 5 (some b) w w') :=
  Any.Builder_WriteRune_k { Tryz.lays158 with } Tryz.Builder_Extra_158 B b bs r hr0 hr1 w h hlen hBw
theorem bld_str (B b : Nat) (bs : List Value) (s : ByteArray) (w : World) (h : Lib.IsBuilderF 100 5 B b bs w) (hlen : bs.length + s.size ≤ 140737488355328) (hBw : B ≤ w.heap.size) :
    Calls Tryz.prog 55 #[.pointer (some ⟨b, 0, none⟩), .string s] w fun e w' => e = .returned (.tuple #[.int .i64 s.size, .nilIface]) ∧ (Lib.BuilderAtF 100 5 B b (.pointer (some ⟨b, 0, none⟩)) (bs ++ Lib.strCells s) w' ∧ Below B w w' ∧ Lib.OthersKept 5 (some b) w w') :=
  Any.Builder_WriteString_k { Tryz.lays158 with } Tryz.Builder_Extra_158 B b bs s w h hlen hBw
theorem bld_byte (B b : Nat) (bs : List Value) (c : Int) (w : World) (h : Lib.IsBuilderF 100 5 B b bs w) (hlen : bs.length + 1 ≤ 140737488355328) (hBw : B ≤ w.heap.size) :
    Calls Tryz.prog 56 #[.pointer (some ⟨b, 0, none⟩), .int .u8 c] w fun e w' => e = .returned .nilIface ∧ (Lib.BuilderAtF 100 5 B b (.pointer (some ⟨b, 0, none⟩)) (bs ++ [.int .u8 c]) w' ∧ Below B w w' ∧ Lib.OthersKept 5 (some b) w w') :=
  Any.Builder_WriteByte_k { Tryz.lays158 with } Tryz.Builder_Extra_158 B b bs c w h hlen hBw
end Go.Proofs.YtldiamldbpobgaaGreatDoor.Own

namespace Go.Proofs.YtldiamldbpobgaaGreatDoor.Own
open Go.RowKit Go.Lib
set_option linter.unusedVariables false
set_option linter.unusedSimpArgs false

theorem bld_but {T e : TypeId} {B b p : Nat} {bs : List Value} {W W' : World} (h : Lib.IsBuilderF T e B b bs W) (hb : But p W W') (hp : p < B) : Lib.IsBuilderF T e B b bs W' := by
  have g : ∀ {q : Value}, Lib.BuilderAtF T e B b q bs W → Lib.BuilderAtF T e B b q bs W' := fun {q} h => by
    have hlt := h.lt
    obtain ⟨hB, v, hv, hown, hne⟩ := h
    refine ⟨hB, v, (hb.2.2.2.2 b hlt (by omega)).trans hv, hown.kept (row := some p) ⟨hb.1, hb.2.1, hb.2.2.1, hb.2.2.2.1, fun k hk hn => hb.2.2.2.2 k hk (fun h => hn (by rw [h]))⟩ (.inr fun h0 => ?_), hne⟩
    have := (hown.lt p h0).1
    omega
  exact h.elim (fun x => .inl (g x)) (fun x => .inr (g x))
theorem But.step {p B : Nat} {w W W' : World} (h : But p w W) (hb : Below B W W') (hB : w.heap.size ≤ B) : But p w W' :=
  ⟨hb.os.trans h.1, hb.tape.trans h.2.1, hb.output.trans h.2.2.1, Nat.le_trans h.2.2.2.1 hb.size, fun k hk hn => (hb.block k (by omega)).trans (h.2.2.2.2 k hk hn)⟩
theorem bld_new (w : World) : Lib.IsBuilderF 100 5 w.heap.size w.heap.size [] (w.alloc (.cells #[.pointer none, .slice none 0 0] 100)) :=
  .inl ⟨Nat.le_refl _, .slice none 0 0, heap_alloc_new _ _, World.ownsRowF_nil _ _ _ _, by simp [Value.ownBlock]⟩
def parLen (w : World) (p : Nat) : Nat := match w.cell? ⟨p, 0, none⟩ with | some (.string s) => s.size | _ => 0
theorem Par.len {w : World} {p : Nat} {l : List UInt8} (h : Par w p l) : parLen w p = l.length := by
  unfold parLen; rw [One.cell h]; rfl
theorem cells_more (d : List UInt8) (c : UInt8) : Lib.byteCells d ++ [.int .u8 (c.toNat : Int)] = Lib.byteCells (d ++ [c]) := by
  rw [Lib.byteCells_append]; rfl

/-- What a quoted text holds, behind its first quote; and what is behind its last. -/
def quo : List UInt8 → Option (List UInt8 × List UInt8)
  | [] => none
  | [c] => if c = 34 then some ([], []) else none
  | c :: d :: t => if c = 34 then some ([], d :: t) else if c = 92 then (quo t).map (fun p => (d :: p.1, p.2)) else (quo (d :: t)).map (fun p => (c :: p.1, p.2))
theorem quo_end (t : List UInt8) : quo (34 :: t) = some ([], t) := by
  cases t with
  | nil => rw [quo, if_pos rfl]
  | cons d t => rw [quo, if_pos rfl]
theorem quo_esc (d : UInt8) (t : List UInt8) : quo (92 :: d :: t) = (quo t).map (fun p => (d :: p.1, p.2)) := by
  rw [quo, if_neg (by decide), if_pos rfl]
theorem quo_one (c : UInt8) (t : List UInt8) (h1 : c ≠ 34) (h2 : c ≠ 92) : quo (c :: t) = (quo t).map (fun p => (c :: p.1, p.2)) := by
  cases t with
  | nil => simp [quo, h1]
  | cons d t => rw [quo, if_neg h1, if_neg h2]
def Linv (w wr : World) (p : Nat) (loc rest : List UInt8) : Prop :=
  ∃ l done, Par wr p l ∧ Lib.IsBuilderF 100 5 w.heap.size w.heap.size (Lib.byteCells done) wr ∧ But p w wr ∧ done.length + l.length ≤ 100000 ∧ (quo l).map (fun q => (done ++ q.1, q.2)) = some (loc, rest)
theorem quo_cons {l done loc rest : List UInt8} (h : (quo l).map (fun q => (done ++ q.1, q.2)) = some (loc, rest)) : ∃ c t, l = c :: t := by
  cases l with
  | nil => rw [quo] at h; cases h
  | cons c t => exact ⟨c, t, rfl⟩
set_option maxHeartbeats 4000000 in
set_option maxRecDepth 100000 in
theorem loc_quo (w : World) (p : Nat) (t loc rest : List UInt8) (h : Par w p (34 :: t)) (hl : t.length ≤ 90000) (hq : quo t = some (loc, rest)) :
    Calls Tryz.prog 54 #[.pointer (some ⟨p, 0, none⟩)] w fun e w' => e = .returned (.tuple #[.string ⟨loc.toArray⟩, .nilIface]) ∧ But p w w' ∧ Par w' p rest := by
  have hpw : p < w.heap.size := h.lt
  have hP1 : Par (w.alloc (.cells #[.pointer none, .slice none 0 0] 100)) p (34 :: t) := One.below h ((Below.refl _ w).alloc (Nat.le_refl _) _) hpw
  have hB1 := bld_new w
  have hA := Lib.hid (accept_yes _ p 34 t hP1)
  have hb0 : But p w (w.alloc (.cells #[.pointer none, .slice none 0 0] 100)) := But.of_below ((Below.refl _ w).alloc (Nat.le_refl _) _) (Nat.le_refl _)
  clear h hP1
  go_enter Tryz.func54, Tryz.ntmps54
  go_wp2_with (go_at_call 31; refine hA.out.mono ?_; rintro e w1 ⟨rfl, hbA, hpA⟩)
  have hI : Linv w w1 p loc rest := ⟨t, [], hpA, bld_but hB1 hbA hpw, hb0.trans hbA, by simp; omega, by rw [hq]; rfl⟩
  clear hbA hpA hB1 hb0 hA
  go_loopw [5, 6] (fun _ _ wr => Linv w wr p loc rest) (fun _ _ wr => parLen wr p)
  case atStart => exact hI
  case round =>
    obtain ⟨wx, rfl⟩ : ∃ wx : World, wx = wr := ⟨_, rfl⟩
    obtain ⟨l, done, hp, hB, hb, hln, hQ⟩ := hrel
    obtain ⟨c, t2, rfl⟩ := quo_cons hQ
    have hm := Lib.hid hp.len
    have hr := Lib.hid (read_cons wx p c t2 hp)
    by_cases h34 : c = 34
    · subst h34
      rw [quo_end] at hQ
      have hres : done = loc ∧ t2 = rest := by simpa using hQ
      obtain ⟨rfl, rfl⟩ := hres
      have hB' := Lib.hid hB
      have hb' := Lib.hid hb
      clear hQ hp hB hb
      go_wp2_with (first | (go_at_call 52; refine hr.out.mono ?_; rintro e w2 ⟨rfl, hb2, hp2⟩) | (go_at_call 58; refine (Tryz.Builder_String_any_k w.heap.size w.heap.size done w2 (bld_but hB'.out hb2 hpw) (Nat.le_trans hb'.out.2.2.2.1 hb2.2.2.2.1)).mono ?_; rintro e w3 ⟨rfl, hB3, hb3, ho3⟩))
      go_ret2
      exact ⟨rfl, (hb'.out.trans hb2).step hb3 (Nat.le_refl _), One.below hp2 hb3 hpw⟩
    · have hc34 : ((c.toNat : Int) == 34) = false := by
        rw [beq_eq_false_iff_ne]; intro h0; exact h34 (UInt8.toNat_inj.1 (by show c.toNat = 34; omega))
      by_cases h92 : c = 92
      · subst h92
        have ht2 : ∃ d t3, t2 = d :: t3 := by
          cases t2 with
          | nil => simp [quo] at hQ
          | cons d t3 => exact ⟨d, t3, rfl⟩
        obtain ⟨d, t3, rfl⟩ := ht2
        rw [quo_esc] at hQ
        have hQ' : Hid ((quo t3).map (fun q => ((done ++ [d]) ++ q.1, q.2)) = some (loc, rest)) := Lib.hid (by
          rw [← hQ, Option.map_map]
          congr 1
          funext q
          simp)
        have hB' := Lib.hid hB
        have hb' := Lib.hid hb
        have hln' : Hid (done.length + (92 :: d :: t3).length ≤ 100000) := Lib.hid hln
        clear hQ hp hB hb hln
        go_wp2_with (first | (go_at_call 52; refine (read_cons w2 p d t3 hp2).mono ?_; rintro e w3 ⟨rfl, hb3, hp3⟩) | (go_at_call 52; refine hr.out.mono ?_; rintro e w2 ⟨rfl, hb2, hp2⟩) | (go_at_call 56; refine (bld_byte w.heap.size w.heap.size _ (d.toNat : Int) w3 (bld_but (bld_but hB'.out hb2 hpw) hb3 hpw) (by rw [Lib.byteCells_length]; have := hln'.out; omega) (Nat.le_trans hb'.out.2.2.2.1 (Nat.le_trans hb2.2.2.2.1 hb3.2.2.2.1))).mono ?_; rintro e w4 ⟨rfl, hB4, hb4, ho4⟩))
        have hp4 : Par w4 p t3 := One.below hp3 hb4 hpw
        refine ⟨⟨t3, done ++ [d], hp4, ?_, ((hb'.out.trans hb2).trans hb3).step hb4 (Nat.le_refl _), by have := hln'.out; simp at this ⊢; omega, hQ'.out⟩, ?_⟩
        · rw [cells_more] at hB4
          exact .inr hB4
        · rw [hp4.len, hm.out]; simp; omega
      · have hc92 : ((c.toNat : Int) == 92) = false := by
          rw [beq_eq_false_iff_ne]; intro h0; exact h92 (UInt8.toNat_inj.1 (by show c.toNat = 92; omega))
        rw [quo_one c t2 h34 h92] at hQ
        have hQ' : Hid ((quo t2).map (fun q => ((done ++ [c]) ++ q.1, q.2)) = some (loc, rest)) := Lib.hid (by
          rw [← hQ, Option.map_map]
          congr 1
          funext q
          simp)
        have hB' := Lib.hid hB
        have hb' := Lib.hid hb
        have hln' : Hid (done.length + (c :: t2).length ≤ 100000) := Lib.hid hln
        clear hQ hp hB hb hln h34 h92
        go_wp2_with (first | (go_at_call 52; refine hr.out.mono ?_; rintro e w2 ⟨rfl, hb2, hp2⟩) | (go_at_call 56; refine (bld_byte w.heap.size w.heap.size _ (c.toNat : Int) w2 (bld_but hB'.out hb2 hpw) (by rw [Lib.byteCells_length]; have := hln'.out; omega) (Nat.le_trans hb'.out.2.2.2.1 hb2.2.2.2.1)).mono ?_; rintro e w4 ⟨rfl, hB4, hb4, ho4⟩))
        have hp4 : Par w4 p t2 := One.below hp2 hb4 hpw
        refine ⟨⟨t2, done ++ [c], hp4, ?_, (hb'.out.trans hb2).step hb4 (Nat.le_refl _), by have := hln'.out; simp at this ⊢; omega, hQ'.out⟩, ?_⟩
        · rw [cells_more] at hB4
          exact .inr hB4
        · rw [hp4.len, hm.out]; simp
end Go.Proofs.YtldiamldbpobgaaGreatDoor.Own

namespace Go.Proofs.YtldiamldbpobgaaGreatDoor.Own
open Go.RowKit Go.Lib
set_option linter.unusedVariables false
set_option linter.unusedSimpArgs false

/-- A sign of a local part without quotes. -/
def dotB (c : UInt8) : Bool := c != 64 && !specB (c.toNat : Int)
theorem dotB_ne {c : UInt8} (h : dotB c = true) : c ≠ 64 ∧ (c.toNat : Int) ≠ 40 ∧ (c.toNat : Int) ≠ 41 ∧ (c.toNat : Int) ≠ 60 ∧ (c.toNat : Int) ≠ 62 ∧ (c.toNat : Int) ≠ 91 ∧ (c.toNat : Int) ≠ 93 ∧ (c.toNat : Int) ≠ 58 ∧ (c.toNat : Int) ≠ 59 ∧ (c.toNat : Int) ≠ 92 ∧ (c.toNat : Int) ≠ 44 ∧ (c.toNat : Int) ≠ 34 ∧ (c.toNat : Int) ≠ 32 ∧ (c.toNat : Int) ≠ 9 := by
  unfold dotB at h
  rw [Bool.and_eq_true, bne_iff_ne] at h
  refine ⟨h.1, ?_⟩
  have h2 : specB (c.toNat : Int) = false := by simpa using h.2
  have hh : ∀ x ∈ spZ, (c.toNat : Int) ≠ x := by
    intro x hx h0
    unfold specB at h2
    rw [h0] at h2
    have := List.contains_iff_mem.2 hx
    rw [this] at h2
    cases h2
  exact ⟨hh 40 (by simp [spZ]), hh 41 (by simp [spZ]), hh 60 (by simp [spZ]), hh 62 (by simp [spZ]), hh 91 (by simp [spZ]), hh 93 (by simp [spZ]), hh 58 (by simp [spZ]), hh 59 (by simp [spZ]), hh 92 (by simp [spZ]), hh 44 (by simp [spZ]), hh 34 (by simp [spZ]), hh 32 (by simp [spZ]), hh 9 (by simp [spZ])⟩
def Dinv (w wr : World) (p : Nat) (loc rest : List UInt8) : Prop :=
  ∃ todo done, Par wr p (todo ++ 64 :: rest) ∧ loc = done ++ todo ∧ Lib.IsBuilderF 100 5 w.heap.size w.heap.size (Lib.byteCells done) wr ∧ But p w wr
set_option maxHeartbeats 4000000 in
set_option maxRecDepth 100000 in
theorem loc_dot (w : World) (p : Nat) (loc rest : List UInt8) (h : Par w p (loc ++ 64 :: rest)) (hl : loc.length ≤ 90000) (hq : ∀ c ∈ loc, dotB c = true) :
    Calls Tryz.prog 54 #[.pointer (some ⟨p, 0, none⟩)] w fun e w' => e = .returned (.tuple #[.string ⟨loc.toArray⟩, .nilIface]) ∧ But p w w' ∧ Par w' p (64 :: rest) := by
  have hpw : p < w.heap.size := h.lt
  have hP1 : Par (w.alloc (.cells #[.pointer none, .slice none 0 0] 100)) p (loc ++ 64 :: rest) := One.below h ((Below.refl _ w).alloc (Nat.le_refl _) _) hpw
  have hB1 := bld_new w
  have hA : Hid (Calls Tryz.prog 31 #[.pointer (some ⟨p, 0, none⟩), .int .u8 34] (w.alloc (.cells #[.pointer none, .slice none 0 0] 100)) fun e w' => e = .returned (.bool false) ∧ (w.alloc (.cells #[.pointer none, .slice none 0 0] 100)) = w') := by
    cases loc with
    | nil => exact Lib.hid (accept_no _ p 34 64 rest hP1 (by decide))
    | cons c t =>
      refine Lib.hid (accept_no _ p 34 c (t ++ 64 :: rest) hP1 ?_)
      intro h0
      have := (dotB_ne (hq c (by simp)))
      rw [h0] at this
      revert this
      decide
  have hb0 : But p w (w.alloc (.cells #[.pointer none, .slice none 0 0] 100)) := But.of_below ((Below.refl _ w).alloc (Nat.le_refl _) _) (Nat.le_refl _)
  have hq' := Lib.hid hq
  have hl' := Lib.hid hl
  have hI : Dinv w (w.alloc (.cells #[.pointer none, .slice none 0 0] 100)) p loc rest := ⟨loc, [], hP1, rfl, hB1, hb0⟩
  clear h hP1 hB1 hb0 hq hl
  go_enter Tryz.func54, Tryz.ntmps54
  go_wp2_with (go_at_call 31; refine hA.out.mono ?_; rintro e w1 ⟨rfl, rfl⟩)
  go_loopw [7, 8] (fun _ _ wr => Dinv w wr p loc rest) (fun _ _ wr => parLen wr p)
  case atStart => exact hI
  case round =>
    obtain ⟨wx, rfl⟩ : ∃ wx : World, wx = wr := ⟨_, rfl⟩
    obtain ⟨todo, done, hp, hld, hB, hb⟩ := hrel
    have hm := Lib.hid hp.len
    cases todo with
    | nil =>
      have hr := Lib.hid (peek_cons wx p 64 rest hp)
      have hlb : Hid (loc = done) := Lib.hid (by rw [hld, List.append_nil])
      have hB' := Lib.hid hB
      have hb' := Lib.hid hb
      have hp' := Lib.hid hp
      clear hp hB hb hld
      go_wp2_with (first | (go_at_call 51; refine hr.out.mono ?_; rintro e w2 ⟨rfl, rfl⟩) | (go_at_call 58; refine (Tryz.Builder_String_any_k w.heap.size w.heap.size done wx hB'.out hb'.out.2.2.2.1).mono ?_; rintro e w3 ⟨rfl, hB3, hb3, ho3⟩))
      go_ret2
      refine ⟨by rw [hlb.out]; rfl, hb'.out.step hb3 (Nat.le_refl _), One.below hp'.out hb3 hpw⟩
    | cons c todo =>
      have hr := Lib.hid (peek_cons wx p c (todo ++ 64 :: rest) hp)
      have hrr := Lib.hid (read_cons wx p c (todo ++ 64 :: rest) hp)
      obtain ⟨d64, d40, d41, d60, d62, d91, d93, d58, d59, d92, d44, d34, d32, d9⟩ := dotB_ne (hq'.out c (by rw [hld]; simp))
      have g64 : ((c.toNat : Int) == 64) = false := by
        rw [beq_eq_false_iff_ne]; intro h0; exact d64 (UInt8.toNat_inj.1 (by show c.toNat = 64; omega))
      have g40 : ((c.toNat : Int) == 40) = false := beq_eq_false_iff_ne.2 d40
      have g41 : ((c.toNat : Int) == 41) = false := beq_eq_false_iff_ne.2 d41
      have g60 : ((c.toNat : Int) == 60) = false := beq_eq_false_iff_ne.2 d60
      have g62 : ((c.toNat : Int) == 62) = false := beq_eq_false_iff_ne.2 d62
      have g91 : ((c.toNat : Int) == 91) = false := beq_eq_false_iff_ne.2 d91
      have g93 : ((c.toNat : Int) == 93) = false := beq_eq_false_iff_ne.2 d93
      have g58 : ((c.toNat : Int) == 58) = false := beq_eq_false_iff_ne.2 d58
      have g59 : ((c.toNat : Int) == 59) = false := beq_eq_false_iff_ne.2 d59
      have g92 : ((c.toNat : Int) == 92) = false := beq_eq_false_iff_ne.2 d92
      have g44 : ((c.toNat : Int) == 44) = false := beq_eq_false_iff_ne.2 d44
      have g34 : ((c.toNat : Int) == 34) = false := beq_eq_false_iff_ne.2 d34
      have g32 : ((c.toNat : Int) == 32) = false := beq_eq_false_iff_ne.2 d32
      have g9 : ((c.toNat : Int) == 9) = false := beq_eq_false_iff_ne.2 d9
      have hln' : Hid (done.length ≤ 90000) := Lib.hid (by have := hl'.out; rw [hld] at this; simp at this; omega)
      have hld' : Hid (loc = (done ++ [c]) ++ todo) := Lib.hid (by rw [hld]; simp)
      have hB' := Lib.hid hB
      have hb' := Lib.hid hb
      clear hp hB hb hld d64 d40 d41 d60 d62 d91 d93 d58 d59 d92 d44 d34 d32 d9
      go_wp2_with (first | (go_at_call 51; refine hr.out.mono ?_; rintro e w1 ⟨rfl, rfl⟩) | (go_at_call 52; refine hrr.out.mono ?_; rintro e w2 ⟨rfl, hb2, hp2⟩) | (go_at_call 56; refine (bld_byte w.heap.size w.heap.size _ (c.toNat : Int) w2 (bld_but hB'.out hb2 hpw) (by rw [Lib.byteCells_length]; have := hln'.out; omega) (Nat.le_trans hb'.out.2.2.2.1 hb2.2.2.2.1)).mono ?_; rintro e w4 ⟨rfl, hB4, hb4, ho4⟩))
      have hp4 : Par w4 p (todo ++ 64 :: rest) := One.below hp2 hb4 hpw
      refine ⟨⟨todo, done ++ [c], hp4, hld'.out, ?_, (hb'.out.trans hb2).step hb4 (Nat.le_refl _)⟩, ?_⟩
      · rw [cells_more] at hB4
        exact .inr hB4
      · rw [hp4.len, hm.out]; simp
end Go.Proofs.YtldiamldbpobgaaGreatDoor.Own

namespace Go.Proofs.YtldiamldbpobgaaGreatDoor.Own
open Go.RowKit Go.Lib
set_option linter.unusedVariables false
set_option linter.unusedSimpArgs false

def LocIs (l loc rest : List UInt8) : Prop := (∃ t, l = 34 :: t ∧ quo t = some (loc, rest)) ∨ (∃ t, rest = 64 :: t ∧ l = loc ++ 64 :: t ∧ ∀ c ∈ loc, dotB c = true)
theorem loc_any (w : World) (p : Nat) (l loc rest : List UInt8) (h : Par w p l) (hl : l.length ≤ 80000) (hq : LocIs l loc rest) :
    Calls Tryz.prog 54 #[.pointer (some ⟨p, 0, none⟩)] w fun e w' => e = .returned (.tuple #[.string ⟨loc.toArray⟩, .nilIface]) ∧ But p w w' ∧ Par w' p rest := by
  rcases hq with ⟨t, rfl, hq⟩ | ⟨t, rfl, rfl, hq⟩
  · exact loc_quo w p t loc rest h (by simp at hl; omega) hq
  · exact loc_dot w p loc t h (by simp at hl; omega) hq
def domB (c : UInt8) : Bool := c != 32 && c != 9 && c != 62 && c != 64
theorem domB_ne {c : UInt8} (h : domB c = true) : (c.toNat : Int) ≠ 32 ∧ (c.toNat : Int) ≠ 9 ∧ (c.toNat : Int) ≠ 62 ∧ c ≠ 64 := by
  unfold domB at h
  simp only [Bool.and_eq_true, bne_iff_ne] at h
  obtain ⟨⟨⟨h1, h2⟩, h3⟩, h4⟩ := h
  refine ⟨fun h0 => h1 (UInt8.toNat_inj.1 (by show c.toNat = 32; omega)), fun h0 => h2 (UInt8.toNat_inj.1 (by show c.toNat = 9; omega)), fun h0 => h3 (UInt8.toNat_inj.1 (by show c.toNat = 62; omega)), h4⟩
def Minv (w wr : World) (p B : Nat) (loc dom rest : List UInt8) : Prop :=
  ∃ todo done, Par wr p (todo ++ 62 :: rest) ∧ dom = done ++ todo ∧ Lib.IsBuilderF 100 5 B B (Lib.byteCells (loc ++ 64 :: done)) wr ∧ But p w wr ∧ B ≤ wr.heap.size
theorem no_at (loc dom : List UInt8) (hd : dom ≠ []) (h : ∀ c ∈ dom, c ≠ 64) : Lib.hasSuffix (⟨(loc ++ 64 :: dom).toArray⟩ : ByteArray).data.toList (⟨#[64]⟩ : ByteArray).data.toList = false := by
  rcases hS : Lib.hasSuffix (⟨(loc ++ 64 :: dom).toArray⟩ : ByteArray).data.toList (⟨#[64]⟩ : ByteArray).data.toList with _ | _
  · rfl
  · have h1 : [64] <:+ (loc ++ 64 :: dom) := List.isSuffixOf_iff_suffix.1 hS
    obtain ⟨pre, hp⟩ := h1
    have h2 := congrArg List.getLast? hp
    rw [List.getLast?_append, List.getLast?_append] at h2
    have h3 : (64 :: dom).getLast? = dom.getLast? := by
      cases dom with
      | nil => exact absurd rfl hd
      | cons a b => simp
    rw [h3, List.getLast?_eq_some_getLast hd] at h2
    simp at h2
    exact absurd h2.symm (h _ (List.getLast_mem hd))
set_option maxHeartbeats 4000000 in
set_option maxRecDepth 100000 in
theorem mbox_any (w : World) (p : Nat) (l loc dom rest : List UInt8) (h : Par w p l) (hl : l.length ≤ 40000) (hq : LocIs l loc (64 :: (dom ++ 62 :: rest))) (hloc : loc ≠ []) (hll : loc.length + dom.length ≤ 80000) (hdom : dom ≠ []) (hdb : ∀ c ∈ dom, domB c = true) :
    Calls Tryz.prog 34 #[.pointer (some ⟨p, 0, none⟩)] w fun e w' => e = .returned (.tuple #[.string ⟨(loc ++ 64 :: dom).toArray⟩, .nilIface]) ∧ But p w w' ∧ Par w' p (62 :: rest) := by
  have hpw : p < w.heap.size := h.lt
  have hL := Lib.hid (loc_any w p l loc _ h (by omega) hq)
  have hdb' := Lib.hid hdb
  have hll' := Lib.hid hll
  have hsuf := Lib.hid (no_at loc dom hdom (fun c hc => (domB_ne (hdb c hc)).2.2.2))
  obtain ⟨SL, hSL⟩ : ∃ S : ByteArray, S = ⟨loc.toArray⟩ := ⟨_, rfl⟩
  have hsl : SL.size = loc.length := by rw [hSL]; rfl
  have hemp : (SL.toList == []) = false := by
    rw [beq_eq_false_iff_ne, ByteArray.toList_eq, hSL]
    simpa using hloc
  rw [← hSL] at hL
  have hSL' := Lib.hid hSL
  clear h hq hSL hdb hll hdom hloc
  go_enter Tryz.func34, Tryz.ntmps34
  go_wp2_with (first | (go_at_call 54; refine hL.out.mono ?_; rintro e w1 ⟨rfl, hb1, hp1⟩) | (go_at_call 35; refine (expect_yes w1 p 64 _ hp1).mono ?_; rintro e w2 ⟨rfl, hb2, hp2⟩))
  have hpw2 : p < w2.heap.size := hp2.lt
  have hBn := bld_new w2
  have hsz := Lib.hid (Nat.le_trans hb1.2.2.2.1 hb2.2.2.2.1)
  have hpn : Par (w2.alloc (.cells #[.pointer none, .slice none 0 0] 100)) p (dom ++ 62 :: rest) := One.below hp2 ((Below.refl _ w2).alloc (Nat.le_refl _) _) hpw2
  have hbn : But p w (w2.alloc (.cells #[.pointer none, .slice none 0 0] 100)) := (hb1.trans hb2).step ((Below.refl _ w2).alloc (Nat.le_refl _) _) hsz.out
  obtain ⟨B, hB⟩ : ∃ B, B = w2.heap.size := ⟨_, rfl⟩
  have hBsz : B ≤ (w2.alloc (.cells #[.pointer none, .slice none 0 0] 100)).heap.size := by rw [hB]; simp
  obtain ⟨W3, hW3⟩ : ∃ W : World, W = w2.alloc (.cells #[.pointer none, .slice none 0 0] 100) := ⟨_, rfl⟩
  rw [← hB] at hBn hsz hpw2
  rw [← hW3] at hBn hpn hbn hBsz
  rw [← hB, ← hW3]
  have hll2 := hll'.out
  refine (bld_str B B [] SL W3 hBn (by simp; omega) hBsz).mono ?_
  rintro e w4 ⟨rfl, hB4, hb4, ho4⟩
  have hcl : [] ++ Lib.strCells SL = Lib.byteCells loc := by rw [hSL'.out]; simp [Lib.strCells, Lib.byteCells]
  rw [hcl] at hB4
  have hp4 : Par w4 p (dom ++ 62 :: rest) := One.below hpn hb4 hpw2
  have hbt4 : But p w w4 := hbn.step hb4 hsz.out
  have hs4 : B ≤ w4.heap.size := Nat.le_trans hBsz hb4.size
  clear hBn hpn hbn hBsz hW3 hb4 ho4 hb1 hb2 hp2 hp1 hB
  go_wp2_with (go_at_call 56; refine (bld_byte B B _ 64 w4 (.inr hB4) (by rw [Lib.byteCells_length]; omega) hs4).mono ?_; rintro e w5 ⟨rfl, hB5, hb5, ho5⟩)
  have hp5 : Par w5 p (dom ++ 62 :: rest) := One.below hp4 hb5 hpw2
  have h64 : Lib.byteCells loc ++ [.int .u8 64] = Lib.byteCells (loc ++ 64 :: []) := cells_more loc 64
  rw [h64] at hB5
  have hI : Minv w w5 p B loc dom rest := ⟨dom, [], hp5, rfl, .inr hB5, hbt4.step hb5 hsz.out, Nat.le_trans hs4 hb5.size⟩
  clear hB4 hp4 hbt4 hs4 hb5 ho5 hp5 h64 hB5
  obtain ⟨SM, hSM⟩ : ∃ S : ByteArray, S = ⟨(loc ++ 64 :: dom).toArray⟩ := ⟨_, rfl⟩
  have hSM' := Lib.hid hSM
  have hhs := Lib.hid (fun W => Tryz.strings_HasSuffix SM (⟨#[64]⟩ : ByteArray) W (by rw [hSM]; show (loc ++ 64 :: dom).length ≤ _; simp; omega))
  have hsuf2 : Lib.hasSuffix SM.data.toList (⟨#[64]⟩ : ByteArray).data.toList = false := by rw [hSM]; exact hsuf.out
  rw [hsuf2] at hhs
  clear hsuf2
  have hsg := Lib.hid (fun W (h : Lib.IsBuilderF 100 5 B B (Lib.byteCells (loc ++ 64 :: dom)) W) (hw : B ≤ W.heap.size) => Tryz.Builder_String_any_k B B (loc ++ 64 :: dom) W h hw)
  rw [← hSM] at hsg
  clear hSM
  go_loopw [8, 9] (fun _ _ wr => Minv w wr p B loc dom rest) (fun _ _ wr => parLen wr p)
  case atStart => exact hI
  case round =>
    obtain ⟨wx, rfl⟩ : ∃ wx : World, wx = wr := ⟨_, rfl⟩
    obtain ⟨todo, done, hp, hld, hB, hb, hs⟩ := hrel
    have hm := Lib.hid hp.len
    cases todo with
    | nil =>
      have hr := Lib.hid (peek_cons wx p 62 rest hp)
      have hlb : dom = done := by rw [hld, List.append_nil]
      subst hlb
      have hp' := Lib.hid hp
      have hb' := Lib.hid hb
      have hB' := Lib.hid hB
      have hs' := Lib.hid hs
      clear hp hb hB hs hld
      go_wp2_with (first | (go_at_call 51; refine hr.out.mono ?_; rintro e w2 ⟨rfl, rfl⟩) | (go_at_call 57; refine (hhs.out _).mono ?_; rintro e w7 ⟨rfl, rfl⟩) | (go_at_call 58; refine (hsg.out _ hB6 hs6).mono ?_; rintro e w8 ⟨rfl, hB8, hb8, ho8⟩) | (go_at_call 58; refine (hsg.out wx hB'.out hs'.out).mono ?_; rintro e w6 ⟨rfl, hB6, hb6, ho6⟩; have hs6 := Nat.le_trans hs'.out hb6.size))
      go_ret2
      refine ⟨by rw [hSM'.out]; rfl, (hb'.out.step hb6 hsz.out).step hb8 hsz.out, One.below (One.below hp'.out hb6 hpw2) hb8 hpw2⟩
    | cons c todo =>
      have hr := Lib.hid (peek_cons wx p c (todo ++ 62 :: rest) hp)
      have hrr := Lib.hid (read_cons wx p c (todo ++ 62 :: rest) hp)
      obtain ⟨d32, d9, d62, d64⟩ := domB_ne (hdb'.out c (by rw [hld]; simp))
      have g32 : ((c.toNat : Int) == 32) = false := beq_eq_false_iff_ne.2 d32
      have g9 : ((c.toNat : Int) == 9) = false := beq_eq_false_iff_ne.2 d9
      have g62 : ((c.toNat : Int) == 62) = false := beq_eq_false_iff_ne.2 d62
      have hln' : Hid (loc.length + done.length + 1 ≤ 80001) := Lib.hid (by rw [hld] at hll2; simp at hll2; omega)
      have hld' : Hid (dom = (done ++ [c]) ++ todo) := Lib.hid (by rw [hld]; simp)
      have hB' := Lib.hid hB
      have hb' := Lib.hid hb
      have hs' := Lib.hid hs
      clear hp hB hb hs hld d64 d32 d9 d62
      go_wp2_with (first | (go_at_call 51; refine hr.out.mono ?_; rintro e w1 ⟨rfl, rfl⟩) | (go_at_call 52; refine hrr.out.mono ?_; rintro e w2 ⟨rfl, hb2, hp2⟩) | (go_at_call 56; refine (bld_byte B B _ (c.toNat : Int) w2 (bld_but hB'.out hb2 hpw2) (by rw [Lib.byteCells_length]; have := hln'.out; simp; omega) (Nat.le_trans hs'.out hb2.2.2.2.1)).mono ?_; rintro e w4 ⟨rfl, hB4, hb4, ho4⟩))
      have hp4 : Par w4 p (todo ++ 62 :: rest) := One.below hp2 hb4 hpw2
      refine ⟨⟨todo, done ++ [c], hp4, hld'.out, ?_, (hb'.out.trans hb2).step hb4 hsz.out, Nat.le_trans (Nat.le_trans hs'.out hb2.2.2.2.1) hb4.size⟩, ?_⟩
      · rw [cells_more] at hB4
        have e : loc ++ 64 :: done ++ [c] = loc ++ 64 :: (done ++ [c]) := by simp
        rw [e] at hB4
        exact .inr hB4
      · rw [hp4.len, hm.out]; simp
end Go.Proofs.YtldiamldbpobgaaGreatDoor.Own

namespace Go.Proofs.YtldiamldbpobgaaGreatDoor.Own
open Go.RowKit Go.Lib
set_option linter.unusedVariables false
set_option linter.unusedSimpArgs false

/-- l is a mailbox and the bracket behind it: its local part, its domain, and what is behind. -/
structure MbIs (l loc dom rest : List UInt8) : Prop where
  lc : LocIs l loc (64 :: (dom ++ 62 :: rest))
  ne : loc ≠ []
  dne : dom ≠ []
  db : ∀ c ∈ dom, domB c = true
theorem MbIs.head {l loc dom rest : List UInt8} (h : MbIs l loc dom rest) : ∃ c t, l = c :: t ∧ c ≠ 64 ∧ c ≠ 62 := by
  rcases h.lc with ⟨t, rfl, hq⟩ | ⟨t, ht, rfl, hq⟩
  · exact ⟨34, t, rfl, by decide, by decide⟩
  · cases hloc : loc with
    | nil => exact absurd hloc h.ne
    | cons c u =>
      have hd := dotB_ne (hq c (by rw [hloc]; simp))
      refine ⟨c, u ++ 64 :: t, rfl, hd.1, ?_⟩
      intro h0
      have h1 : (c.toNat : Int) = 62 := by rw [h0]; rfl
      obtain ⟨_, _, _, _, h62, _⟩ := hd
      exact h62 h1
set_option maxHeartbeats 4000000 in
set_option maxRecDepth 100000 in
theorem path_any (w : World) (p : Nat) (l loc dom rest : List UInt8) (h : Par w p (60 :: l)) (hl : l.length ≤ 40000) (hll : loc.length + dom.length ≤ 80000) (hm : MbIs l loc dom rest) :
    Calls Tryz.prog 22 #[.pointer (some ⟨p, 0, none⟩)] w fun e w' => e = .returned (.tuple #[.string ⟨(loc ++ 64 :: dom).toArray⟩, .nilIface]) ∧ But p w w' ∧ Par w' p rest := by
  have h60 := Lib.hid (accept_yes w p 60 l h)
  obtain ⟨c, t, hc, hc64, _⟩ := hm.head
  have h64 := Lib.hid (fun W (hp : Par W p l) => accept_no W p 64 c t (by rw [← hc]; exact hp) hc64)
  have hmb := Lib.hid (fun W (hp : Par W p l) => mbox_any W p l loc dom rest hp hl hm.lc hm.ne hll hm.dne hm.db)
  have hex := Lib.hid (fun W (hp : Par W p (62 :: rest)) => expect_yes W p 62 rest hp)
  clear h hc hm
  go_enter Tryz.func22, Tryz.ntmps22
  go_wp2_with (first | (go_at_call 31; refine (h64.out _ hp1).mono ?_; rintro e w2 ⟨rfl, rfl⟩) | (go_at_call 31; refine h60.out.mono ?_; rintro e w1 ⟨rfl, hb1, hp1⟩) | (go_at_call 34; refine (hmb.out _ hp1).mono ?_; rintro e w3 ⟨rfl, hb3, hp3⟩) | (go_at_call 35; refine (hex.out _ hp3).mono ?_; rintro e w4 ⟨rfl, hb4, hp4⟩))
  go_ret2
  exact ⟨rfl, (hb1.trans hb3).trans hb4, hp4⟩
/-- '<>', the empty path. -/
theorem rpath_none (w : World) (p : Nat) (rest : List UInt8) (h : Par w p (60 :: 62 :: rest)) :
    Calls Tryz.prog 26 #[.pointer (some ⟨p, 0, none⟩)] w fun e w' => e = .returned (.tuple #[.string ⟨#[]⟩, .nilIface]) ∧ But p w w' ∧ Par w' p rest := by
  have q := h.cell
  have f := h.free
  have hset := Lib.hid (fun v => One.set h v)
  obtain ⟨S, hS⟩ : ∃ S : ByteArray, S = ⟨(60 :: 62 :: rest).toArray⟩ := ⟨_, rfl⟩
  have h1 := Lib.hid (fun W => Tryz.strings_HasPrefix S (⟨#[60, 62]⟩ : ByteArray) W)
  have h2 := Lib.hid (fun W => Tryz.strings_TrimPrefix S (⟨#[60, 62]⟩ : ByteArray) W)
  have e1 : Lib.hasPrefix S.data.toList (⟨#[60, 62]⟩ : ByteArray).data.toList = true := by rw [hS]; rfl
  have e2 : Lib.trimPrefix S.data.toList (⟨#[60, 62]⟩ : ByteArray).data.toList = rest := by rw [hS]; rfl
  rw [e1] at h1
  rw [e2] at h2
  rw [← hS] at q
  clear h hS e1 e2
  go_enter Tryz.func26, Tryz.ntmps26
  go_wp2_with (first | (go_at_call 44; refine (h1.out _).mono ?_; rintro e w1 ⟨rfl, rfl⟩) | (go_at_call 45; refine (h2.out _).mono ?_; rintro e w2 ⟨rfl, rfl⟩))
  go_ret2
  exact ⟨rfl, But.setCell p 0 _ _, hset.out _⟩
/-- A path that is not empty. -/
theorem rpath_some (w : World) (p : Nat) (l loc dom rest : List UInt8) (h : Par w p (60 :: l)) (hl : l.length ≤ 40000) (hll : loc.length + dom.length ≤ 80000) (hm : MbIs l loc dom rest) :
    Calls Tryz.prog 26 #[.pointer (some ⟨p, 0, none⟩)] w fun e w' => e = .returned (.tuple #[.string ⟨(loc ++ 64 :: dom).toArray⟩, .nilIface]) ∧ But p w w' ∧ Par w' p rest := by
  have q := h.cell
  have hp := Lib.hid (path_any w p l loc dom rest h hl hll hm)
  obtain ⟨c, t, hc, _, hc62⟩ := hm.head
  obtain ⟨S, hS⟩ : ∃ S : ByteArray, S = ⟨(60 :: l).toArray⟩ := ⟨_, rfl⟩
  have h1 := Lib.hid (fun W => Tryz.strings_HasPrefix S (⟨#[60, 62]⟩ : ByteArray) W)
  have e1 : Lib.hasPrefix S.data.toList (⟨#[60, 62]⟩ : ByteArray).data.toList = false := by
    rw [hS, hc]
    show List.isPrefixOf [60, 62] (60 :: c :: t) = false
    have : ((62 : UInt8) == c) = false := by rw [beq_eq_false_iff_ne]; exact fun h0 => hc62 h0.symm
    simp [List.isPrefixOf, this]
  rw [e1] at h1
  rw [← hS] at q
  clear h hS e1 hc hm
  go_enter Tryz.func26, Tryz.ntmps26
  go_wp2_with (first | (go_at_call 44; refine (h1.out _).mono ?_; rintro e w1 ⟨rfl, rfl⟩) | (go_at_call 22; refine hp.out.mono ?_; rintro e w2 ⟨rfl, hb2, hp2⟩))
  go_ret2
  exact ⟨rfl, hb2, hp2⟩
end Go.Proofs.YtldiamldbpobgaaGreatDoor.Own

namespace Go.Proofs.YtldiamldbpobgaaGreatDoor.Own
open Go.RowKit Go.Lib
set_option linter.unusedVariables false
set_option linter.unusedSimpArgs false

def Asci (l : List UInt8) : Prop := ∀ c ∈ l, c.toNat < 128
theorem Asci.at {l : List UInt8} (h : Asci l) : ∀ (j : Nat) (b : UInt8), l[j]? = some b → b.toNat < 128 := fun j b hj => h b (List.mem_of_getElem? hj)
/-- What stands behind a prefix, in any case. -/
def cutF (l pre : List UInt8) : Option (List UInt8) := if l.length < pre.length then none else if Lib.equalFold (l.take pre.length) pre = true then some (l.drop pre.length) else none
theorem ext_take (l : List UInt8) (n : Nat) (h : n ≤ l.length) : (⟨l.toArray⟩ : ByteArray).extract 0 n = ⟨(l.take n).toArray⟩ := by
  apply ByteArray.ext
  rw [ByteArray.data_extract]
  apply Array.ext'
  simp [Array.toList_extract, List.extract_eq_take_drop]
theorem ext_drop (l : List UInt8) (n : Nat) : (⟨l.toArray⟩ : ByteArray).extract n l.length = ⟨(l.drop n).toArray⟩ := by
  apply ByteArray.ext
  rw [ByteArray.data_extract]
  apply Array.ext'
  simp [Array.toList_extract, List.extract_eq_take_drop]
  exact List.take_of_length_le (by simp)
set_option maxHeartbeats 1000000 in
theorem fold_any (w : World) (l pre : List UInt8) (hl : l.length ≤ 100000) (hp : pre.length ≤ 100) (ha : Asci l) (hpa : Asci pre) :
    Calls Tryz.prog 19 #[.string ⟨l.toArray⟩, .string ⟨pre.toArray⟩] w fun e w' => (match cutF l pre with | some r => e = .returned (.tuple #[.string ⟨r.toArray⟩, .bool true]) | none => e = .returned (.tuple #[.string ⟨#[]⟩, .bool false])) ∧ w = w' := by
  obtain ⟨S, hS⟩ : ∃ S : ByteArray, S = ⟨l.toArray⟩ := ⟨_, rfl⟩
  obtain ⟨Q, hQ⟩ : ∃ S : ByteArray, S = ⟨pre.toArray⟩ := ⟨_, rfl⟩
  have hs : S.size = l.length := by rw [hS]; rfl
  have hq : Q.size = pre.length := by rw [hQ]; rfl
  rw [← hS, ← hQ]
  by_cases hlt : l.length < pre.length
  · have hc : cutF l pre = none := by unfold cutF; rw [if_pos hlt]
    rw [hc]
    have h1 : (S.size : Int) < (Q.size : Int) := by omega
    clear hc hlt hS hQ hs hq
    go_enter Tryz.func19, Tryz.ntmps19
    go_wp2
    go_ret2
    exact ⟨rfl, rfl⟩
  · have h1 : ¬ (S.size : Int) < (Q.size : Int) := by omega
    have hx : S.extract 0 Q.size = ⟨(l.take pre.length).toArray⟩ := by rw [hS, hq]; exact ext_take l _ (by omega)
    have hx2 : S.extract Q.size S.size = ⟨(l.drop pre.length).toArray⟩ := by rw [hS, hq]; exact ext_drop l _
    have hf := Lib.hid (Tryz.strings_EqualFold (⟨(l.take pre.length).toArray⟩ : ByteArray) Q w (by show (l.take pre.length).length < _; rw [List.length_take]; omega) (Asci.at (fun c hc => ha c (List.mem_of_mem_take hc))) (by rw [hQ]; exact Asci.at hpa))
    obtain ⟨S1, hS1⟩ : ∃ S : ByteArray, S = ⟨(l.take pre.length).toArray⟩ := ⟨_, rfl⟩
    obtain ⟨S2, hS2⟩ : ∃ S : ByteArray, S = ⟨(l.drop pre.length).toArray⟩ := ⟨_, rfl⟩
    have hQl : Q.data.toList = pre := by rw [hQ]
    rw [hQl] at hf
    rcases he : Lib.equalFold (l.take pre.length) pre with _ | _
    · have hc : cutF l pre = none := by unfold cutF; rw [if_neg hlt, he]; rfl
      rw [hc]
      have he2 : Lib.equalFold (⟨(l.take pre.length).toArray⟩ : ByteArray).data.toList pre = false := he
      rw [he2] at hf
      rw [← hS1] at hf hx
      clear he he2 hc hlt hS hQ hs hq hS1 hS2 hx2 hQl
      go_enter Tryz.func19, Tryz.ntmps19
      go_wp2_with (go_at_call 27; refine hf.out.mono ?_; rintro e w1 ⟨rfl, rfl⟩)
      go_ret2
      exact ⟨rfl, rfl⟩
    · have hc : cutF l pre = some (l.drop pre.length) := by unfold cutF; rw [if_neg hlt, he]; rfl
      rw [hc]
      have he2 : Lib.equalFold (⟨(l.take pre.length).toArray⟩ : ByteArray).data.toList pre = true := he
      rw [he2] at hf
      rw [← hS1] at hf hx
      have hS2' := Lib.hid hS2
      rw [← hS2] at hx2
      have hle : (Q.size : Int) ≤ (S.size : Int) := by omega
      clear he he2 hc hlt hS hQ hs hq hS1 hS2 hQl
      go_enter Tryz.func19, Tryz.ntmps19
      go_wp2_with (go_at_call 27; refine hf.out.mono ?_; rintro e w1 ⟨rfl, rfl⟩)
      go_ret2
      exact ⟨by rw [hS2'.out]; rfl, rfl⟩
theorem errSyn_any (w : World) : Calls Tryz.prog 20 #[] w fun e w' => (∃ t v, e = .returned (.iface t v)) ∧ Below w.heap.size w w' := by
  go_enter Tryz.func20, Tryz.ntmps20
  go_wp2
  go_ret
  exact ⟨⟨_, _, rfl⟩, (Below.refl _ _).alloc (Nat.le_refl _) _⟩
end Go.Proofs.YtldiamldbpobgaaGreatDoor.Own

namespace Go.Proofs.YtldiamldbpobgaaGreatDoor.Own
open Go.RowKit Go.Lib Go.Maps Go.WideMaps
set_option linter.unusedVariables false
set_option linter.unusedSimpArgs false

abbrev KV := List UInt8 × List UInt8
def ent (p : KV) : Lit × DataW Unit := (.string p.1, .lit (.string p.2))
/-- The map's datum D has just these pairs, in whatever order. -/
def Rep (D : DataW Unit) (al : List KV) : Prop := ∃ es, D = .map es ∧ es.Perm (al.map ent)
/-- A pair is put: of its key there is no other. -/
def putA (al : List KV) (p : KV) : List KV := p :: al.filter fun q => q.1 != p.1
theorem rep_nil : Rep (.map []) [] := ⟨[], rfl, List.Perm.nil⟩
theorem rep_put {D : DataW Unit} {al : List KV} (h : Rep D al) (k v : List UInt8) : Rep (D.put (.string k) (.lit (.string v))) (putA al (k, v)) := by
  obtain ⟨es, rfl, hp⟩ := h
  refine ⟨_, rfl, (Go.WideShapes.insert_perm _ _).trans ?_⟩
  show ((Lit.string k, DataW.lit (.string v)) :: _).Perm (ent (k, v) :: (al.filter fun q => q.1 != k).map ent)
  refine List.Perm.cons _ ?_
  refine (hp.filter _).trans ?_
  rw [List.filter_map]
  refine List.Perm.of_eq ?_
  congr 1
end Go.Proofs.YtldiamldbpobgaaGreatDoor.Own
