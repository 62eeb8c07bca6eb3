/- gosmtp.encodeXtext and impl.Xtext by hand, at texts whose bytes are all in 16..127. -/
import Derived.Test.YtoeggcckcnlllaaDoorXtEncP
import Derived.Test.YtoeggcckcnlllaaDoorBld
import Derived.Test.YtoeggcckcnlllaaDoorXtDec
import Derived.Test.YtoeggcckcnlllaaDoorFmt16
import Derived.Lib.OthersKept
import Derived.Lib.RuneBytes
namespace Go.Proofs.YtoeggcckcnlllaaDoor.Own
open Go.RowKit Go.Lib Go.Proofs.YtoeggcckcnlllaaDoorW.PrintWords
set_option linter.unusedVariables false
set_option linter.unusedSimpArgs false

theorem bld_below {T e : TypeId} {B b : Nat} {bs : List Value} {W W' : World} (h : Lib.IsBuilderF T e B b bs W) (hb : Below W.heap.size W W') : Lib.IsBuilderF T e B b bs W' := by
  have g : ∀ {p : Value}, Lib.BuilderAtF T e B b p bs W → Lib.BuilderAtF T e B b p bs W' := fun {p} h => by
    have hlt := h.lt
    obtain ⟨hB, v, hv, hown, hne⟩ := h
    exact ⟨hB, v, (hb.block b hlt).trans hv, hown.kept (row := none) ⟨hb.os, hb.tape, hb.output, hb.size, fun k hk _ => hb.block k hk⟩ (Classical.em _), hne⟩
  exact h.elim (fun x => .inl (g x)) (fun x => .inr (g x))
theorem low_up : ∀ n : Nat, n < 16 → Lib.upperB (lowH n) = hexU n ∧ (lowH n).toNat < 128 := by decide +kernel
theorem up_two (h l : Nat) (hh : h < 16) (hl : l < 16) (w : World) :
    Calls Tryd.prog 24 #[.string ⟨#[lowH h, lowH l]⟩] w fun e w' => e = .returned (.string ⟨#[hexU h, hexU l]⟩) ∧ Below w.heap.size w w' := by
  have h1 := Tryd.strings_ToUpper_ascii ⟨#[lowH h, lowH l]⟩ w (by show 2 ≤ _; omega) (fun j b hj => by
    have hm := List.mem_of_getElem? hj
    simp at hm
    rcases hm with rfl | rfl
    · exact (low_up h hh).2
    · exact (low_up l hl).2)
  have e1 : Lib.toUpperA (⟨#[lowH h, lowH l]⟩ : ByteArray).data.toList = [hexU h, hexU l] := by simp [Lib.toUpperA, (low_up h hh).1, (low_up l hl).1]
  rw [e1] at h1
  exact h1
theorem rune_one (c : UInt8) (h : c.toNat < 128) : Lib.runeCells (c.toNat : Int) = Lib.byteCells [c] := by
  rw [← Lib.byteCells_encodeRune]
  congr 1
  unfold Lib.encodeRune
  rw [Lib.encodeRuneZ_one (by omega) (by omega)]
  simp
theorem rune43 : Lib.runeCells 43 = Lib.byteCells [43] := by rfl
theorem xt_more {l : List UInt8} {pos : Nat} {c : UInt8} (hc : l[pos]? = some c) : xtL (l.take (pos + 1)) = xtL (l.take pos) ++ xt1 c := by
  rw [List.take_add_one, hc]
  simp [xtL]
theorem xt_room (l : List UInt8) (pos : Nat) (h : l.length ≤ 1000000) : (Lib.byteCells (xtL (l.take pos))).length ≤ 3000000 := by
  rw [Lib.byteCells_length]
  have h1 := xtL_len (l.take pos)
  rw [List.length_take] at h1
  omega
set_option maxHeartbeats 4000000 in
set_option maxRecDepth 100000 in
theorem enc_any (s : ByteArray) (hs : s.size ≤ 1000000) (hsure : SureL s.data.toList) (w : World) (htab : TabBr w) :
    Calls Tryd.prog 14 #[.string s] w fun e w' => e = .returned (.string ⟨(xtL s.data.toList).toArray⟩) ∧ Below w.heap.size w w' := by
  have hsz := Lib.hid (size_list s)
  replace htab := Lib.hid htab
  replace hsure := Lib.hid hsure
  have hG := Lib.hid (Tryd.Builder_Grow_fresh w.heap.size w.heap.size s.size (w.alloc (.cells #[.pointer none, .slice none 0 0] 45)) (Nat.le_refl _) (heap_alloc_new _ _) (by simp) (by omega))
  go_enter Tryd.func14, Tryd.ntmps14
  go_wp2_with fail
  refine hG.out.mono ?_
  rintro e w1 ⟨rfl, hB1, hb1⟩
  have hI1 := Lib.hid (Lib.IsBuilderF.of (.inr hB1))
  have hb1' := Lib.hid (((Below.refl w.heap.size w).alloc (Nat.le_refl _) (.cells #[.pointer none, .slice none 0 0] 45)).trans hb1)
  clear hB1 hb1 hG
  go_wp2_with fail
  have hk := Lib.hid (show w.heap.size < w1.heap.size from hI1.out.elim (fun h => h.lt) (fun h => h.lt))
  obtain ⟨K, hK⟩ : ∃ K, K = w1.heap.size := ⟨_, rfl⟩
  have hst : Hid (Lib.IsBuilderF 45 5 w.heap.size w.heap.size [] (w1.iter s 0) ∧ (w1.iter s 0).heap[K]? = some (.stringIter s 0) ∧ Below w.heap.size w (w1.iter s 0)) :=
    Lib.hid ⟨hI1.out.alloc _, by rw [hK]; exact World.iter_heap w1 s 0, hb1'.out.alloc (Nat.le_of_lt hk.out) _⟩
  rw [← hK] at hk ⊢
  clear hI1 hb1' hK
  go_loopw [] (fun wr => ∃ pos : Nat, pos ≤ s.size ∧ Hid (Lib.IsBuilderF 45 5 w.heap.size w.heap.size (Lib.byteCells (xtL (s.data.toList.take pos))) wr ∧ wr.heap[K]? = some (.stringIter s pos) ∧ Below w.heap.size w wr)) (fun wr => s.size - wr.iterPos K)
  case atStart => exact ⟨0, Nat.zero_le _, hst⟩
  case round =>
    obtain ⟨pos, hpos, hR⟩ := hrel
    rcases Nat.lt_or_ge pos s.size with hlt | hge
    · obtain ⟨c, hc⟩ : ∃ c, s.data.toList[pos]? = some c := ⟨_, List.getElem?_eq_getElem (by rw [← hsz.out]; exact hlt)⟩
      obtain ⟨hc16, hc128⟩ := hsure.out c (List.mem_of_getElem? hc)
      have hsc : s[pos]'hlt = c := by
        obtain ⟨_, h2⟩ := List.getElem?_eq_some_iff.1 hc
        rw [← h2]
        rfl
      obtain ⟨Z, hZ⟩ : ∃ Z : Int, Z = (c.toNat : Int) := ⟨_, rfl⟩
      have hnx : ∀ ty, (Instr.next (.pointer (some ⟨K, 0, none⟩)) true ty).run Tryd.prog wr = .ok (.tuple #[.bool true, .int .i64 pos, .int .i32 Z]) (wr.iterAt K s (pos + 1)) := fun ty => by
        rw [hZ, ← hsc]
        exact Lib.run_next_ascii_at wr K s pos ty hR.out.2.1 hlt (by rw [hsc]; exact hc128)
      have hm : wr.iterPos K = pos := by simp [World.iterPos, hR.out.2.1]
      have hm' := Lib.hid hm
      obtain ⟨W0, hW0⟩ : ∃ W0, wr.iterAt K s (pos + 1) = W0 := ⟨_, rfl⟩
      have hR0 := Lib.hid (show Lib.IsBuilderF 45 5 w.heap.size w.heap.size (Lib.byteCells (xtL (s.data.toList.take pos))) W0 ∧ W0.heap[K]? = some (.stringIter s (pos + 1)) ∧ Below w.heap.size w W0 from by
        rw [← hW0]
        exact ⟨hR.out.1.iterAt hR.out.2.1 _, Lib.iterAt_heap wr K s pos (pos + 1) hR.out.2.1, Lib.below_iterAt hR.out.2.2 (Nat.le_of_lt hk.out) s (pos + 1)⟩)
      rw [hW0] at hnx
      have hroom := Lib.hid (xt_room s.data.toList pos (by rw [← hsz.out]; exact hs))
      have hmore := Lib.hid (xt_more hc)
      have z0 : 16 ≤ Z := by omega
      have z1 : Z < 128 := by omega
      have hZ' := Lib.hid hZ
      clear hR hW0 hm hsc
      cases hp : plX c with
      | true =>
        have hp' : 33 ≤ c.toNat ∧ c.toNat ≤ 126 ∧ c.toNat ≠ 43 ∧ c.toNat ≠ 61 := of_decide_eq_true hp
        have g1 : 33 ≤ Z := by omega
        have g2 : Z ≤ 126 := by omega
        have g3 : (Z != 43) = true := bne_iff_ne.2 (by omega)
        have g4 : (Z != 61) = true := bne_iff_ne.2 (by omega)
        have hwr := Lib.hid (bld_rune w.heap.size w.heap.size _ Z (by omega) (by omega) W0 hR0.out.1 (by have := hroom.out; omega) hR0.out.2.2.size)
        have hx1 := Lib.hid (show xt1 c = [c] by unfold xt1; rw [if_pos hp])
        rw [hZ'.out, rune_one c hc128, ← hZ'.out] at hwr
        have hc128' := Lib.hid hc128
        clear hp' hp hZ hc hc16 hc128
        go_wp2_with fail
        refine hwr.out.mono ?_
        rintro e W1 ⟨rfl, h1, b1, k1⟩
        have hR1 := Lib.hid (show Lib.IsBuilderF 45 5 w.heap.size w.heap.size (Lib.byteCells (xtL (s.data.toList.take (pos + 1)))) W1 ∧ W1.heap[K]? = some (.stringIter s (pos + 1)) ∧ Below w.heap.size w W1 from
          ⟨by rw [hmore.out, hx1.out, Lib.byteCells_append]; exact .inr h1, k1.iter hR0.out.2.1 (by have := hk.out; omega), hR0.out.2.2.trans b1⟩)
        clear h1 b1 k1
        go_wp2_with fail
        go_roundw
        case rel => exact ⟨pos + 1, by omega, hR1⟩
        case measure =>
          have e1 : W1.iterPos K = pos + 1 := by simp [World.iterPos, hR1.out.2.1]
          rw [e1, hm'.out]
          omega
      | false =>
        have hp' : ¬ (33 ≤ c.toNat ∧ c.toNat ≤ 126 ∧ c.toNat ≠ 43 ∧ c.toNat ≠ 61) := of_decide_eq_false hp
        have hx1 := Lib.hid (show xt1 c = [43] ++ [hexU (c.toNat / 16), hexU (c.toNat % 16)] by unfold xt1; rw [hp]; rfl)
        have hq1 := Lib.hid (bld_rune w.heap.size w.heap.size _ 43 (by omega) (by omega) W0 hR0.out.1 (by have := hroom.out; omega) hR0.out.2.2.size)
        have hq2 := Lib.hid (fun W (hb : Below w.heap.size w W) => fmtI_any c hc16 hc128 W (htab.out.below hb))
        rw [← hZ] at hq2
        have hq3 := Lib.hid (fun W => up_two (c.toNat / 16) (c.toNat % 16) (by omega) (by omega) W)
        obtain ⟨H2, hH2⟩ : ∃ H2 : ByteArray, (⟨#[hexU (c.toNat / 16), hexU (c.toNat % 16)]⟩ : ByteArray) = H2 := ⟨_, rfl⟩
        obtain ⟨L2, hL2⟩ : ∃ L2 : ByteArray, (⟨#[lowH (c.toNat / 16), lowH (c.toNat % 16)]⟩ : ByteArray) = L2 := ⟨_, rfl⟩
        rw [hL2] at hq2
        rw [hH2, hL2] at hq3
        have hH2' := Lib.hid hH2
        clear hH2 hL2
        have h4 : ¬ 33 ≤ Z ∨ (33 ≤ Z ∧ ¬ Z ≤ 126) ∨ (33 ≤ Z ∧ Z ≤ 126 ∧ (Z != 43) = false) ∨ (33 ≤ Z ∧ Z ≤ 126 ∧ (Z != 43) = true ∧ (Z != 61) = false) := by
          by_cases a : 33 ≤ Z
          · by_cases b : Z ≤ 126
            · by_cases d : Z = 43
              · exact .inr (.inr (.inl ⟨a, b, by rw [d]; rfl⟩))
              · exact .inr (.inr (.inr ⟨a, b, bne_iff_ne.2 d, by have : Z = 61 := by omega
                                                                 rw [this]; rfl⟩))
            · exact .inr (.inl ⟨a, b⟩)
          · exact .inl a
        clear hp' hp hZ hc hc16 hc128
        rcases h4 with g1 | ⟨g1, g2⟩ | ⟨g1, g2, g3⟩ | ⟨g1, g2, g3, g4⟩
        all_goals
          go_wp2_with fail
          refine hq1.out.mono ?_
          rintro e W1 ⟨rfl, h1, b1, k1⟩
          have hI1 := Lib.hid (show Lib.IsBuilderF 45 5 w.heap.size w.heap.size _ W1 from .inr h1)
          have hR1 := Lib.hid (show W1.heap[K]? = some (.stringIter s (pos + 1)) ∧ Below w.heap.size w W1 from ⟨k1.iter hR0.out.2.1 (by have := hk.out; omega), hR0.out.2.2.trans b1⟩)
          clear h1 b1 k1
          go_wp2_with fail
          refine (hq2.out W1 hR1.out.2).mono ?_
          rintro e W2 ⟨rfl, b2⟩
          have hb2 := Lib.hid b2
          clear b2
          go_wp2_with fail
          refine (hq3.out W2).mono ?_
          rintro e W3 ⟨rfl, b3⟩
          have hb3 := Lib.hid (hb2.out.trans (b3.mono hb2.out.size))
          clear b3
          have hI3 := Lib.hid (bld_below hI1.out hb3.out)
          have hR3 := Lib.hid (show W3.heap[K]? = some (.stringIter s (pos + 1)) ∧ Below w.heap.size w W3 from ⟨(hb3.out.block K (Array.getElem?_eq_some_iff.1 hR1.out.1).1).trans hR1.out.1, hR1.out.2.trans (hb3.out.mono hR1.out.2.size)⟩)
          have hq4 := Lib.hid (bld_str w.heap.size w.heap.size _ H2 W3 hI3.out (by rw [← hH2'.out, List.length_append, rune43]; have h := hroom.out; show (Lib.byteCells (xtL (s.data.toList.take pos))).length + 1 + 2 ≤ _; omega) hR3.out.2.size)
          go_wp2_with fail
          refine hq4.out.mono ?_
          rintro e W4 ⟨rfl, h4, b4, k4⟩
          have hR4 := Lib.hid (show Lib.IsBuilderF 45 5 w.heap.size w.heap.size (Lib.byteCells (xtL (s.data.toList.take (pos + 1)))) W4 ∧ W4.heap[K]? = some (.stringIter s (pos + 1)) ∧ Below w.heap.size w W4 from
            ⟨by rw [hmore.out, hx1.out, Lib.byteCells_append, Lib.byteCells_append, ← rune43, ← List.append_assoc]; rw [← hH2'.out] at h4; exact .inr h4, k4.iter hR3.out.1 (by have := hk.out; omega), hR3.out.2.trans b4⟩)
          clear h4 b4 k4
          go_wp2_with fail
          go_roundw
          case rel => exact ⟨pos + 1, by omega, hR4⟩
          case measure =>
            have e1 : W4.iterPos K = pos + 1 := by simp [World.iterPos, hR4.out.2.1]
            rw [e1, hm'.out]
            omega
    · have hnx : ∀ ty, (Instr.next (.pointer (some ⟨K, 0, none⟩)) true ty).run Tryd.prog wr = _ := fun ty => Lib.run_next_end_at wr K s pos ty hR.out.2.1 (by omega)
      have hfin := Lib.hid (Tryd.Builder_String_any_k w.heap.size w.heap.size _ wr hR.out.1 hR.out.2.2.size)
      have hB := Lib.hid hR.out.2.2
      obtain rfl : pos = s.size := by omega
      rw [hsz.out, List.take_length] at hfin
      clear hR
      go_wp2_with fail
      refine hfin.out.mono ?_
      rintro e w2 ⟨rfl, _, hb2, _⟩
      have hB2 := Lib.hid (hB.out.trans hb2)
      clear hb2
      go_wp2_with fail
      go_ret
      exact ⟨rfl, hB2.out⟩
theorem encX_any (s : ByteArray) (hs : s.size ≤ 1000000) (hsure : SureL s.data.toList) (w : World) (htab : TabBr w) :
    Calls Tryd.prog 8 #[.string s] w fun e w' => e = .returned (.string ⟨(xtL s.data.toList).toArray⟩) ∧ Below w.heap.size w w' := by
  have hc : Calls Tryd.prog 12 #[.string s] w fun e w' => e = .returned (.string ⟨(xtL s.data.toList).toArray⟩) ∧ Below w.heap.size w w' := by
    have hc := Lib.hid (enc_any s hs hsure w htab)
    clear hsure htab
    go_enter Tryd.func12, Tryd.ntmps12
    go_wp2_with fail
    refine hc.out.mono ?_
    rintro e w1 ⟨rfl, hb⟩
    have hb := Lib.hid hb
    go_wp2_with fail
    go_ret
    exact ⟨rfl, hb.out⟩
  replace hc := Lib.hid hc
  clear hsure htab
  go_enter Tryd.func8, Tryd.ntmps8
  go_wp2_with fail
  refine hc.out.mono ?_
  rintro e w1 ⟨rfl, hb⟩
  have hb := Lib.hid hb
  go_wp2_with fail
  go_ret
  exact ⟨rfl, hb.out⟩
def EnvXe (w : World) : Prop := EnvXg w ∧ TabBr w
theorem EnvXe.all {w : World} (h : EnvXe w) : ∀ W, Below w.heap.size w W → EnvXe W := fun W hb => ⟨h.1.all W hb, h.2.below hb⟩
def impl_Xtext.f (s : ByteArray) : Option ByteArray := if s.size ≤ 1000000 ∧ SureL s.data.toList then some ⟨(xtL s.data.toList).toArray⟩ else none
theorem impl_Xtext.calls (a0 : ByteArray) (r : ByteArray) (w : World) (h : impl_Xtext.f a0 = some r) (henv : EnvXe w) :
    Calls Tryd.prog 8 #[.string a0] w fun e w' => e = .returned (.string r) ∧ Below w.heap.size w w' := by
  unfold impl_Xtext.f at h
  by_cases hs : a0.size ≤ 1000000 ∧ SureL a0.data.toList
  · rw [if_pos hs] at h
    obtain rfl := Option.some.inj h
    exact encX_any a0 hs.1 hs.2 w henv.2
  · rw [if_neg hs] at h; cases h
abbrev impl_UnxtextE.f := impl_Unxtext.f
theorem impl_UnxtextE.calls (a0 : ByteArray) (r1 : ByteArray) (r2 : Bool) (w : World) (h : impl_UnxtextE.f a0 = some (r1, r2)) (henv : EnvXe w) :
    Calls Tryd.prog 6 #[.string a0] w fun e w' => e = .returned (.tuple #[.string r1, .bool r2]) ∧ Below w.heap.size w w' := impl_Unxtext.calls a0 r1 r2 w h henv.1
end Go.Proofs.YtoeggcckcnlllaaDoor.Own
