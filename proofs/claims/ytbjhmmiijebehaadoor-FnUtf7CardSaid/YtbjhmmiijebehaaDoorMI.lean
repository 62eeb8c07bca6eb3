/- utf8.DecodeRune at every slice of bytes: the kit's contract over any program, laid at this one. Words on utf7.encode: the UTF-16 of a text, base64's EncodedLen, two bytes appended. No law of the program is proved here. utf7.encode: the shift of a run of bytes. -/
import Derived.Test.YtbjhmmiijebehaaDoorMA
import Derived.Test.YtbjhmmiijebehaaDoorMH
import Derived.Test.YtbjhmmiijebehaaDoorMC
import Derived.Test.YtbjhmmiijebehaaDoorPencodex1
import Derived.Shelf.Spec.DecodeRune
import Derived.KernelRfl
import Derived.Laws.AppendOwn
import Derived.Shelf.Unicode.DecodeLastEight
import Derived.Lib.TrimU
import Derived.Lib.RuneCount
import Derived.Deep.Cut
import Derived.Deep.CutRange
namespace Go.Proofs.YtbjhmmiijebehaaDoor.Own
open Go.RowKit Go.Lib Go.Shelf
set_option linter.unusedVariables false
set_option linter.unusedSimpArgs false

def drRen : Go.Shelf.Ren := ⟨fun | 32 => 26 | 49 => 38 | n => n, fun | 25 => 34 | 30 => 38 | 33 => 56 | 66 => 64 | 68 => 78 | 69 => 79 | n => n, fun | 2 => 3 | 3 => 4 | n => n⟩
theorem drLays : Go.Proofs.Lays7.n32 Tryd.prog drRen := {
  mixed := by kernel_rfl
  f32 := Tryd.func26.trans (congrArg some (by kernel_rfl))
  f49 := Tryd.func38.trans (congrArg some (by kernel_rfl))
  t0 := Tryd.underlying0
  a0 := Tryd.isAgg0
  z0 := Tryd.sizeOf0
  v0 := Tryd.zeroValue0
  i0 := by kernel_rfl
  t3 := Tryd.underlying3
  a3 := Tryd.isAgg3
  z3 := Tryd.sizeOf3
  v3 := Tryd.zeroValue3
  i3 := by kernel_rfl
  t4 := Tryd.underlying4
  a4 := Tryd.isAgg4
  z4 := Tryd.sizeOf4
  v4 := Tryd.zeroValue4
  i4 := by kernel_rfl
  t5 := Tryd.underlying5
  a5 := Tryd.isAgg5
  z5 := Tryd.sizeOf5
  v5 := Tryd.zeroValue5
  i5 := by kernel_rfl
  t21 := Tryd.underlying21
  a21 := Tryd.isAgg21
  z21 := Tryd.sizeOf21
  v21 := Tryd.zeroValue21
  i21 := by kernel_rfl
  t25 := Tryd.underlying34
  a25 := Tryd.isAgg34
  z25 := Tryd.sizeOf34
  v25 := Tryd.zeroValue34
  i25 := by kernel_rfl
  t30 := Tryd.underlying38
  a30 := Tryd.isAgg38
  z30 := Tryd.sizeOf38
  v30 := Tryd.zeroValue38
  i30 := by kernel_rfl
  t33 := Tryd.underlying56
  a33 := Tryd.isAgg56
  z33 := Tryd.sizeOf56
  v33 := Tryd.zeroValue56
  i33 := by kernel_rfl
  t66 := Tryd.underlying64
  a66 := Tryd.isAgg64
  z66 := Tryd.sizeOf64
  t68 := Tryd.underlying78
  a68 := Tryd.isAgg78
  z68 := Tryd.sizeOf78
  v68 := Tryd.zeroValue78
  i68 := by kernel_rfl
  t69 := Tryd.underlying79
  a69 := Tryd.isAgg79
  z69 := Tryd.sizeOf79
  v69 := Tryd.zeroValue79
  i69 := by kernel_rfl
  g2 := by kernel_rfl
  g3 := by kernel_rfl }
theorem decRune_any (s : ByteArray) (b off cap : Nat) (w : World) (hT : Lib.Utf8Tabs 3 4 w) (hp : ∀ j, j < s.size → w.cell? ⟨b, off + j, none⟩ = some (.int .u8 (s.get! j).toNat)) :
    Calls Tryd.prog 26 #[.slice (some ⟨b, off, none⟩) s.size cap] w fun e w' => e = .returned (.tuple #[.int .i32 (Lib.decodeGo s).1, .int .i64 (Lib.decodeGo s).2]) ∧ Below w.heap.size w w' :=
  Any7.utf8_DecodeRune drLays s b off cap w hT hp
end Go.Proofs.YtbjhmmiijebehaaDoor.Own

namespace Go.Proofs.YtbjhmmiijebehaaDoor.Own
open Go.RowKit Go.Lib
set_option linter.unusedVariables false
set_option linter.unusedSimpArgs false

def two (u : Nat) : List UInt8 := [UInt8.ofNat (u / 256), UInt8.ofNat u]
/-- The UTF-16 of a character, two bytes a unit. -/
def u16e (r : Nat) : List UInt8 := if r < 65536 then two r else two (55296 + (r - 65536) / 1024) ++ two (56320 + (r - 65536) % 1024)
/-- The UTF-16 of a text, as the code reads it. -/
def encU : Nat → List UInt8 → List UInt8
  | 0, _ => []
  | n + 1, l => if l = [] then [] else u16e (Lib.decodeGo ⟨l.toArray⟩).1 ++ encU n (l.drop (Lib.decodeGo ⟨l.toArray⟩).2)
theorem decGo_pos (l : List UInt8) (h : l ≠ []) : 1 ≤ (Lib.decodeGo ⟨l.toArray⟩).2 ∧ (Lib.decodeGo ⟨l.toArray⟩).2 ≤ l.length ∧ (Lib.decodeGo ⟨l.toArray⟩).1 ≤ 1114111 := by
  have hs : 0 < (⟨l.toArray⟩ : ByteArray).size := List.length_pos_iff.2 h
  have h2 := Lib.decodeGo_le_size ⟨l.toArray⟩
  have hsz : (⟨l.toArray⟩ : ByteArray).size = l.length := rfl
  refine ⟨?_, by omega, ?_⟩
  · unfold Lib.decodeGo
    rw [if_neg (by omega)]
    exact Lib.decode_width_pos _ 0 hs
  · unfold Lib.decodeGo
    rw [if_neg (by omega)]
    exact Lib.rune_le _ 0
theorem encLen_any (w : World) (E n : Nat) (hn : n ≤ 100000) (he : EncAt w E 64) :
    Calls Tryd.prog 28 #[.pointer (some ⟨E, 0, none⟩), .int .i64 (n : Int)] w fun e w' => e = .returned (.int .i64 (((n + 2) / 3 * 4 : Nat) : Int)) ∧ Below w.heap.size w w' := by
  have q5 := he.pad
  have e1 : Int.tdiv ((n : Int) + 2) 3 = (((n + 2) / 3 : Nat) : Int) := by rw [Int.tdiv_eq_ediv_of_nonneg (by omega)]; omega
  have hb : (((n + 2) / 3 : Nat) : Int) ≤ 100000 := by omega
  have hb0 : (0 : Int) ≤ (((n + 2) / 3 : Nat) : Int) := by omega
  generalize hQ : (n + 2) / 3 = Q at e1 hb hb0 ⊢
  have hQ' := Lib.hid hQ
  clear hQ he
  go_enter Tryd.func28, Tryd.ntmps28
  go_wp2_with fail
  go_ret
  exact ⟨by simp, Below.refl _ _⟩
/-- A row of bytes that append has made. -/
def BRow (W : World) (base : Nat) (v : Value) (l : List UInt8) : Prop := W.ownsRow base 5 1 v l.length (Lib.byteCells l)
theorem run_app2 (base : Nat) (W : World) (v : Value) (l : List UInt8) (h : BRow W base v l) (hb : base ≤ W.heap.size) (hl : l.length ≤ 1000000) (nb : Nat) (x y : UInt8)
    (hc : W.heap[nb]? = some (.cells #[.int .u8 (x.toNat : Int), .int .u8 (y.toNat : Int)] 5 (0, 0))) :
    ∃ v' W', (Builtin.append_ #[38, 38] 38 #[v, .slice (some ⟨nb, 0, none⟩) 2 2]).run Tryd.prog W = .ok v' W' ∧ BRow W' base v' (l ++ [x, y]) ∧ Below base W W' := by
  obtain ⟨i, hi, hzz⟩ := Option.map_eq_some_iff.1 info_u8z
  simp only [Prod.mk.injEq] at hzz
  obtain ⟨hz, hs, hby⟩ := hzz
  obtain ⟨v', W', h1, h2, h3, _⟩ := run_append_own (P := Tryd.prog) W base 38 38 5 i (.int .u8 0) 1 1 Tryd.underlying38 hi hz hs hby rfl (by decide) v l.length (Lib.byteCells l) h ⟨nb, 0, none⟩ 2 2 (Lib.byteCells [x, y]) rfl
    (fun j u hu => by
      have hadd : (⟨nb, 0, none⟩ : Addr).add j = ⟨nb, j, none⟩ := by unfold Addr.add; split <;> simp_all
      rw [hadd, cell_of_row _ _ _ _ _ _ hc]
      match j, hu with
      | 0, h => cases h; rfl
      | 1, h => cases h; rfl
      | j + 2, h => simp [Lib.byteCells] at h) (byteCells_one _) (by unfold maxLen; omega) (by omega) hb
  refine ⟨v', W', h1, ?_, ?_⟩
  · unfold BRow
    rw [List.length_append]
    have e : Lib.byteCells (l ++ [x, y]) = Lib.byteCells l ++ Lib.byteCells [x, y] := by simp [Lib.byteCells]
    rw [e]
    exact h2
  · refine ⟨h3.os, h3.tape, h3.output, h3.size, fun k hk => h3.block k (by omega) ?_⟩
    rcases h.2 with ⟨hv, _⟩ | ⟨g, cap, cur, hv, hg, _⟩
    · rw [hv]; intro e; cases e
    · rw [hv]
      intro e
      have : k = g := Option.some.inj e
      omega
end Go.Proofs.YtbjhmmiijebehaaDoor.Own

namespace Go.Proofs.YtbjhmmiijebehaaDoor.Own
open Go.RowKit Go.Lib
set_option linter.unusedVariables false
set_option linter.unusedSimpArgs false

theorem encU_more : ∀ (n m : Nat) (l : List UInt8), l.length ≤ n → l.length ≤ m → encU n l = encU m l
  | 0, m, l, h, _ => by
    have : l = [] := List.eq_nil_of_length_eq_zero (by omega)
    subst this
    cases m <;> simp [encU]
  | n + 1, 0, l, _, h => by
    have : l = [] := List.eq_nil_of_length_eq_zero (by omega)
    subst this
    simp [encU]
  | n + 1, m + 1, l, hn, hm => by
    unfold encU
    by_cases hl : l = []
    · rw [if_pos hl, if_pos hl]
    · rw [if_neg hl, if_neg hl]
      have := decGo_pos l hl
      rw [encU_more n m _ (by rw [List.length_drop]; omega) (by rw [List.length_drop]; omega)]
def encF (l : List UInt8) : List UInt8 := encU l.length l
theorem get_list (l : List UInt8) (j : Nat) (h : j < l.length) : (⟨l.toArray⟩ : ByteArray).get! j = l[j] := by
  show l.toArray[j]! = l[j]
  simp [h]
theorem tabs_below {w W : World} (h : Lib.Utf8Tabs 3 4 w) (hb : Below w.heap.size w W) : Lib.Utf8Tabs 3 4 W := by
  have hc : ∀ {b j : Nat} {v : Value}, w.cell? ⟨b, j, none⟩ = some v → W.cell? ⟨b, j, none⟩ = some v := fun {b j v} hv => (hb.cell (World.block_lt_of_cell? w _ hv)).trans hv
  exact ⟨fun c h1 => hc (h.1 c h1), fun c h1 => ⟨hc (h.2 c h1).1, hc (h.2 c h1).2⟩⟩
theorem encF_nil : encF [] = [] := rfl
theorem encF_step (l : List UInt8) (h : l ≠ []) : encF l = u16e (Lib.decodeGo ⟨l.toArray⟩).1 ++ encF (l.drop (Lib.decodeGo ⟨l.toArray⟩).2) := by
  have hp := decGo_pos l h
  have hl := List.length_pos_iff.2 h
  unfold encF
  rw [show l.length = (l.length - 1) + 1 by omega, encU, if_neg h]
  rw [encU_more (l.length - 1) (l.drop (Lib.decodeGo ⟨l.toArray⟩).2).length _ (by rw [List.length_drop]; omega) (Nat.le_refl _)]
theorem u16e_len (r : Nat) : (u16e r).length ≤ 4 := by
  unfold u16e; split <;> simp [two]
/-- Behind p bytes. -/
def Vinv (w wr : World) (X : List UInt8) (v : Value) (l : List UInt8) (p : Nat) : Prop :=
  BRow wr w.heap.size v l ∧ Below w.heap.size w wr ∧ encF X = l ++ encF (X.drop p) ∧ l.length ≤ 4 * p
theorem vinv_below {w wr W : World} {X l : List UInt8} {v : Value} {p : Nat} (h : Vinv w wr X v l p) (hb : Below wr.heap.size wr W) : Vinv w W X v l p := by
  obtain ⟨h1, h2, h3, h4⟩ := h
  refine ⟨?_, h2.trans (hb.mono h2.size), h3, h4⟩
  refine ⟨h1.1, ?_⟩
  rcases h1.2 with h | ⟨g, cap, cur, hv, hg, hc, hr⟩
  · exact .inl h
  · exact .inr ⟨g, cap, cur, hv, hg, (hb.block g (Array.getElem?_eq_some_iff.1 hc).1).trans hc, hr⟩
theorem wpList_app2 {ops : Array Oper} {rest : List Oper} {o : Oper} {a : Act} {w : World} {Q : Exit → Act → World → Prop} (hgd : o.guard = none) (d s : Operand)
    (ho : o.op = .call { callee := .builtin .append, args := #[d, s], argTypes := #[38, 38] }) (hty : o.type = 38) (base : Nat) (v : Value) (l : List UInt8) (nb : Nat) (x y : UInt8)
    (hd : a.eval d = v) (hs : a.eval s = .slice (some ⟨nb, 0, none⟩) 2 2) (h : BRow w base v l) (hb : base ≤ w.heap.size) (hl : l.length ≤ 1000000)
    (hc : w.heap[nb]? = some (.cells #[.int .u8 (x.toNat : Int), .int .u8 (y.toNat : Int)] 5 (0, 0)))
    (hk : ∀ v' W', Hid (BRow W' base v' (l ++ [x, y])) → Hid (Below base w W') → wpList Tryd.prog ops Q rest (a.put o.dst v') W') : wpList Tryd.prog ops Q (o :: rest) a w := by
  refine wpList_plain hgd fun K hK => ?_
  obtain ⟨v', W', hrun, h1, h2⟩ := run_app2 base w v l h hb hl nb x y hc
  unfold Oper.wp
  simp [execOp, ho, hty, resolve, invoke, builtin, hd, hs, hrun, Result.andThen]
  exact hK _ _ (hk v' W' h1 h2)
theorem two_int (u : Nat) (h : u < 65536) : (u : Int) / 256 = ((UInt8.ofNat (u / 256)).toNat : Int) ∧ (u : Int) % 256 = ((UInt8.ofNat u).toNat : Int) := by
  constructor <;> rw [UInt8.toNat_ofNat'] <;> omega
theorem vinv_app {w wr W : World} {X l l2 : List UInt8} {v v' : Value} {p k r : Nat} (h : Vinv w wr X v l p) (hst : encF (X.drop p) = l2 ++ encF (X.drop (p + k))) (hl2 : l2.length ≤ 4 * k) (hB : BRow W w.heap.size v' (l ++ l2)) (hb : Below w.heap.size wr W) : Vinv w W X v' (l ++ l2) (p + k) :=
  ⟨hB, h.2.1.trans hb, by rw [h.2.2.1, hst]; simp, by have := h.2.2.2; simp; omega⟩
theorem brow_below {w W : World} {base : Nat} {v : Value} {l : List UInt8} (h : BRow w base v l) (hb : Below w.heap.size w W) : BRow W base v l := by
  refine ⟨h.1, ?_⟩
  rcases h.2 with h | ⟨g, cap, cur, hv, hg, hc, hr⟩
  · exact .inl h
  · exact .inr ⟨g, cap, cur, hv, hg, (hb.block g (Array.getElem?_eq_some_iff.1 hc).1).trans hc, hr⟩
theorem and1023 (x : Nat) (h : x < 1048576) : bits .and .i32 (x : Int) 1023 = ((x % 1024 : Nat) : Int) := by
  have hw : ∀ n : Int, 0 ≤ n → n < 2 ^ 20 → IntKind.i32.wrap n = n := fun n h0 h1 => by unfold IntKind.wrap; simp [IntKind.bits, IntKind.signed]; omega
  have h1 := (bits_nat .i32 20 (by decide) hw x 1023 (by omega) (by omega)).1
  have h2 : x &&& 1023 = x % 1024 := Nat.and_two_pow_sub_one_eq_mod x 10
  rw [h2] at h1
  exact h1
theorem encRune16 (r : Nat) (h1 : 65536 ≤ r) (h2 : r ≤ 1114111) : Pencode.utf16_EncodeRune.f (r : Int) = some (((55296 + (r - 65536) / 1024 : Nat) : Int), ((56320 + (r - 65536) % 1024 : Nat) : Int)) := by
  unfold Pencode.utf16_EncodeRune.f
  rw [if_neg (by omega), if_neg (by omega)]
  have e1 : wrap32 ((r : Int) - 65536) = ((r - 65536 : Nat) : Int) := by unfold wrap32; omega
  rw [e1, show (((r - 65536 : Nat) : Int) / 1024) = (((r - 65536) / 1024 : Nat) : Int) by omega, and1023 _ (by omega), and1023 _ (by omega)]
  refine congrArg some (Prod.ext ?_ ?_)
  · show wrap32 _ = _
    unfold wrap32; omega
  · show wrap32 _ = _
    unfold wrap32; omega
theorem below_dr {W w3 : World} (h : Below W.drew.heap.size W.drew w3) : Below W.heap.size W w3 := ⟨h.os, h.tape, h.output, h.size, h.block⟩
theorem shift_row (E : List UInt8) (q : Nat) (hq : q ≤ E.length) : ∃ tl, (([0] ++ E ++ [0]).set 0 38).set (q + 1) 45 = (38 :: E.take q ++ [45]) ++ tl := by
  have e : E ++ [0] = E.take q ++ (E.drop q ++ [0]) := by rw [← List.append_assoc, List.take_append_drop]
  have hl : (E.take q).length = q := by rw [List.length_take]; omega
  obtain ⟨y, ys, hy⟩ : ∃ y ys, E.drop q ++ [0] = y :: ys := by
    cases hd : E.drop q with
    | nil => exact ⟨0, [], rfl⟩
    | cons a b => exact ⟨a, b ++ [0], rfl⟩
  refine ⟨ys, ?_⟩
  show 38 :: ((E ++ [0]).set q 45) = _
  rw [e, hy, List.set_append_right _ _ (by omega), hl, Nat.sub_self]
  simp
/-- The letters without their padding. -/
def strip64 (U : List UInt8) : List UInt8 := (enc64 U).take ((enc64 U).length - (2 - (U.length + 2) % 3))
/-- A run's shift. -/
def enc7 (X : List UInt8) : List UInt8 := 38 :: strip64 (encF X) ++ [45]
set_option maxHeartbeats 8000000 in
set_option maxRecDepth 100000 in
theorem encode7_any (w : World) (Bs so cap : Nat) (X : List UInt8) (hX : 0 < X.length) (hX2 : X.length ≤ 1000) (hcap : X.length ≤ cap) (hT : Lib.Utf8Tabs 3 4 w)
    (hsrc : ∀ i x, X[i]? = some x → w.cell? ⟨Bs, so + i, none⟩ = some (.int .u8 (x.toNat : Int))) :
    Calls Tryd.prog 19 #[.slice (some ⟨Bs, so, none⟩) X.length cap] w fun e w' => Below w.heap.size w w' ∧ ∃ b c, e = .returned (.slice (some ⟨b, 0, none⟩) (enc7 X).length c) ∧ w.heap.size ≤ b ∧ ∀ j x, (enc7 X)[j]? = some x → w'.cell? ⟨b, j, none⟩ = some (.int .u8 (x.toNat : Int)) := by
  have hsrc' := Lib.hid hsrc
  have hT' := Lib.hid hT
  obtain ⟨m, hm⟩ : ∃ m, X.length = m := ⟨_, rfl⟩
  rw [hm] at hX hX2 hcap ⊢
  have hm' := Lib.hid hm
  clear hsrc hT hm
  obtain ⟨i0, hi, hzz⟩ := Option.map_eq_some_iff.1 info_u8z
  simp only [Prod.mk.injEq] at hzz
  obtain ⟨hz0, hz1, hz2⟩ := hzz
  obtain ⟨M, hM⟩ : ∃ M, m + 4 = M := ⟨_, rfl⟩
  have hMi : (m : Int) + 4 = (M : Int) := by omega
  obtain ⟨Z, hZ, hZs⟩ : ∃ Z : Array Value, Z = madeCells (Value.int .u8 0).cells (M * i0.size) ∧ Z.size = M := ⟨_, rfl, by rw [size_madeCells, hz1, Nat.mul_one]⟩
  have hmk : ∀ W, (Instr.makeSlice 38 (.int .i64 0) (.int .i64 (M : Int))).run Tryd.prog W = .ok (.slice (some ⟨W.heap.size, 0, none⟩) 0 M) (W.alloc (.cells Z 5)) := fun W => by
    have := run_make (P := Tryd.prog) W 38 5 i0 (.int .u8 0) Tryd.underlying38 hi hz0 .i64 .i64 0 (M : Int) (by omega) (by omega) (by rw [hz2]; omega) (by omega)
    rw [hZ]
    simpa using this
  have hV0 : Vinv w (w.alloc (.cells Z 5)) X (.slice (some ⟨w.heap.size, 0, none⟩) 0 M) [] 0 := by
    refine ⟨?_, (Below.refl _ _).alloc (Nat.le_refl _) _, by simp, by simp⟩
    exact World.ownsRow_made (base := w.heap.size) (e := 5) (size := 1) w Z M (Nat.le_refl _) (by unfold maxLen; omega) (by rw [hZs, Nat.mul_one])
  have hV0' := Lib.hid hV0
  clear hV0 hZ hZs hi hz0 hz1 hz2
  go_enter Tryd.func19, Tryd.ntmps19
  go_wp2_with fail
  go_loopw [0, 3] (fun s0 s3 wr => ∃ (p : Nat) (l : List UInt8) (a0 : Option Addr) (v : Value), s0 = .slice a0 (m - p) (cap - p) ∧ s3 = v ∧ p ≤ m ∧ (p < m → a0 = some ⟨Bs, so + p, none⟩) ∧ Hid (Vinv w wr X v l p)) (fun s0 _ _ => match s0 with | .slice _ n _ => n | _ => 0)
  case atStart => exact ⟨0, [], some ⟨Bs, so, none⟩, _, rfl, rfl, by omega, fun _ => rfl, hV0'⟩
  case round =>
    obtain ⟨wq, hwq⟩ : ∃ wq : World, wq = wr := ⟨_, rfl⟩
    rw [← hwq] at hrel ⊢
    clear hwq hV0' hmk
    obtain ⟨p, l, a0, v, rfl, hv3, hpm, ha0, hI⟩ := hrel
    have hv4 := hv3.symm
    clear hv3
    subst hv4
    by_cases hp : p < m
    · obtain rfl := ha0 hp
      have hm := hm'.out
      obtain ⟨i1, i2, i3, i4⟩ := hI.out
      have hdne : X.drop p ≠ [] := fun h => by have := congrArg List.length h; simp at this; omega
      have hds : (⟨(X.drop p).toArray⟩ : ByteArray).size = m - p := by show (X.drop p).length = m - p; rw [List.length_drop, hm]
      have hdec := decRune_any ⟨(X.drop p).toArray⟩ Bs (so + p) (cap - p) wq (tabs_below hT'.out i2) (fun j hj => by
        have hlt : j < (X.drop p).length := by rw [List.length_drop]; omega
        have hx : X[p + j]? = some ((X.drop p)[j]'hlt) := by rw [← List.getElem?_drop]; exact List.getElem?_eq_getElem hlt
        have h0 := hsrc'.out _ _ hx
        rw [Nat.add_assoc, get_list _ j hlt]
        exact (i2.cell (World.block_lt_of_cell? w _ h0)).trans h0)
      rw [hds] at hdec
      have hdp := decGo_pos (X.drop p) hdne
      have hst := encF_step (X.drop p) hdne
      obtain ⟨r, hr⟩ : ∃ r, (Lib.decodeGo ⟨(X.drop p).toArray⟩).1 = r := ⟨_, rfl⟩
      obtain ⟨kk, hkk⟩ : ∃ k, (Lib.decodeGo ⟨(X.drop p).toArray⟩).2 = k := ⟨_, rfl⟩
      rw [hr, hkk] at hdec hdp hst
      rw [List.drop_drop] at hst
      rw [List.length_drop, hm] at hdp
      have hdec' := Lib.hid hdec
      have hst' := Lib.hid hst
      obtain ⟨P0, hP0⟩ : ∃ P0, so + p = P0 := ⟨_, rfl⟩
      obtain ⟨Mm, hMm⟩ : ∃ M, m - p = M := ⟨_, rfl⟩
      obtain ⟨C, hC⟩ : ∃ C, cap - p = C := ⟨_, rfl⟩
      rw [hP0, hMm, hC] at hdec'
      rw [hP0, hMm, hC]
      have hkeep := Lib.hid (And.intro hP0 (And.intro hMm (And.intro hC (And.intro hpm (And.intro hdp hcap)))))
      have gM : (0 : Int) < (Mm : Int) := by omega
      have gk : (kk : Int) ≤ (Mm : Int) := by omega
      have gk1 : (kk : Int) ≤ (C : Int) := by omega
      have gr : (r : Int) ≤ 1114111 := by omega
      have grN : r ≤ 1114111 := by omega
      clear hdec hst hP0 hMm hC hdp hm hr hkk hdne hds i1 i2 i3 i4 ha0 hpm hp
      go_wp2_with fail
      refine hdec'.out.mono ?_
      clear hdec'
      rintro e w1 ⟨rfl, hb1⟩
      have hI1 := Lib.hid (vinv_below hI.out hb1)
      clear hI hb1
      by_cases hbig : r < 65536
      · skip
        have hf : Pencode.utf16_EncodeRune.f (r : Int) = some (65533, 65533) := by unfold Pencode.utf16_EncodeRune.f; rw [if_pos (by omega)]
        have her := Lib.hid (fun W => Pencode.utf16_EncodeRune.calls _ _ _ W hf)
        clear hf
        have hu16 : u16e r = [UInt8.ofNat (r / 256), UInt8.ofNat r] := by unfold u16e; rw [if_pos hbig]; rfl
        have hu16' := Lib.hid hu16
        clear hu16
        by_cases hCk : C = kk
        · skip
          go_wp2_with fail
          refine (her.out _).mono ?_
          rintro e w2 ⟨rfl, hd2⟩
          have hI2 := Lib.hid (vinv_below hI1.out hd2.below)
          clear hI1 hd2 her
          have hal1 : Below w2.heap.size w2 (w2.alloc (.cells #[.int .u8 ((r : Int) / 256), .int .u8 ((r : Int) % 256)] 5)) := (Below.refl _ _).alloc (Nat.le_refl _) _
          have hti1 := two_int r hbig
          have hcn1 : (w2.alloc (.cells #[.int .u8 ((r : Int) / 256), .int .u8 ((r : Int) % 256)] 5)).heap[w2.heap.size]? = some (.cells #[.int .u8 ((UInt8.ofNat (r / 256)).toNat : Int), .int .u8 ((UInt8.ofNat r).toNat : Int)] 5 (0, 0)) := by
            rw [← hti1.1, ← hti1.2]; exact heap_alloc_new _ _
          have hcn1' := Lib.hid hcn1
          clear hti1 hcn1
          have hI3 := Lib.hid (vinv_below hI2.out hal1)
          have hll := hI2.out.2.2.2
          have hkk := hkeep.out
          have hll2 : l.length ≤ 1000000 := by omega
          clear hal1 hll hkk
          go_wp2_with (at_builtin; refine wpList_app2 rfl (.tmp 43) (.tmp 49) rfl rfl w.heap.size v l w2.heap.size (UInt8.ofNat (r / 256)) (UInt8.ofNat r) (by simp [Act.eval, Act.put]) (by simp [Act.eval, Act.put]) hI3.out.1 hI3.out.2.1.size hll2 hcn1'.out ?_; intro v1 W1 hB1 hb1)
          obtain ⟨k1, k2, k3, k4, k5, k6⟩ := hkeep.out
          refine ⟨⟨p + kk, l ++ u16e r, some ⟨Bs, P0, none⟩, v1, by rw [show Mm - kk = m - (p + kk) by omega, show cap - (p + kk) = 0 by omega], rfl, by omega, fun h => by omega, Lib.hid ?_⟩, ?_⟩
          · have hq := vinv_app (k := kk) (r := r) hI3.out hst'.out (by rw [hu16'.out]; simp; omega) (by rw [hu16'.out]; exact hB1) hb1
            exact hq
          · show Mm - kk < Mm
            omega
        · skip
          go_wp2_with fail
          refine (her.out _).mono ?_
          rintro e w2 ⟨rfl, hd2⟩
          have hI2 := Lib.hid (vinv_below hI1.out hd2.below)
          clear hI1 hd2 her
          have hal1 : Below w2.heap.size w2 (w2.alloc (.cells #[.int .u8 ((r : Int) / 256), .int .u8 ((r : Int) % 256)] 5)) := (Below.refl _ _).alloc (Nat.le_refl _) _
          have hti1 := two_int r hbig
          have hcn1 : (w2.alloc (.cells #[.int .u8 ((r : Int) / 256), .int .u8 ((r : Int) % 256)] 5)).heap[w2.heap.size]? = some (.cells #[.int .u8 ((UInt8.ofNat (r / 256)).toNat : Int), .int .u8 ((UInt8.ofNat r).toNat : Int)] 5 (0, 0)) := by
            rw [← hti1.1, ← hti1.2]; exact heap_alloc_new _ _
          have hcn1' := Lib.hid hcn1
          clear hti1 hcn1
          have hI3 := Lib.hid (vinv_below hI2.out hal1)
          have hll := hI2.out.2.2.2
          have hkk := hkeep.out
          have hll2 : l.length ≤ 1000000 := by omega
          clear hal1 hll hkk
          go_wp2_with (at_builtin; refine wpList_app2 rfl (.tmp 43) (.tmp 49) rfl rfl w.heap.size v l w2.heap.size (UInt8.ofNat (r / 256)) (UInt8.ofNat r) (by simp [Act.eval, Act.put]) (by simp [Act.eval, Act.put]) hI3.out.1 hI3.out.2.1.size hll2 hcn1'.out ?_; intro v1 W1 hB1 hb1)
          obtain ⟨k1, k2, k3, k4, k5, k6⟩ := hkeep.out
          refine ⟨⟨p + kk, l ++ u16e r, some ⟨Bs, P0 + kk, none⟩, v1, by rw [show Mm - kk = m - (p + kk) by omega, show C - kk = cap - (p + kk) by omega], rfl, by omega, fun h => by rw [show P0 + kk = so + (p + kk) by omega], Lib.hid ?_⟩, ?_⟩
          · have hq := vinv_app (k := kk) (r := r) hI3.out hst'.out (by rw [hu16'.out]; simp; omega) (by rw [hu16'.out]; exact hB1) hb1
            exact hq
          · show Mm - kk < Mm
            omega
      · skip
        have hf : Pencode.utf16_EncodeRune.f (r : Int) = some (((55296 + (r - 65536) / 1024 : Nat) : Int), ((56320 + (r - 65536) % 1024 : Nat) : Int)) := encRune16 r (by omega) grN
        have her := Lib.hid (fun W => Pencode.utf16_EncodeRune.calls _ _ _ W hf)
        clear hf
        obtain ⟨u1, hu1⟩ : ∃ u, 55296 + (r - 65536) / 1024 = u := ⟨_, rfl⟩
        obtain ⟨u2, hu2⟩ : ∃ u, 56320 + (r - 65536) % 1024 = u := ⟨_, rfl⟩
        rw [hu1, hu2] at her
        have hu16 : u16e r = [UInt8.ofNat (u1 / 256), UInt8.ofNat u1] ++ [UInt8.ofNat (u2 / 256), UInt8.ofNat u2] := by unfold u16e; rw [if_neg hbig, hu1, hu2]; rfl
        have hu16' := Lib.hid hu16
        clear hu16
        have gu1 : u1 < 65536 := by omega
        have gu2 : u2 < 65536 := by omega
        have gu3 : ((u1 : Int) != 65533) = true := by rw [bne_iff_ne]; omega
        clear hu1 hu2
        by_cases hCk : C = kk
        · skip
          go_wp2_with fail
          refine (her.out _).mono ?_
          rintro e w2 ⟨rfl, hd2⟩
          have hI2 := Lib.hid (vinv_below hI1.out hd2.below)
          clear hI1 hd2 her
          have hal1 : Below w2.heap.size w2 (w2.alloc (.cells #[.int .u8 ((u1 : Int) / 256), .int .u8 ((u1 : Int) % 256)] 5)) := (Below.refl _ _).alloc (Nat.le_refl _) _
          have hti1 := two_int u1 gu1
          have hcn1 : (w2.alloc (.cells #[.int .u8 ((u1 : Int) / 256), .int .u8 ((u1 : Int) % 256)] 5)).heap[w2.heap.size]? = some (.cells #[.int .u8 ((UInt8.ofNat (u1 / 256)).toNat : Int), .int .u8 ((UInt8.ofNat u1).toNat : Int)] 5 (0, 0)) := by
            rw [← hti1.1, ← hti1.2]; exact heap_alloc_new _ _
          have hcn1' := Lib.hid hcn1
          clear hti1 hcn1
          have hI3 := Lib.hid (vinv_below hI2.out hal1)
          have hll := hI2.out.2.2.2
          have hkk := hkeep.out
          have hll2 : l.length ≤ 100000 := by omega
          clear hal1 hll hkk
          go_upto_region 11 with (at_builtin; refine wpList_app2 rfl (.tmp 34) (.tmp 40) rfl rfl w.heap.size v l w2.heap.size (UInt8.ofNat (u1 / 256)) (UInt8.ofNat u1) (by simp [Act.eval, Act.put]) (by simp [Act.eval, Act.put]) hI3.out.1 hI3.out.2.1.size (by omega) hcn1'.out ?_; intro v1 W1 hB1 hb1)
          have hal2 : Below W1.heap.size W1 (W1.alloc (.cells #[.int .u8 ((u2 : Int) / 256), .int .u8 ((u2 : Int) % 256)] 5)) := (Below.refl _ _).alloc (Nat.le_refl _) _
          have hti2 := two_int u2 gu2
          have hcn2 : (W1.alloc (.cells #[.int .u8 ((u2 : Int) / 256), .int .u8 ((u2 : Int) % 256)] 5)).heap[W1.heap.size]? = some (.cells #[.int .u8 ((UInt8.ofNat (u2 / 256)).toNat : Int), .int .u8 ((UInt8.ofNat u2).toNat : Int)] 5 (0, 0)) := by
            rw [← hti2.1, ← hti2.2]; exact heap_alloc_new _ _
          have hcn2' := Lib.hid hcn2
          clear hti2 hcn2
          have hbb := Lib.hid (hb1.out.trans (hal2.mono (Nat.le_trans hI3.out.2.1.size hb1.out.size)))
          have hB1b := Lib.hid (brow_below hB1.out hal2)
          have hll3 : (l ++ [UInt8.ofNat (u1 / 256), UInt8.ofNat u1]).length ≤ 1000000 := by simp; omega
          have hsz := Lib.hid (Nat.le_trans hI3.out.2.1.size hbb.out.size)
          clear hal2
          go_wp2_with (at_builtin; refine wpList_app2 rfl (.tmp 43) (.tmp 49) rfl rfl w.heap.size v1 (l ++ [UInt8.ofNat (u1 / 256), UInt8.ofNat u1]) W1.heap.size (UInt8.ofNat (u2 / 256)) (UInt8.ofNat u2) (by simp [Act.eval, Act.put]) (by simp [Act.eval, Act.put]) hB1b.out hsz.out hll3 hcn2'.out ?_; intro v2 W2 hB2 hb2)
          obtain ⟨k1, k2, k3, k4, k5, k6⟩ := hkeep.out
          refine ⟨⟨p + kk, l ++ u16e r, some ⟨Bs, P0, none⟩, v2, by rw [show Mm - kk = m - (p + kk) by omega, show cap - (p + kk) = 0 by omega], rfl, by omega, fun h => by omega, Lib.hid ?_⟩, ?_⟩
          · have hq := vinv_app (k := kk) (r := r) hI3.out hst'.out (by rw [hu16'.out]; simp; have := (hkeep.out).2.2.2.2.1; omega) (by rw [hu16'.out, ← List.append_assoc]; exact hB2) (hbb.out.trans hb2)
            exact hq
          · show Mm - kk < Mm
            omega
        · skip
          go_wp2_with fail
          refine (her.out _).mono ?_
          rintro e w2 ⟨rfl, hd2⟩
          have hI2 := Lib.hid (vinv_below hI1.out hd2.below)
          clear hI1 hd2 her
          have hal1 : Below w2.heap.size w2 (w2.alloc (.cells #[.int .u8 ((u1 : Int) / 256), .int .u8 ((u1 : Int) % 256)] 5)) := (Below.refl _ _).alloc (Nat.le_refl _) _
          have hti1 := two_int u1 gu1
          have hcn1 : (w2.alloc (.cells #[.int .u8 ((u1 : Int) / 256), .int .u8 ((u1 : Int) % 256)] 5)).heap[w2.heap.size]? = some (.cells #[.int .u8 ((UInt8.ofNat (u1 / 256)).toNat : Int), .int .u8 ((UInt8.ofNat u1).toNat : Int)] 5 (0, 0)) := by
            rw [← hti1.1, ← hti1.2]; exact heap_alloc_new _ _
          have hcn1' := Lib.hid hcn1
          clear hti1 hcn1
          have hI3 := Lib.hid (vinv_below hI2.out hal1)
          have hll := hI2.out.2.2.2
          have hkk := hkeep.out
          have hll2 : l.length ≤ 100000 := by omega
          clear hal1 hll hkk
          go_upto_region 11 with (at_builtin; refine wpList_app2 rfl (.tmp 34) (.tmp 40) rfl rfl w.heap.size v l w2.heap.size (UInt8.ofNat (u1 / 256)) (UInt8.ofNat u1) (by simp [Act.eval, Act.put]) (by simp [Act.eval, Act.put]) hI3.out.1 hI3.out.2.1.size (by omega) hcn1'.out ?_; intro v1 W1 hB1 hb1)
          have hal2 : Below W1.heap.size W1 (W1.alloc (.cells #[.int .u8 ((u2 : Int) / 256), .int .u8 ((u2 : Int) % 256)] 5)) := (Below.refl _ _).alloc (Nat.le_refl _) _
          have hti2 := two_int u2 gu2
          have hcn2 : (W1.alloc (.cells #[.int .u8 ((u2 : Int) / 256), .int .u8 ((u2 : Int) % 256)] 5)).heap[W1.heap.size]? = some (.cells #[.int .u8 ((UInt8.ofNat (u2 / 256)).toNat : Int), .int .u8 ((UInt8.ofNat u2).toNat : Int)] 5 (0, 0)) := by
            rw [← hti2.1, ← hti2.2]; exact heap_alloc_new _ _
          have hcn2' := Lib.hid hcn2
          clear hti2 hcn2
          have hbb := Lib.hid (hb1.out.trans (hal2.mono (Nat.le_trans hI3.out.2.1.size hb1.out.size)))
          have hB1b := Lib.hid (brow_below hB1.out hal2)
          have hll3 : (l ++ [UInt8.ofNat (u1 / 256), UInt8.ofNat u1]).length ≤ 1000000 := by simp; omega
          have hsz := Lib.hid (Nat.le_trans hI3.out.2.1.size hbb.out.size)
          clear hal2
          go_wp2_with (at_builtin; refine wpList_app2 rfl (.tmp 43) (.tmp 49) rfl rfl w.heap.size v1 (l ++ [UInt8.ofNat (u1 / 256), UInt8.ofNat u1]) W1.heap.size (UInt8.ofNat (u2 / 256)) (UInt8.ofNat u2) (by simp [Act.eval, Act.put]) (by simp [Act.eval, Act.put]) hB1b.out hsz.out hll3 hcn2'.out ?_; intro v2 W2 hB2 hb2)
          obtain ⟨k1, k2, k3, k4, k5, k6⟩ := hkeep.out
          refine ⟨⟨p + kk, l ++ u16e r, some ⟨Bs, P0 + kk, none⟩, v2, by rw [show Mm - kk = m - (p + kk) by omega, show C - kk = cap - (p + kk) by omega], rfl, by omega, fun h => by rw [show P0 + kk = so + (p + kk) by omega], Lib.hid ?_⟩, ?_⟩
          · have hq := vinv_app (k := kk) (r := r) hI3.out hst'.out (by rw [hu16'.out]; simp; have := (hkeep.out).2.2.2.2.1; omega) (by rw [hu16'.out, ← List.append_assoc]; exact hB2) (hbb.out.trans hb2)
            exact hq
          · show Mm - kk < Mm
            omega
    · have hpe : p = m := by omega
      obtain ⟨i1, i2, i3, i4⟩ := hI.out
      have hUe : encF X = l := by rw [i3, hpe, ← hm'.out, List.drop_length, encF_nil, List.append_nil]
      have hl0 : 0 < l.length := by
        rw [← hUe, encF_step X (fun h => by rw [h] at hm'; have := hm'.out; simp at this; omega)]
        have : 0 < (u16e (Lib.decodeGo ⟨X.toArray⟩).1).length := by unfold u16e; split <;> simp [two]
        rw [List.length_append]; omega
      obtain ⟨n, hn⟩ : ∃ n, l.length = n := ⟨_, rfl⟩
      have i1' : wq.ownsRow w.heap.size 5 1 v l.length (Lib.byteCells l) := i1
      rcases i1'.2 with ⟨_, h0⟩ | ⟨g, c, cur, hv, hgw, hg, hnc, hcm, hcs, hct⟩
      · omega
      subst hv
      have hsrcU : ∀ j x, l[j]? = some x → wq.cell? ⟨g, 0 + j, none⟩ = some (.int .u8 (x.toNat : Int)) := fun j x hx => by
        have hlt := (List.getElem?_eq_some_iff.1 hx).1
        rw [Nat.zero_add, cell_of_row wq g j cur _ _ hg]
        have e : cur.toList[j]? = (Lib.byteCells l)[j]? := by rw [← hct, List.getElem?_take_of_lt (by omega)]
        have e2 : cur[j]? = cur.toList[j]? := by simp
        rw [e2, e]
        unfold Lib.byteCells
        rw [List.getElem?_map, hx]; rfl
      rw [hn] at hl0 hnc i4
      have hsrcU' := Lib.hid hsrcU
      have hkeepU := Lib.hid (And.intro hUe (And.intro hn (And.intro i2 (And.intro hgw hg))))
      rw [hn]
      have hn4 : n ≤ 4000 := by omega
      have hcb := Lib.hid (fun W => b64_any W)
      obtain ⟨Q, hQ⟩ : ∃ Q, (n + 2) / 3 * 4 = Q := ⟨_, rfl⟩
      obtain ⟨N, hN⟩ : ∃ N, Q + 2 = N := ⟨_, rfl⟩
      have hNi : (Q : Int) + 2 = (N : Int) := by omega
      have hN2 : N ≤ 10000 := by omega
      have hmk2 : ∀ W, (Instr.makeSlice 38 (.int .i64 (N : Int)) (.int .i64 (N : Int))).run Tryd.prog W = .ok (.slice (some ⟨W.heap.size, 0, none⟩) N N) (W.alloc (.cells (madeCells #[.int .u8 0] N) 5)) := make_u8 N (by omega)
      obtain ⟨Z2, hZ2⟩ : ∃ Z, madeCells #[Value.int .u8 0] N = Z := ⟨_, rfl⟩
      rw [hZ2] at hmk2
      have hZ2' := Lib.hid hZ2
      clear hZ2 i1 i2 i3 i4 i1' hUe hsrcU hI hp ha0 hcs hct hg hcm
      go_wp2_with fail
      refine (hcb.out _).mono ?_
      rintro e w1 ⟨rfl, hE1, hb1⟩
      have hel := Lib.hid (encLen_any w1 wq.heap.size n (by omega) hE1)
      rw [hQ] at hel
      have hb1' := Lib.hid hb1
      clear hb1 hE1
      go_wp2_with fail
      refine hel.out.mono ?_
      clear hel
      rintro e w2 ⟨rfl, hb2⟩
      have hb2' := Lib.hid (hb1'.out.trans (hb2.mono hb1'.out.size))
      clear hb2 hb1'
      go_wp2_with fail
      have hal0 : Below w2.heap.size w2 (w2.alloc (.cells Z2 5)) := (Below.refl _ _).alloc (Nat.le_refl _) _
      have hrow0 := row_made w2 N
      rw [hZ2'.out] at hrow0
      have hsz0 : (w2.alloc (.cells Z2 5)).heap.size = w2.heap.size + 1 := by simp
      have hgl : g < w2.heap.size := by
        have h1 := (Array.getElem?_eq_some_iff.1 hkeepU.out.2.2.2.2).1
        have h2 := hb2'.out.size
        omega
      have hq7 := enc64_len l
      rw [hkeepU.out.2.1] at hq7
      have hencode := Lib.hid (show ∀ (W : World) (E : Nat), Below (w2.alloc (.cells Z2 5)).heap.size (w2.alloc (.cells Z2 5)) W → EncAt W E 64 → E ≠ w2.heap.size →
          Calls Tryd.prog 29 #[.pointer (some ⟨E, 0, none⟩), .slice (some ⟨w2.heap.size, 1, none⟩) (N - 1) (N - 1), .slice (some ⟨g, 0, none⟩) n c] W fun e w' =>
            e = .returned (.tuple #[]) ∧ But w2.heap.size W w' ∧ Row0 5 w' w2.heap.size ([0] ++ enc64 l ++ [0]) from fun W E hbW hEW hne => by
        have hrW : Row0 5 W w2.heap.size ([0] ++ List.replicate (N - 1) 0) := by
          have := hrow0.below hbW
          rw [show List.replicate N (0 : UInt8) = [0] ++ List.replicate (N - 1) 0 by rw [show N = (N - 1) + 1 by omega, List.replicate_succ]; simp] at this
          exact this
        have hsW : ∀ i x, l[i]? = some x → W.cell? ⟨g, 0 + i, none⟩ = some (.int .u8 (x.toNat : Int)) := fun i x hx => by
          have h0 := hsrcU'.out i x hx
          have h1 := ((hb2'.out.cell (World.block_lt_of_cell? wq _ h0)).trans h0)
          have h2 := ((hal0.cell (World.block_lt_of_cell? w2 _ h1)).trans h1)
          exact (hbW.cell (World.block_lt_of_cell? _ _ h2)).trans h2
        have := encode_any W w2.heap.size 1 (N - 1) g 0 c E l [0] (List.replicate (N - 1) 0) hrW rfl (by omega) hne hsW hEW (by rw [hkeepU.out.2.1]; exact hl0) (by rw [hkeepU.out.2.1]; omega) (by simp; omega) (by rw [hkeepU.out.2.1]; exact hnc) (by simp) (by rw [hkeepU.out.2.1]; simp; omega)
        rw [hkeepU.out.2.1, List.length_replicate] at this
        refine this.mono ?_
        rintro e w' ⟨h1, h2, h3⟩
        refine ⟨h1, h2, ?_⟩
        have hd : (List.replicate (N - 1) (0 : UInt8)).drop (enc64 l).length = [0] := by
          rw [hq7, List.drop_replicate, show N - 1 - 4 * ((n + 2) / 3) = 1 by omega]; rfl
        rw [hd] at h3
        exact h3)
      have hb0' := Lib.hid (hb2'.out.trans (hal0.mono hb2'.out.size))
      have hQl := Lib.hid (show (enc64 l).length = Q by rw [hq7]; omega)
      clear hal0 hrow0 hmk2
      go_cut [] from 58 to 62 (fun wx => Hid (But w2.heap.size (w2.alloc (.cells Z2 5)) wx) ∧ Hid (Row0 5 wx w2.heap.size ([0] ++ enc64 l ++ [0])))
      case first =>
        go_region_with ((first | (go_at_call 20; refine (hcb.out _).mono ?_; rintro e w3 ⟨rfl, hE3, hb3⟩) | (go_at_call 29; go_loud (refine (hencode.out _ _ (by first | exact hb3 | exact below_dr hb3 | exact (below_dr hb3).drew | exact hb3.drew) (by first | exact hE3 | simpa using hE3) (by simp)).mono ?_); rintro e w4 ⟨rfl, hbut, hrow4⟩)))
        all_goals
          go_wp2_with fail
          go_meet
          exact ⟨Lib.hid ((But.of_below (by first | exact hb3 | exact below_dr hb3)).trans hbut), Lib.hid hrow4⟩
      case rest =>
        obtain ⟨hbx, hrx⟩ := hcut
        clear hencode hcb hq7
        obtain ⟨r3, hr3⟩ : ∃ r, (n + 2) % 3 = r := ⟨_, rfl⟩
        have hrem : Int.tmod ((n : Int) + 2) 3 = (r3 : Int) := by rw [Int.tmod_eq_emod_of_nonneg (by omega)]; omega
        obtain ⟨k1, hk1⟩ : ∃ k, N - (2 - r3) - 1 = k := ⟨_, rfl⟩
        have hk1i : (N : Int) - (2 - (r3 : Int)) = (k1 : Int) + 1 := by omega
        have hk1N : (k1 : Int) + 1 ≤ (N : Int) := by omega
        have hrl : ([0] ++ enc64 l ++ [0] : List UInt8).length = N := by simp [hQl.out]; omega
        have d0 : wc.cell? ⟨w2.heap.size, 0, none⟩ = some (.int .u8 ((0 : UInt8).toNat : Int)) := hrx.out.cell (by simp)
        obtain ⟨y1, hy1⟩ : ∃ y, ([0] ++ enc64 l ++ [0] : List UInt8)[k1]? = some y := ⟨_, List.getElem?_eq_getElem (by rw [hrl]; omega)⟩
        have d1 := hrx.out.cell hy1
        have f0 := hrx.out.free 0
        have f1 := hrx.out.free k1
        have hkk := Lib.hid (And.intro hr3 (And.intro hk1 (And.intro hrl (And.intro hQ hN))))
        clear hr3 hk1 hrl hQ hN hy1
        by_cases hk0 : k1 = 0
        · exfalso
          obtain ⟨h1, h2, h3, h4, h5⟩ := hkk.out
          omega
        go_wp2_with fail
        go_ret
        obtain ⟨h1, h2, h3, h4, h5⟩ := hkk.out
        obtain ⟨hUe, hn, u2, u3, u4⟩ := hkeepU.out
        have hsl : strip64 (encF X) = (enc64 l).take (k1 - 1) := by
          unfold strip64
          rw [hUe, hQl.out, hn, h1, show Q - (2 - r3) = k1 - 1 by omega]
        have hsn : ((enc64 l).take (k1 - 1)).length = k1 - 1 := by rw [List.length_take, hQl.out]; omega
        have he7 : enc7 X = 38 :: (enc64 l).take (k1 - 1) ++ [45] := by unfold enc7; rw [hsl]
        have hlen7 : (enc7 X).length = k1 + 1 := by rw [he7]; simp only [List.cons_append, List.length_cons, List.length_append, hsn, List.length_nil]; omega
        have hset := (hrx.out.set 0 38).set k1 45
        have hBge := Nat.le_trans u2.size hb2'.out.size
        refine ⟨((hbx.out.setIt _ _).setIt _ _).below (u2.trans (hb0'.out.mono u2.size)) hBge, w2.heap.size, _, by rw [hlen7]; rfl, hBge, fun j x hx => ?_⟩
        refine hset.cell ?_
        obtain ⟨tl, htl⟩ := shift_row (enc64 l) (k1 - 1) (by rw [hQl.out]; omega)
        rw [show k1 - 1 + 1 = k1 by omega] at htl
        rw [htl, ← he7]
        rw [List.getElem?_append_left (List.getElem?_eq_some_iff.1 hx).1]
        exact hx
end Go.Proofs.YtbjhmmiijebehaaDoor.Own
