/- Plain words on the encoder's Transform of modified UTF-7: runs of bytes, and how long their shifts are. No law of the program is proved here. The encoder's Transform of modified UTF-7, at the end of its text. utf7.Encode and impl.Utf7: the text in modified UTF-7. -/
import Derived.Test.YtbjhmmiijebehaaDoorMI
import Derived.Test.YtbjhmmiijebehaaDoorMD
namespace Go.Proofs.YtbjhmmiijebehaaDoor.Own
open Go.RowKit Go.Lib
set_option linter.unusedVariables false
set_option linter.unusedSimpArgs false

/-- A byte that stands for itself. -/
def prn (c : UInt8) : Bool := 32 ≤ c.toNat && c.toNat ≤ 126
theorem u16e_twice (r k : Nat) (h : r < 65536 ∧ 1 ≤ k ∨ k = 4) : (u16e r).length ≤ 2 * k := by
  unfold u16e
  split
  · simp [two]; omega
  · rcases h with h | h
    · omega
    · simp [two]; omega
theorem decode_wide (s : ByteArray) (h : 0 < s.size) : (Utf8.decode s 0).1 < 65536 ∧ 1 ≤ (Utf8.decode s 0).2 ∨ (Utf8.decode s 0).2 = 4 := by
  have hb : ∀ k, (s.get! k).toNat < 256 := fun k => UInt8.toNat_lt _
  unfold Utf8.decode
  simp only [Utf8.runeError]
  have b0 := hb (0 + 0)
  have b1 := hb (0 + 1)
  have b2 := hb (0 + 2)
  split
  · left; simp only; omega
  · split
    · split <;> (left; simp only; omega)
    · split
      · split <;> (left; simp only; omega)
      · split
        · split
          · right; rfl
          · left; simp only; omega
        · left; simp only; omega
theorem encU_len : ∀ (n : Nat) (l : List UInt8), (encU n l).length ≤ 2 * l.length
  | 0, l => by simp [encU]
  | n + 1, l => by
    unfold encU
    by_cases hl : l = []
    · rw [if_pos hl]; simp
    · rw [if_neg hl]
      have hp := decGo_pos l hl
      have hs : 0 < (⟨l.toArray⟩ : ByteArray).size := List.length_pos_iff.2 hl
      have hw := decode_wide ⟨l.toArray⟩ hs
      have hd : Lib.decodeGo ⟨l.toArray⟩ = Utf8.decode ⟨l.toArray⟩ 0 := by unfold Lib.decodeGo; rw [if_neg (by omega)]
      rw [← hd] at hw
      have h1 := u16e_twice _ _ hw
      have h2 := encU_len n (l.drop (Lib.decodeGo ⟨l.toArray⟩).2)
      rw [List.length_drop] at h2
      rw [List.length_append]
      omega
theorem encF_len (l : List UInt8) : (encF l).length ≤ 2 * l.length := encU_len _ l
theorem enc7_len (X : List UInt8) (h : X ≠ []) : (enc7 X).length ≤ 8 * X.length ∧ 2 ≤ (enc7 X).length := by
  have h1 := encF_len X
  have h2 := enc64_len (encF X)
  have h3 := List.length_pos_iff.2 h
  unfold enc7 strip64
  simp only [List.cons_append, List.length_cons, List.length_append, List.length_take, List.length_nil]
  omega
/-- The text in modified UTF-7, as the code writes it: f bounds the rounds. -/
def tE : Nat → List UInt8 → List UInt8
  | 0, _ => []
  | _ + 1, [] => []
  | n + 1, c :: t => if prn c then (if c = 38 then [38, 45] else [c]) ++ tE n t else enc7 (c :: t.takeWhile fun x => !prn x) ++ tE n (t.dropWhile fun x => !prn x)
theorem tE_more : ∀ (n m : Nat) (l : List UInt8), l.length ≤ n → l.length ≤ m → tE n l = tE m l
  | 0, m, l, h, _ => by
    have : l = [] := List.eq_nil_of_length_eq_zero (by omega)
    subst this
    cases m <;> rfl
  | n + 1, 0, l, _, h => by
    have : l = [] := List.eq_nil_of_length_eq_zero (by omega)
    subst this; rfl
  | n + 1, m + 1, [], _, _ => rfl
  | n + 1, m + 1, c :: t, hn, hm => by
    simp only [List.length_cons] at hn hm
    rw [tE, tE, tE_more n m t (by omega) (by omega)]
    have hd : (t.dropWhile fun x => !prn x).length ≤ t.length := (List.dropWhile_sublist _).length_le
    rw [tE_more n m (t.dropWhile fun x => !prn x) (by omega) (by omega)]
def tF (l : List UInt8) : List UInt8 := tE l.length l
theorem tF_nil : tF [] = [] := rfl
theorem tF_prn (c : UInt8) (t : List UInt8) (h : prn c = true) : tF (c :: t) = (if c = 38 then [38, 45] else [c]) ++ tF t := by
  unfold tF
  rw [List.length_cons, tE, if_pos h]
theorem tF_run (c : UInt8) (t : List UInt8) (h : prn c = false) : tF (c :: t) = enc7 (c :: t.takeWhile fun x => !prn x) ++ tF (t.dropWhile fun x => !prn x) := by
  unfold tF
  have hd : (t.dropWhile fun x => !prn x).length ≤ t.length := (List.dropWhile_sublist _).length_le
  rw [List.length_cons, tE, h, if_neg (by decide), tE_more t.length (t.dropWhile fun x => !prn x).length _ hd (Nat.le_refl _)]
end Go.Proofs.YtbjhmmiijebehaaDoor.Own

namespace Go.Proofs.YtbjhmmiijebehaaDoor.Own
open Go.RowKit Go.Lib
set_option linter.unusedVariables false
set_option linter.unusedSimpArgs false

def TE (w : World) (B Bs so : Nat) (S l : List UInt8) : Prop := Row0 5 w B l ∧ ∀ i c, S[i]? = some c → w.cell? ⟨Bs, so + i, none⟩ = some (.int .u8 (c.toNat : Int))
theorem TE.below {w W : World} {B Bs so : Nat} {S l : List UInt8} (h : TE w B Bs so S l) (hb : Below w.heap.size w W) : TE W B Bs so S l :=
  ⟨h.1.below hb, fun i c hc => (hb.cell (World.block_lt_of_cell? w _ (h.2 i c hc))).trans (h.2 i c hc)⟩
theorem TE.put {w : World} {B Bs so : Nat} {S l : List UInt8} (h : TE w B Bs so S l) (h2 : Bs ≠ B) (j : Nat) (c : UInt8) : TE (w.setCell ⟨B, j, none⟩ (.int .u8 (c.toNat : Int))) B Bs so S (l.set j c) :=
  ⟨h.1.set j c, fun i c' hc => (But.setCell B j w _).cell h2 (h.2 i c' hc)⟩
def Yinv (w wr : World) (b0 B Bs so R : Nat) (S out : List UInt8) (i : Nat) : Prop :=
  i ≤ S.length ∧ tF S = out ++ tF (S.drop i) ∧ out.length ≤ 8 * i ∧ Below b0 w wr ∧ ∃ x, TE wr B Bs so S (out ++ x) ∧ out.length + x.length = R
theorem run_app1 (base : Nat) (W : World) (v : Value) (l : List UInt8) (h : BRow W base v l) (hb : base ≤ W.heap.size) (hl : l.length ≤ 1000000) (nb : Nat) (y : UInt8)
    (hc : W.heap[nb]? = some (.cells #[.int .u8 (y.toNat : Int)] 5 (0, 0))) :
    ∃ v' W', (Builtin.append_ #[38, 38] 38 #[v, .slice (some ⟨nb, 0, none⟩) 1 1]).run Tryd.prog W = .ok v' W' ∧ BRow W' base v' (l ++ [y]) ∧ Below base W W' := by
  obtain ⟨i, hi, hzz⟩ := Option.map_eq_some_iff.1 info_u8z
  simp only [Prod.mk.injEq] at hzz
  obtain ⟨hz, hs, hby⟩ := hzz
  obtain ⟨v', W', h1, h2, h3, _⟩ := run_append_own (P := Tryd.prog) W base 38 38 5 i (.int .u8 0) 1 1 Tryd.underlying38 hi hz hs hby rfl (by decide) v l.length (Lib.byteCells l) h ⟨nb, 0, none⟩ 1 1 (Lib.byteCells [y]) rfl
    (fun j u hu => by
      have hadd : (⟨nb, 0, none⟩ : Addr).add j = ⟨nb, j, none⟩ := by unfold Addr.add; split <;> simp_all
      rw [hadd, cell_of_row _ _ _ _ _ _ hc]
      match j, hu with
      | 0, h => cases h; rfl
      | j + 1, h => simp [Lib.byteCells] at h) (byteCells_one _) (by unfold maxLen; omega) (by omega) hb
  refine ⟨v', W', h1, ?_, ?_⟩
  · unfold BRow
    rw [List.length_append]
    have e : Lib.byteCells (l ++ [y]) = Lib.byteCells l ++ Lib.byteCells [y] := by simp [Lib.byteCells]
    rw [e]
    exact h2
  · refine ⟨h3.os, h3.tape, h3.output, h3.size, fun k hk => h3.block k (by omega) ?_⟩
    rcases h.2 with ⟨hv, _⟩ | ⟨g, cap, cur, hv, hg, _⟩
    · rw [hv]; intro e; cases e
    · rw [hv]
      intro e
      have : k = g := Option.some.inj e
      omega
theorem wpList_app1 {ops : Array Oper} {rest : List Oper} {o : Oper} {a : Act} {w : World} {Q : Exit → Act → World → Prop} (hgd : o.guard = none) (d s : Operand)
    (ho : o.op = .call { callee := .builtin .append, args := #[d, s], argTypes := #[38, 38] }) (hty : o.type = 38) (base : Nat) (v : Value) (l : List UInt8) (nb : Nat) (y : UInt8)
    (hd : a.eval d = v) (hs : a.eval s = .slice (some ⟨nb, 0, none⟩) 1 1) (h : BRow w base v l) (hb : base ≤ w.heap.size) (hl : l.length ≤ 1000000)
    (hc : w.heap[nb]? = some (.cells #[.int .u8 (y.toNat : Int)] 5 (0, 0)))
    (hk : ∀ v' W', Hid (BRow W' base v' (l ++ [y])) → Hid (Below base w W') → wpList Tryd.prog ops Q rest (a.put o.dst v') W') : wpList Tryd.prog ops Q (o :: rest) a w := by
  refine wpList_plain hgd fun K hK => ?_
  obtain ⟨v', W', hrun, h1, h2⟩ := run_app1 base w v l h hb hl nb y hc
  unfold Oper.wp
  simp [execOp, ho, hty, resolve, invoke, builtin, hd, hs, hrun, Result.andThen]
  exact hK _ _ (hk v' W' h1 h2)
theorem brow_cells {W : World} {base : Nat} {v : Value} {l : List UInt8} (h : BRow W base v l) (hl : l ≠ []) : ∃ g cap, v = .slice (some ⟨g, 0, none⟩) l.length cap ∧ base ≤ g ∧ ∀ j y, l[j]? = some y → W.cell? ⟨g, j, none⟩ = some (.int .u8 (y.toNat : Int)) := by
  obtain ⟨hl3, ⟨_, h0⟩ | ⟨g, cap, cur, hv, hg, hc, hcap, _, hcs, htk⟩⟩ := h
  · exact absurd (List.eq_nil_of_length_eq_zero h0) hl
  · refine ⟨g, cap, hv, hg, fun j y hy => ?_⟩
    have hj := (List.getElem?_eq_some_iff.1 hy).1
    rw [cell_of_row _ _ _ _ _ _ hc, ← Array.getElem?_toList, ← List.getElem?_take_of_lt (show j < l.length * 1 by omega), htk, Lib.byteCells, List.getElem?_map, hy]
    rfl
/-- Behind k more bytes of a run. -/
def Run (t : List UInt8) (k : Nat) : Prop := k ≤ t.length ∧ t.takeWhile (fun x => !prn x) = t.take k ++ (t.drop k).takeWhile (fun x => !prn x) ∧ t.dropWhile (fun x => !prn x) = (t.drop k).dropWhile (fun x => !prn x)
theorem run_step (t u : List UInt8) (k : Nat) (c : UInt8) (h : Run t k) (hd : t.drop k = c :: u) (hc : prn c = false) : Run t (k + 1) := by
  obtain ⟨h1, h2, h3⟩ := h
  have hlt : k < t.length := by have := congrArg List.length hd; simp at this; omega
  have hd2 : t.drop (k + 1) = u := by rw [← List.drop_drop, hd]; rfl
  have hk : t[k]? = some c := by have := congrArg (·[0]?) hd; simpa using this
  refine ⟨hlt, ?_, ?_⟩
  · rw [h2, hd, hd2, List.take_add_one, hk]
    simp [hc]
  · rw [h3, hd, hd2]
    simp [hc]
set_option maxHeartbeats 8000000 in
set_option maxRecDepth 100000 in
theorem transE_any (w : World) (b0 B Bs so scap R dcap : Nat) (D : Value) (S rest0 : List UInt8) (hB : b0 ≤ B) (hw : b0 ≤ w.heap.size) (hSB : Bs ≠ B) (hT : ∀ W, Below b0 w W → Lib.Utf8Tabs 3 4 W)
    (hTE : TE w B Bs so S rest0) (hrl : rest0.length = R) (hroom : 8 * S.length ≤ R) (hR : R < 100000) (hL500 : S.length ≤ 1000) (hscap : S.length ≤ scap) (hdcap : R ≤ dcap) :
    Calls Tryd.prog 17 #[D, .slice (some ⟨B, 0, none⟩) R dcap, .slice (some ⟨Bs, so, none⟩) S.length scap, .bool true] w fun e w' =>
      Below b0 w w' ∧ (∃ m : Int, e = .returned (.tuple #[.int .i64 ((tF S).length : Int), .int .i64 m, .nilIface])) ∧ ∃ x, Row0 5 w' B (tF S ++ x) ∧ (tF S).length + x.length = R := by
  have hI : Yinv w w b0 B Bs so R S [] 0 := ⟨by omega, by simp, by simp, Below.refl _ _, rest0, by simpa using hTE, by simpa using hrl⟩
  have hI' := Lib.hid hI
  have hT' := Lib.hid hT
  have hw' := Lib.hid hw
  obtain ⟨L, hL⟩ : ∃ L, S.length = L := ⟨_, rfl⟩
  rw [hL] at hroom hL500 hscap ⊢
  have hL' := Lib.hid hL
  clear hI hT hw hTE hrl hL
  go_enter Tryd.func17, Tryd.ntmps17
  go_wp2_with fail
  go_loopw [8, 9, 10, 11] (fun s8 s9 s10 s11 wr => ∃ (i m : Nat) (out : List UInt8), s11 = .int .i64 (i : Int) ∧ s8 = .int .i64 (out.length : Int) ∧ s9 = .int .i64 (m : Int) ∧ s10 = .nilIface ∧ Hid (Yinv w wr b0 B Bs so R S out i)) (fun _ _ _ s11 _ => L - (RowKit.intOf s11).toNat)
  case atStart => exact ⟨0, 0, [], rfl, rfl, rfl, rfl, hI'⟩
  case round =>
    obtain ⟨wq, hwq⟩ : ∃ wq : World, wq = wr := ⟨_, rfl⟩
    rw [← hwq] at hrel ⊢
    clear hwq hI'
    obtain ⟨i, m, out, rfl, rfl, rfl, rfl, hI⟩ := hrel
    obtain ⟨n, hn⟩ : ∃ n, out.length = n := ⟨_, rfl⟩
    rw [hn]
    have hn' := Lib.hid hn
    clear hn
    by_cases hi : i < L
    · obtain ⟨h1, h2, h3, h4, x, h5, h6⟩ := hI.out
      have hL := hL'.out
      have hn := hn'.out
      obtain ⟨c, t, hd⟩ : ∃ c t, S.drop i = c :: t := by
        rcases hd : S.drop i with _ | ⟨c, t⟩
        · have := congrArg List.length hd; simp at this; omega
        · exact ⟨c, t, rfl⟩
      have hdt : S.drop (i + 1) = t := by rw [← List.drop_drop, hd]; rfl
      have hSi : S[i]? = some c := by have := congrArg (·[0]?) hd; simpa using this
      have q0 := h5.2 i c hSi
      have gi : (i : Int) < (L : Int) := by omega
      have gc : (c.toNat : Int) < 256 := by have := UInt8.toNat_lt c; omega
      have h2' := Lib.hid (And.intro h2 (And.intro hd (And.intro hdt (And.intro h3 h4))))
      have h5' := Lib.hid (And.intro h5 h6)
      have gn8 : n ≤ 8 * i := by omega
      clear h2 hd hdt h4 h5 h6 hSi hL hn h3 h1
      by_cases hp : prn c = true
      · have hp1 : (32 : Int) ≤ (c.toNat : Int) := by unfold prn at hp; simp at hp; omega
        have hp2 : (c.toNat : Int) ≤ 126 := by unfold prn at hp; simp at hp; omega
        have hp' := Lib.hid hp
        clear hp
        have hbq := h2'.out.2.2.2.2
        have hszq : b0 ≤ wq.heap.size := Nat.le_trans hw'.out hbq.size
        have hBlt := h5'.out.1.1.lt
        have hTSa := h5'.out.1.below ((Below.refl _ _).alloc (Nat.le_refl _) (.cells #[.int .u8 (c.toNat : Int)] 5))
        have hbm := hbq.alloc hszq (.cells #[.int .u8 (c.toNat : Int)] 5)
        have hnew := heap_alloc_new wq (.cells #[.int .u8 (c.toNat : Int)] 5)
        have hcl : (wq.alloc (.cells #[.int .u8 (c.toNat : Int)] 5)).cell? ⟨wq.heap.size, 0, none⟩ = some (.int .u8 (c.toNat : Int)) := (cell_of_row _ _ 0 _ _ _ hnew).trans rfl
        have hTSb := Lib.hid (show ∃ x2, TE (wq.alloc (.cells #[.int .u8 (c.toNat : Int)] 5)) B Bs so S (out ++ x2) ∧ n + 0 + x2.length = R ∧ Below b0 w (wq.alloc (.cells #[.int .u8 (c.toNat : Int)] 5)) from ⟨x, hTSa, by have := h5'.out.2; have := hn'.out; omega, hbm⟩)
        have hcl' := Lib.hid (And.intro hcl hnew)
        have hq' := Lib.hid (And.intro hszq hBlt)
        clear hbq hszq hTSa hbm hcl hnew hBlt
        by_cases h38 : c = 38
        · have n38 : ((c.toNat : Int) == 38) = true := by rw [h38]; rfl
          have h38' := Lib.hid h38
          have gr1 : (n : Int) + 2 ≤ (R : Int) := by omega
          clear h38
          go_upto_region 8 with fail
          have hBsz := hq'.out.2
          have hBR := Lib.hid (show BRow (wq.alloc (.cells #[.int .u8 (c.toNat : Int)] 5)) wq.heap.size (.slice (some ⟨wq.heap.size, 0, none⟩) 1 1) [c] from ⟨rfl, .inr ⟨wq.heap.size, 1, _, rfl, Nat.le_refl _, hcl'.out.2, Nat.le_refl 1, by decide, rfl, rfl⟩⟩)
          have hab : Below wq.heap.size wq (wq.alloc (.cells #[.int .u8 (c.toNat : Int)] 5)) := (Below.refl _ _).alloc (Nat.le_refl _) _
          have hab' := Lib.hid hab
          clear hab
          have hsz1 : wq.heap.size ≤ (wq.alloc (.cells #[.int .u8 (c.toNat : Int)] 5)).heap.size := (((Below.refl _ _).alloc (Nat.le_refl _) (.cells #[.int .u8 (c.toNat : Int)] 5)) : Below wq.heap.size wq _).size
          generalize wq.alloc (.cells #[.int .u8 (c.toNat : Int)] 5) = wb at hTSb hcl' hBR hsz1 hab' ⊢
          have hsz1' := Lib.hid hsz1
          have hal : Below wq.heap.size wb (wb.alloc (.cells #[.int .u8 45] 5)) := (Below.refl _ _).alloc hsz1 _
          have hBR2 := Lib.hid (brow_below hBR.out ((Below.refl _ _).alloc (Nat.le_refl _) (.cells #[.int .u8 45] 5)))
          have hsz2 := Lib.hid (Nat.le_trans hsz1 hal.size)
          have hcn := Lib.hid (show (wb.alloc (.cells #[.int .u8 45] 5)).heap[wb.heap.size]? = some (.cells #[.int .u8 (((45 : UInt8)).toNat : Int)] 5 (0, 0)) from heap_alloc_new _ _)
          have hal' := Lib.hid hal
          clear hsz1 hal hBsz
          go_upto_region 9 with (at_builtin; refine wpList_app1 rfl (.tmp 35) (.tmp 36) rfl rfl wq.heap.size (.slice (some ⟨wq.heap.size, 0, none⟩) 1 1) [c] wb.heap.size 45 (by simp [Act.eval, Act.put]) (by simp [Act.eval, Act.put]) hBR2.out hsz2.out (by simp) hcn.out ?_; intro v3 W3 hB3 hb3)
          obtain ⟨Bb, cb, hv3, hBge, hcb⟩ := brow_cells hB3.out (by simp)
          have hv3 : v3 = .slice (some ⟨Bb, 0, none⟩) 2 cb := hv3
          subst hv3
          have hw3 : Below wq.heap.size wq W3 := (hab'.out.trans (hal'.out.trans hb3.out))
          have hBb : Bb ≠ B := by have := hq'.out.2; omega
          have hTSc := Lib.hid (show ∃ x2, TE W3 B Bs so S (out ++ x2) ∧ n + 0 + x2.length = R ∧ Below b0 w W3 from ⟨x, h5'.out.1.below hw3, by have := h5'.out.2; have := hn'.out; omega, h2'.out.2.2.2.2.trans (hw3.mono hq'.out.1)⟩)
          have hbc := Lib.hid hcb
          have hnb := Lib.hid (show ([c, 45] : List UInt8).length = 2 from rfl)
          have hF := Lib.hid (show tF (S.drop i) = [c, 45] ++ tF (S.drop (i + 1)) by
            obtain ⟨h2, hd, hdt, h3, h4⟩ := h2'.out
            rw [hd, hdt, tF_prn c t hp'.out, if_pos h38'.out, h38'.out])
          have hbl' := Lib.hid (show i + 1 ≤ L ∧ 2 + n ≤ 8 * (i + 1) by omega)
          clear hTSb hcl' hBR hsz1' hab' hal' hBR2 hsz2 hcn hB3 hb3 hBge hcb hw3
          have hTSb := hTSc
          clear hTSc
          go_wp2_with fail
          go_loopw [8, 88] (fun s8 s88 wl => ∃ q : Nat, q ≤ 2 ∧ s88 = .int .i64 (q : Int) ∧ s8 = .int .i64 ((n + q : Nat) : Int) ∧ Hid (∃ x2, TE wl B Bs so S ((out ++ ([c, 45] : List UInt8).take q) ++ x2) ∧ n + q + x2.length = R ∧ Below b0 w wl ∧ ∀ j y, ([c, 45] : List UInt8)[j]? = some y → wl.cell? ⟨Bb, j, none⟩ = some (.int .u8 (y.toNat : Int)))) (fun _ s88 _ => 2 - (RowKit.intOf s88).toNat)
          case atStart => exact ⟨0, by omega, rfl, by simp, Lib.hid (by obtain ⟨x2, u1, u2, u3⟩ := hTSb.out; exact ⟨x2, by simpa using u1, u2, u3, hbc.out⟩)⟩
          case round =>
            obtain ⟨wz, hwz⟩ : ∃ wz : World, wz = wr := ⟨_, rfl⟩
            rw [← hwz] at hrel ⊢
            clear hwz hTSb hbc
            obtain ⟨q, hqn, rfl, rfl, hQ⟩ := hrel
            by_cases hq : q < 2
            · obtain ⟨x2, u1, u2, u3, u4⟩ := hQ.out
              obtain ⟨y, hy⟩ : ∃ y, ([c, 45] : List UInt8)[q]? = some y := ⟨_, List.getElem?_eq_getElem (by have := hnb.out; omega)⟩
              have r0 := u4 q y hy
              have hln := hn'.out
              have hlb := hnb.out
              have hlq : (out ++ ([c, 45] : List UInt8).take q).length = n + q := by rw [List.length_append, List.length_take]; omega
              obtain ⟨z0, z', hz⟩ : ∃ z0 z', x2 = z0 :: z' := by cases x2 with | nil => simp at u2; omega | cons a b => exact ⟨a, b, rfl⟩
              have r1 := u1.1.cell (j := n + q) (c := z0) (by rw [hz, List.getElem?_append_right (by omega), hlq, Nat.sub_self]; rfl)
              have r2 := u1.1.free (n + q)
              have gq : (q : Int) < (2 : Int) := by omega
              have gq2 : (n : Int) + (q : Int) < (R : Int) := by rw [hz] at u2; simp at u2; omega
              have hst := Lib.hid (And.intro u1 (And.intro u2 (And.intro u3 (And.intro u4 (And.intro hz (And.intro hlq hy))))))
              clear u1 u2 u3 u4 hz hlq hy hln hlb
              go_wp2_with fail
              go_roundw
              case rel =>
                obtain ⟨u1, u2, u3, u4, hz, hlq, hy⟩ := hst.out
                rw [hz] at u1 u2
                have hTS2 := u1.put hSB (n + q) y
                have hset : ((out ++ ([c, 45] : List UInt8).take q) ++ z0 :: z').set (n + q) y = (out ++ ([c, 45] : List UInt8).take (q + 1)) ++ z' := by
                  rw [List.set_append_right _ _ (by omega), hlq, Nat.sub_self, List.take_add_one, hy]; simp
                rw [hset] at hTS2
                exact ⟨q + 1, by omega, by congr 1 <;> omega, by congr 1 <;> omega, Lib.hid ⟨z', hTS2, by simp at u2; omega, u3.setCell hB _, fun j y' hy' => (But.setCell B (n + q) wz _).cell hBb (u4 j y' hy')⟩⟩
              case measure => simp only [RowKit.intOf]; omega
            · have hqe : q = 2 := by omega
              rw [hqe] at hQ ⊢
              clear hqe hq hqn
              go_wp2_with fail
              go_roundw
              case rel =>
                obtain ⟨x2, u1, u2, u3, u4⟩ := hQ.out
                obtain ⟨h2, hd, hdt, h3, h4⟩ := h2'.out
                rw [List.take_of_length_le (by have := hnb.out; omega)] at u1
                have hol : (out ++ ([c, 45] : List UInt8)).length = n + 2 := by rw [List.length_append, hn'.out, hnb.out]
                have hbl := hbl'.out
                refine ⟨i + 1, i + 1, out ++ ([c, 45] : List UInt8), by congr 1 <;> omega, by rw [hol], by congr 1 <;> omega, rfl, Lib.hid ⟨by have := hL'.out; omega, by rw [h2, hF.out, List.append_assoc], by rw [hol]; have := hn'.out; omega, u3, x2, u1, by rw [hol]; omega⟩⟩
              case measure => simp only [RowKit.intOf]; omega

        · have n38 : ((c.toNat : Int) == 38) = false := cell_ne h38
          have h38' := Lib.hid h38
          have gr1 : (n : Int) + 1 ≤ (R : Int) := by omega
          have hBb : wq.heap.size ≠ B := by have := hq'.out.2; omega
          have hnb := Lib.hid (show ([c] : List UInt8).length = 1 from rfl)
          have hF := Lib.hid (show tF (S.drop i) = [c] ++ tF (S.drop (i + 1)) by
            obtain ⟨h2, hd, hdt, h3, h4⟩ := h2'.out
            rw [hd, hdt, tF_prn c t hp'.out, if_neg h38'.out])
          have hbl' := Lib.hid (show i + 1 ≤ L ∧ 1 + n ≤ 8 * (i + 1) by omega)
          clear h38
          go_wp2_with fail
          generalize wq.alloc (.cells #[.int .u8 (c.toNat : Int)] 5) = wb at hTSb hcl' ⊢
          obtain ⟨Bb, hBbe⟩ : ∃ Bb, wq.heap.size = Bb := ⟨_, rfl⟩
          rw [hBbe] at hBb hcl' ⊢
          have hbc := Lib.hid (show ∀ j y, ([c] : List UInt8)[j]? = some y → wb.cell? ⟨Bb, j, none⟩ = some (.int .u8 (y.toNat : Int)) from fun j y hy => by
            match j, hy with
            | 0, h => cases h; exact hcl'.out.1
            | j + 1, h => simp at h)
          clear hcl'
          go_loopw [8, 88] (fun s8 s88 wl => ∃ q : Nat, q ≤ 1 ∧ s88 = .int .i64 (q : Int) ∧ s8 = .int .i64 ((n + q : Nat) : Int) ∧ Hid (∃ x2, TE wl B Bs so S ((out ++ ([c] : List UInt8).take q) ++ x2) ∧ n + q + x2.length = R ∧ Below b0 w wl ∧ ∀ j y, ([c] : List UInt8)[j]? = some y → wl.cell? ⟨Bb, j, none⟩ = some (.int .u8 (y.toNat : Int)))) (fun _ s88 _ => 1 - (RowKit.intOf s88).toNat)
          case atStart => exact ⟨0, by omega, rfl, by simp, Lib.hid (by obtain ⟨x2, u1, u2, u3⟩ := hTSb.out; exact ⟨x2, by simpa using u1, u2, u3, hbc.out⟩)⟩
          case round =>
            obtain ⟨wz, hwz⟩ : ∃ wz : World, wz = wr := ⟨_, rfl⟩
            rw [← hwz] at hrel ⊢
            clear hwz hTSb hbc
            obtain ⟨q, hqn, rfl, rfl, hQ⟩ := hrel
            by_cases hq : q < 1
            · obtain ⟨x2, u1, u2, u3, u4⟩ := hQ.out
              obtain ⟨y, hy⟩ : ∃ y, ([c] : List UInt8)[q]? = some y := ⟨_, List.getElem?_eq_getElem (by have := hnb.out; omega)⟩
              have r0 := u4 q y hy
              have hln := hn'.out
              have hlb := hnb.out
              have hlq : (out ++ ([c] : List UInt8).take q).length = n + q := by rw [List.length_append, List.length_take]; omega
              obtain ⟨z0, z', hz⟩ : ∃ z0 z', x2 = z0 :: z' := by cases x2 with | nil => simp at u2; omega | cons a b => exact ⟨a, b, rfl⟩
              have r1 := u1.1.cell (j := n + q) (c := z0) (by rw [hz, List.getElem?_append_right (by omega), hlq, Nat.sub_self]; rfl)
              have r2 := u1.1.free (n + q)
              have gq : (q : Int) < (1 : Int) := by omega
              have gq2 : (n : Int) + (q : Int) < (R : Int) := by rw [hz] at u2; simp at u2; omega
              have hst := Lib.hid (And.intro u1 (And.intro u2 (And.intro u3 (And.intro u4 (And.intro hz (And.intro hlq hy))))))
              clear u1 u2 u3 u4 hz hlq hy hln hlb
              go_wp2_with fail
              go_roundw
              case rel =>
                obtain ⟨u1, u2, u3, u4, hz, hlq, hy⟩ := hst.out
                rw [hz] at u1 u2
                have hTS2 := u1.put hSB (n + q) y
                have hset : ((out ++ ([c] : List UInt8).take q) ++ z0 :: z').set (n + q) y = (out ++ ([c] : List UInt8).take (q + 1)) ++ z' := by
                  rw [List.set_append_right _ _ (by omega), hlq, Nat.sub_self, List.take_add_one, hy]; simp
                rw [hset] at hTS2
                exact ⟨q + 1, by omega, by congr 1 <;> omega, by congr 1 <;> omega, Lib.hid ⟨z', hTS2, by simp at u2; omega, u3.setCell hB _, fun j y' hy' => (But.setCell B (n + q) wz _).cell hBb (u4 j y' hy')⟩⟩
              case measure => simp only [RowKit.intOf]; omega
            · have hqe : q = 1 := by omega
              rw [hqe] at hQ ⊢
              clear hqe hq hqn
              go_wp2_with fail
              go_roundw
              case rel =>
                obtain ⟨x2, u1, u2, u3, u4⟩ := hQ.out
                obtain ⟨h2, hd, hdt, h3, h4⟩ := h2'.out
                rw [List.take_of_length_le (by have := hnb.out; omega)] at u1
                have hol : (out ++ ([c] : List UInt8)).length = n + 1 := by rw [List.length_append, hn'.out, hnb.out]
                have hbl := hbl'.out
                refine ⟨i + 1, i + 1, out ++ ([c] : List UInt8), by congr 1 <;> omega, by rw [hol], by congr 1 <;> omega, rfl, Lib.hid ⟨by have := hL'.out; omega, by rw [h2, hF.out, List.append_assoc], by rw [hol]; have := hn'.out; omega, u3, x2, u1, by rw [hol]; omega⟩⟩
              case measure => simp only [RowKit.intOf]; omega
      · skip
        have hor : ¬ (32 : Int) ≤ (c.toNat : Int) ∨ ((32 : Int) ≤ (c.toNat : Int) ∧ ¬ (c.toNat : Int) ≤ 126) := by unfold prn at hp; simp at hp; omega
        rcases hor with hc1 | ⟨hc1, hc2⟩
        · have hp' := Lib.hid (show prn c = false from by simpa using hp)
          clear hp
          go_wp2_with fail
          go_loopw [11] (fun s11 wl => ∃ k : Nat, s11 = .int .i64 ((i + 1 + k : Nat) : Int) ∧ Hid (Run t k) ∧ wl = wq) (fun s11 _ => L - (RowKit.intOf s11).toNat)
          case atStart => exact ⟨0, by congr 1 <;> omega, Lib.hid ⟨by omega, by simp, by simp⟩, rfl⟩
          case round =>
            obtain ⟨k, rfl, hS, hwl⟩ := hrel
            rw [hwl]
            clear hwl
            have htl : t.length = L - i - 1 := by have := congrArg List.length h2'.out.2.1; have := hL'.out; simp at *; omega
            have hgk0 : i + 1 + k ≤ L := by have := hS.out.1; omega
            by_cases hend : i + 1 + k = L
            · have g1 : ¬ (i : Int) + 1 + (k : Int) < (L : Int) := by omega
              have hrun := Lib.hid (show (t.takeWhile fun x => !prn x) = t.take k ∧ (t.dropWhile fun x => !prn x) = t.drop k by
                obtain ⟨r1, r2, r3⟩ := hS.out
                have hn : t.drop k = [] := List.drop_eq_nil_of_le (by omega)
                rw [r2, r3, hn]; simp)
              clear hend
              have hXl : (c :: t.take k).length = k + 1 := by rw [List.length_cons, List.length_take]; omega
              have hcells0 : ∀ j x, (c :: t.take k)[j]? = some x → wq.cell? ⟨Bs, so + i + j, none⟩ = some (.int .u8 (x.toNat : Int)) := fun j x hx => by
                have hlt := (List.getElem?_eq_some_iff.1 hx).1
                have hx2 : (c :: t)[j]? = some x := by
                  cases j with
                  | zero => exact hx
                  | succ j => simp only [List.getElem?_cons_succ] at hx ⊢; rwa [List.getElem?_take_of_lt (by omega)] at hx
                have := h5'.out.1.2 (i + j) x (by rw [← h2'.out.2.1, List.getElem?_drop] at hx2; exact hx2)
                rw [show so + i + j = so + (i + j) by omega]
                exact this
              have henc := encode7_any wq Bs (so + i) (scap - i) (c :: t.take k) (by omega) (by omega) (by omega) (hT'.out wq h2'.out.2.2.2.2) hcells0
              rw [hXl] at henc
              have henc' := Lib.hid henc
              have hlen := enc7_len (c :: t.take k) (by simp)
              rw [hXl] at hlen
              have hF := Lib.hid (show tF (S.drop i) = enc7 (c :: t.take k) ++ tF (S.drop (i + 1 + k)) by
                obtain ⟨h2, hd, hdt, h3, h4⟩ := h2'.out
                rw [hd, tF_run c t hp'.out, hrun.out.1, hrun.out.2, ← hdt, List.drop_drop])
              obtain ⟨bb, hbb0⟩ : ∃ bb, enc7 (c :: t.take k) = bb := ⟨_, rfl⟩
              rw [hbb0] at henc' hF hlen
              obtain ⟨nb, hnb0⟩ : ∃ nb, bb.length = nb := ⟨_, rfl⟩
              rw [hnb0] at henc' hlen
              have hnb := Lib.hid hnb0
              have gk : i + 1 + k - i = k + 1 := by omega
              have gs1 : (i : Int) + 1 + (k : Int) ≤ (scap : Int) := by omega
              have gs2 : ¬ scap = i := by omega
              have gr1 : (n : Int) + (nb : Int) ≤ (R : Int) := by omega
              have hbl' := Lib.hid (show i + 1 + k ≤ L ∧ nb + n ≤ 8 * (i + 1 + k) by omega)
              clear henc hcells0 hXl hlen hbb0 hnb0 hrun
              go_wp2_with fail
              refine henc'.out.mono ?_
              clear henc'
              rintro e1 wb ⟨hbb, Bb, cb, rfl, hBge, hcb⟩
              have hbq := h2'.out.2.2.2.2
              have hszq : b0 ≤ wq.heap.size := Nat.le_trans hw'.out hbq.size
              have hBlt := h5'.out.1.1.lt
              have hBb : Bb ≠ B := by omega
              have hTSb := Lib.hid (show ∃ x2, TE wb B Bs so S (out ++ x2) ∧ n + 0 + x2.length = R ∧ Below b0 w wb from ⟨x, h5'.out.1.below hbb, by have := h5'.out.2; have := hn'.out; omega, hbq.trans (hbb.mono hszq)⟩)
              have hbc := Lib.hid hcb
              clear hbq hszq hBlt hBge hcb hbb q0
              go_wp2_with fail
              go_loopw [8, 88] (fun s8 s88 wl => ∃ q : Nat, q ≤ nb ∧ s88 = .int .i64 (q : Int) ∧ s8 = .int .i64 ((n + q : Nat) : Int) ∧ Hid (∃ x2, TE wl B Bs so S ((out ++ (bb).take q) ++ x2) ∧ n + q + x2.length = R ∧ Below b0 w wl ∧ ∀ j y, (bb)[j]? = some y → wl.cell? ⟨Bb, j, none⟩ = some (.int .u8 (y.toNat : Int)))) (fun _ s88 _ => nb - (RowKit.intOf s88).toNat)
              case atStart => exact ⟨0, by omega, rfl, by simp, Lib.hid (by obtain ⟨x2, u1, u2, u3⟩ := hTSb.out; exact ⟨x2, by simpa using u1, u2, u3, hbc.out⟩)⟩
              case round =>
                obtain ⟨wz, hwz⟩ : ∃ wz : World, wz = wr := ⟨_, rfl⟩
                rw [← hwz] at hrel ⊢
                clear hwz hTSb hbc
                obtain ⟨q, hqn, rfl, rfl, hQ⟩ := hrel
                by_cases hq : q < nb
                · obtain ⟨x2, u1, u2, u3, u4⟩ := hQ.out
                  obtain ⟨y, hy⟩ : ∃ y, (bb)[q]? = some y := ⟨_, List.getElem?_eq_getElem (by have := hnb.out; omega)⟩
                  have r0 := u4 q y hy
                  have hln := hn'.out
                  have hlb := hnb.out
                  have hlq : (out ++ (bb).take q).length = n + q := by rw [List.length_append, List.length_take]; omega
                  obtain ⟨z0, z', hz⟩ : ∃ z0 z', x2 = z0 :: z' := by cases x2 with | nil => simp at u2; omega | cons a b => exact ⟨a, b, rfl⟩
                  have r1 := u1.1.cell (j := n + q) (c := z0) (by rw [hz, List.getElem?_append_right (by omega), hlq, Nat.sub_self]; rfl)
                  have r2 := u1.1.free (n + q)
                  have gq : (q : Int) < (nb : Int) := by omega
                  have gq2 : (n : Int) + (q : Int) < (R : Int) := by rw [hz] at u2; simp at u2; omega
                  have hst := Lib.hid (And.intro u1 (And.intro u2 (And.intro u3 (And.intro u4 (And.intro hz (And.intro hlq hy))))))
                  clear u1 u2 u3 u4 hz hlq hy hln hlb
                  go_wp2_with fail
                  go_roundw
                  case rel =>
                    obtain ⟨u1, u2, u3, u4, hz, hlq, hy⟩ := hst.out
                    rw [hz] at u1 u2
                    have hTS2 := u1.put hSB (n + q) y
                    have hset : ((out ++ (bb).take q) ++ z0 :: z').set (n + q) y = (out ++ (bb).take (q + 1)) ++ z' := by
                      rw [List.set_append_right _ _ (by omega), hlq, Nat.sub_self, List.take_add_one, hy]; simp
                    rw [hset] at hTS2
                    exact ⟨q + 1, by omega, by congr 1 <;> omega, by congr 1 <;> omega, Lib.hid ⟨z', hTS2, by simp at u2; omega, u3.setCell hB _, fun j y' hy' => (But.setCell B (n + q) wz _).cell hBb (u4 j y' hy')⟩⟩
                  case measure => simp only [RowKit.intOf]; omega
                · have hqe : q = nb := by omega
                  rw [hqe] at hQ ⊢
                  clear hqe hq hqn
                  go_wp2_with fail
                  go_roundw
                  case rel =>
                    obtain ⟨x2, u1, u2, u3, u4⟩ := hQ.out
                    obtain ⟨h2, hd, hdt, h3, h4⟩ := h2'.out
                    rw [List.take_of_length_le (by have := hnb.out; omega)] at u1
                    have hol : (out ++ (bb)).length = n + nb := by rw [List.length_append, hn'.out, hnb.out]
                    have hbl := hbl'.out
                    refine ⟨i + 1 + k, i + 1 + k, out ++ (bb), by congr 1 <;> omega, by rw [hol], by congr 1 <;> omega, rfl, Lib.hid ⟨by have := hL'.out; omega, by rw [h2, hF.out, List.append_assoc], by rw [hol]; have := hn'.out; omega, u3, x2, u1, by rw [hol]; omega⟩⟩
                  case measure => simp only [RowKit.intOf]; omega
            have hgk : i + 1 + k < L := by omega
            obtain ⟨d, td, htd⟩ : ∃ d td, t.drop k = d :: td := by
              rcases htd : t.drop k with _ | ⟨d, td⟩
              · have := congrArg List.length htd; simp at this; omega
              · exact ⟨d, td, rfl⟩
            have hStd : S[i + 1 + k]? = some d := by
              have h1 := congrArg (·[0]?) htd
              have h2 := h2'.out.2.2.1
              simp only [List.getElem?_drop, Nat.add_zero] at h1
              rw [← h2, List.getElem?_drop] at h1
              exact h1
            have q3 := h5'.out.1.2 _ d hStd
            have g1 : (i : Int) + 1 + (k : Int) < (L : Int) := by omega
            have gd : (d.toNat : Int) < 256 := by have := UInt8.toNat_lt d; omega
            have htd' := Lib.hid htd
            clear hend htd hStd
            by_cases hdp : prn d = true
            · have g2 : ¬ (d.toNat : Int) < 32 := by unfold prn at hdp; simp at hdp; omega
              have g3 : ¬ (126 : Int) < (d.toNat : Int) := by unfold prn at hdp; simp at hdp; omega
              have hrun := Lib.hid (show (t.takeWhile fun x => !prn x) = t.take k ∧ (t.dropWhile fun x => !prn x) = t.drop k by
                obtain ⟨r1, r2, r3⟩ := hS.out
                rw [r2, r3, htd'.out]; simp [hdp])
              clear hdp
              have hXl : (c :: t.take k).length = k + 1 := by rw [List.length_cons, List.length_take]; omega
              have hcells0 : ∀ j x, (c :: t.take k)[j]? = some x → wq.cell? ⟨Bs, so + i + j, none⟩ = some (.int .u8 (x.toNat : Int)) := fun j x hx => by
                have hlt := (List.getElem?_eq_some_iff.1 hx).1
                have hx2 : (c :: t)[j]? = some x := by
                  cases j with
                  | zero => exact hx
                  | succ j => simp only [List.getElem?_cons_succ] at hx ⊢; rwa [List.getElem?_take_of_lt (by omega)] at hx
                have := h5'.out.1.2 (i + j) x (by rw [← h2'.out.2.1, List.getElem?_drop] at hx2; exact hx2)
                rw [show so + i + j = so + (i + j) by omega]
                exact this
              have henc := encode7_any wq Bs (so + i) (scap - i) (c :: t.take k) (by omega) (by omega) (by omega) (hT'.out wq h2'.out.2.2.2.2) hcells0
              rw [hXl] at henc
              have henc' := Lib.hid henc
              have hlen := enc7_len (c :: t.take k) (by simp)
              rw [hXl] at hlen
              have hF := Lib.hid (show tF (S.drop i) = enc7 (c :: t.take k) ++ tF (S.drop (i + 1 + k)) by
                obtain ⟨h2, hd, hdt, h3, h4⟩ := h2'.out
                rw [hd, tF_run c t hp'.out, hrun.out.1, hrun.out.2, ← hdt, List.drop_drop])
              obtain ⟨bb, hbb0⟩ : ∃ bb, enc7 (c :: t.take k) = bb := ⟨_, rfl⟩
              rw [hbb0] at henc' hF hlen
              obtain ⟨nb, hnb0⟩ : ∃ nb, bb.length = nb := ⟨_, rfl⟩
              rw [hnb0] at henc' hlen
              have hnb := Lib.hid hnb0
              have gk : i + 1 + k - i = k + 1 := by omega
              have gs1 : (i : Int) + 1 + (k : Int) ≤ (scap : Int) := by omega
              have gs2 : ¬ scap = i := by omega
              have gr1 : (n : Int) + (nb : Int) ≤ (R : Int) := by omega
              have hbl' := Lib.hid (show i + 1 + k ≤ L ∧ nb + n ≤ 8 * (i + 1 + k) by omega)
              clear henc hcells0 hXl hlen hbb0 hnb0 hrun
              go_wp2_with fail
              refine henc'.out.mono ?_
              clear henc'
              rintro e1 wb ⟨hbb, Bb, cb, rfl, hBge, hcb⟩
              have hbq := h2'.out.2.2.2.2
              have hszq : b0 ≤ wq.heap.size := Nat.le_trans hw'.out hbq.size
              have hBlt := h5'.out.1.1.lt
              have hBb : Bb ≠ B := by omega
              have hTSb := Lib.hid (show ∃ x2, TE wb B Bs so S (out ++ x2) ∧ n + 0 + x2.length = R ∧ Below b0 w wb from ⟨x, h5'.out.1.below hbb, by have := h5'.out.2; have := hn'.out; omega, hbq.trans (hbb.mono hszq)⟩)
              have hbc := Lib.hid hcb
              clear hbq hszq hBlt hBge hcb hbb q0
              go_wp2_with fail
              go_loopw [8, 88] (fun s8 s88 wl => ∃ q : Nat, q ≤ nb ∧ s88 = .int .i64 (q : Int) ∧ s8 = .int .i64 ((n + q : Nat) : Int) ∧ Hid (∃ x2, TE wl B Bs so S ((out ++ (bb).take q) ++ x2) ∧ n + q + x2.length = R ∧ Below b0 w wl ∧ ∀ j y, (bb)[j]? = some y → wl.cell? ⟨Bb, j, none⟩ = some (.int .u8 (y.toNat : Int)))) (fun _ s88 _ => nb - (RowKit.intOf s88).toNat)
              case atStart => exact ⟨0, by omega, rfl, by simp, Lib.hid (by obtain ⟨x2, u1, u2, u3⟩ := hTSb.out; exact ⟨x2, by simpa using u1, u2, u3, hbc.out⟩)⟩
              case round =>
                obtain ⟨wz, hwz⟩ : ∃ wz : World, wz = wr := ⟨_, rfl⟩
                rw [← hwz] at hrel ⊢
                clear hwz hTSb hbc
                obtain ⟨q, hqn, rfl, rfl, hQ⟩ := hrel
                by_cases hq : q < nb
                · obtain ⟨x2, u1, u2, u3, u4⟩ := hQ.out
                  obtain ⟨y, hy⟩ : ∃ y, (bb)[q]? = some y := ⟨_, List.getElem?_eq_getElem (by have := hnb.out; omega)⟩
                  have r0 := u4 q y hy
                  have hln := hn'.out
                  have hlb := hnb.out
                  have hlq : (out ++ (bb).take q).length = n + q := by rw [List.length_append, List.length_take]; omega
                  obtain ⟨z0, z', hz⟩ : ∃ z0 z', x2 = z0 :: z' := by cases x2 with | nil => simp at u2; omega | cons a b => exact ⟨a, b, rfl⟩
                  have r1 := u1.1.cell (j := n + q) (c := z0) (by rw [hz, List.getElem?_append_right (by omega), hlq, Nat.sub_self]; rfl)
                  have r2 := u1.1.free (n + q)
                  have gq : (q : Int) < (nb : Int) := by omega
                  have gq2 : (n : Int) + (q : Int) < (R : Int) := by rw [hz] at u2; simp at u2; omega
                  have hst := Lib.hid (And.intro u1 (And.intro u2 (And.intro u3 (And.intro u4 (And.intro hz (And.intro hlq hy))))))
                  clear u1 u2 u3 u4 hz hlq hy hln hlb
                  go_wp2_with fail
                  go_roundw
                  case rel =>
                    obtain ⟨u1, u2, u3, u4, hz, hlq, hy⟩ := hst.out
                    rw [hz] at u1 u2
                    have hTS2 := u1.put hSB (n + q) y
                    have hset : ((out ++ (bb).take q) ++ z0 :: z').set (n + q) y = (out ++ (bb).take (q + 1)) ++ z' := by
                      rw [List.set_append_right _ _ (by omega), hlq, Nat.sub_self, List.take_add_one, hy]; simp
                    rw [hset] at hTS2
                    exact ⟨q + 1, by omega, by congr 1 <;> omega, by congr 1 <;> omega, Lib.hid ⟨z', hTS2, by simp at u2; omega, u3.setCell hB _, fun j y' hy' => (But.setCell B (n + q) wz _).cell hBb (u4 j y' hy')⟩⟩
                  case measure => simp only [RowKit.intOf]; omega
                · have hqe : q = nb := by omega
                  rw [hqe] at hQ ⊢
                  clear hqe hq hqn
                  go_wp2_with fail
                  go_roundw
                  case rel =>
                    obtain ⟨x2, u1, u2, u3, u4⟩ := hQ.out
                    obtain ⟨h2, hd, hdt, h3, h4⟩ := h2'.out
                    rw [List.take_of_length_le (by have := hnb.out; omega)] at u1
                    have hol : (out ++ (bb)).length = n + nb := by rw [List.length_append, hn'.out, hnb.out]
                    have hbl := hbl'.out
                    refine ⟨i + 1 + k, i + 1 + k, out ++ (bb), by congr 1 <;> omega, by rw [hol], by congr 1 <;> omega, rfl, Lib.hid ⟨by have := hL'.out; omega, by rw [h2, hF.out, List.append_assoc], by rw [hol]; have := hn'.out; omega, u3, x2, u1, by rw [hol]; omega⟩⟩
                  case measure => simp only [RowKit.intOf]; omega
            · have hdp' : prn d = false := by simpa using hdp
              have hst := Lib.hid (run_step t td k d hS.out htd'.out hdp')
              have hor : (d.toNat : Int) < 32 ∨ (¬ (d.toNat : Int) < 32 ∧ (126 : Int) < (d.toNat : Int)) := by unfold prn at hdp'; simp at hdp'; omega
              clear hdp hdp'
              rcases hor with g2 | ⟨g2, g3⟩
              · go_wp2_with fail
                go_roundw
                case rel => exact ⟨k + 1, by congr 1 <;> omega, hst, trivial⟩
                case measure => simp only [RowKit.intOf]; omega
              · go_wp2_with fail
                go_roundw
                case rel => exact ⟨k + 1, by congr 1 <;> omega, hst, trivial⟩
                case measure => simp only [RowKit.intOf]; omega
        · have hp' := Lib.hid (show prn c = false from by simpa using hp)
          clear hp
          go_wp2_with fail
          go_loopw [11] (fun s11 wl => ∃ k : Nat, s11 = .int .i64 ((i + 1 + k : Nat) : Int) ∧ Hid (Run t k) ∧ wl = wq) (fun s11 _ => L - (RowKit.intOf s11).toNat)
          case atStart => exact ⟨0, by congr 1 <;> omega, Lib.hid ⟨by omega, by simp, by simp⟩, rfl⟩
          case round =>
            obtain ⟨k, rfl, hS, hwl⟩ := hrel
            rw [hwl]
            clear hwl
            have htl : t.length = L - i - 1 := by have := congrArg List.length h2'.out.2.1; have := hL'.out; simp at *; omega
            have hgk0 : i + 1 + k ≤ L := by have := hS.out.1; omega
            by_cases hend : i + 1 + k = L
            · have g1 : ¬ (i : Int) + 1 + (k : Int) < (L : Int) := by omega
              have hrun := Lib.hid (show (t.takeWhile fun x => !prn x) = t.take k ∧ (t.dropWhile fun x => !prn x) = t.drop k by
                obtain ⟨r1, r2, r3⟩ := hS.out
                have hn : t.drop k = [] := List.drop_eq_nil_of_le (by omega)
                rw [r2, r3, hn]; simp)
              clear hend
              have hXl : (c :: t.take k).length = k + 1 := by rw [List.length_cons, List.length_take]; omega
              have hcells0 : ∀ j x, (c :: t.take k)[j]? = some x → wq.cell? ⟨Bs, so + i + j, none⟩ = some (.int .u8 (x.toNat : Int)) := fun j x hx => by
                have hlt := (List.getElem?_eq_some_iff.1 hx).1
                have hx2 : (c :: t)[j]? = some x := by
                  cases j with
                  | zero => exact hx
                  | succ j => simp only [List.getElem?_cons_succ] at hx ⊢; rwa [List.getElem?_take_of_lt (by omega)] at hx
                have := h5'.out.1.2 (i + j) x (by rw [← h2'.out.2.1, List.getElem?_drop] at hx2; exact hx2)
                rw [show so + i + j = so + (i + j) by omega]
                exact this
              have henc := encode7_any wq Bs (so + i) (scap - i) (c :: t.take k) (by omega) (by omega) (by omega) (hT'.out wq h2'.out.2.2.2.2) hcells0
              rw [hXl] at henc
              have henc' := Lib.hid henc
              have hlen := enc7_len (c :: t.take k) (by simp)
              rw [hXl] at hlen
              have hF := Lib.hid (show tF (S.drop i) = enc7 (c :: t.take k) ++ tF (S.drop (i + 1 + k)) by
                obtain ⟨h2, hd, hdt, h3, h4⟩ := h2'.out
                rw [hd, tF_run c t hp'.out, hrun.out.1, hrun.out.2, ← hdt, List.drop_drop])
              obtain ⟨bb, hbb0⟩ : ∃ bb, enc7 (c :: t.take k) = bb := ⟨_, rfl⟩
              rw [hbb0] at henc' hF hlen
              obtain ⟨nb, hnb0⟩ : ∃ nb, bb.length = nb := ⟨_, rfl⟩
              rw [hnb0] at henc' hlen
              have hnb := Lib.hid hnb0
              have gk : i + 1 + k - i = k + 1 := by omega
              have gs1 : (i : Int) + 1 + (k : Int) ≤ (scap : Int) := by omega
              have gs2 : ¬ scap = i := by omega
              have gr1 : (n : Int) + (nb : Int) ≤ (R : Int) := by omega
              have hbl' := Lib.hid (show i + 1 + k ≤ L ∧ nb + n ≤ 8 * (i + 1 + k) by omega)
              clear henc hcells0 hXl hlen hbb0 hnb0 hrun
              go_wp2_with fail
              refine henc'.out.mono ?_
              clear henc'
              rintro e1 wb ⟨hbb, Bb, cb, rfl, hBge, hcb⟩
              have hbq := h2'.out.2.2.2.2
              have hszq : b0 ≤ wq.heap.size := Nat.le_trans hw'.out hbq.size
              have hBlt := h5'.out.1.1.lt
              have hBb : Bb ≠ B := by omega
              have hTSb := Lib.hid (show ∃ x2, TE wb B Bs so S (out ++ x2) ∧ n + 0 + x2.length = R ∧ Below b0 w wb from ⟨x, h5'.out.1.below hbb, by have := h5'.out.2; have := hn'.out; omega, hbq.trans (hbb.mono hszq)⟩)
              have hbc := Lib.hid hcb
              clear hbq hszq hBlt hBge hcb hbb q0
              go_wp2_with fail
              go_loopw [8, 88] (fun s8 s88 wl => ∃ q : Nat, q ≤ nb ∧ s88 = .int .i64 (q : Int) ∧ s8 = .int .i64 ((n + q : Nat) : Int) ∧ Hid (∃ x2, TE wl B Bs so S ((out ++ (bb).take q) ++ x2) ∧ n + q + x2.length = R ∧ Below b0 w wl ∧ ∀ j y, (bb)[j]? = some y → wl.cell? ⟨Bb, j, none⟩ = some (.int .u8 (y.toNat : Int)))) (fun _ s88 _ => nb - (RowKit.intOf s88).toNat)
              case atStart => exact ⟨0, by omega, rfl, by simp, Lib.hid (by obtain ⟨x2, u1, u2, u3⟩ := hTSb.out; exact ⟨x2, by simpa using u1, u2, u3, hbc.out⟩)⟩
              case round =>
                obtain ⟨wz, hwz⟩ : ∃ wz : World, wz = wr := ⟨_, rfl⟩
                rw [← hwz] at hrel ⊢
                clear hwz hTSb hbc
                obtain ⟨q, hqn, rfl, rfl, hQ⟩ := hrel
                by_cases hq : q < nb
                · obtain ⟨x2, u1, u2, u3, u4⟩ := hQ.out
                  obtain ⟨y, hy⟩ : ∃ y, (bb)[q]? = some y := ⟨_, List.getElem?_eq_getElem (by have := hnb.out; omega)⟩
                  have r0 := u4 q y hy
                  have hln := hn'.out
                  have hlb := hnb.out
                  have hlq : (out ++ (bb).take q).length = n + q := by rw [List.length_append, List.length_take]; omega
                  obtain ⟨z0, z', hz⟩ : ∃ z0 z', x2 = z0 :: z' := by cases x2 with | nil => simp at u2; omega | cons a b => exact ⟨a, b, rfl⟩
                  have r1 := u1.1.cell (j := n + q) (c := z0) (by rw [hz, List.getElem?_append_right (by omega), hlq, Nat.sub_self]; rfl)
                  have r2 := u1.1.free (n + q)
                  have gq : (q : Int) < (nb : Int) := by omega
                  have gq2 : (n : Int) + (q : Int) < (R : Int) := by rw [hz] at u2; simp at u2; omega
                  have hst := Lib.hid (And.intro u1 (And.intro u2 (And.intro u3 (And.intro u4 (And.intro hz (And.intro hlq hy))))))
                  clear u1 u2 u3 u4 hz hlq hy hln hlb
                  go_wp2_with fail
                  go_roundw
                  case rel =>
                    obtain ⟨u1, u2, u3, u4, hz, hlq, hy⟩ := hst.out
                    rw [hz] at u1 u2
                    have hTS2 := u1.put hSB (n + q) y
                    have hset : ((out ++ (bb).take q) ++ z0 :: z').set (n + q) y = (out ++ (bb).take (q + 1)) ++ z' := by
                      rw [List.set_append_right _ _ (by omega), hlq, Nat.sub_self, List.take_add_one, hy]; simp
                    rw [hset] at hTS2
                    exact ⟨q + 1, by omega, by congr 1 <;> omega, by congr 1 <;> omega, Lib.hid ⟨z', hTS2, by simp at u2; omega, u3.setCell hB _, fun j y' hy' => (But.setCell B (n + q) wz _).cell hBb (u4 j y' hy')⟩⟩
                  case measure => simp only [RowKit.intOf]; omega
                · have hqe : q = nb := by omega
                  rw [hqe] at hQ ⊢
                  clear hqe hq hqn
                  go_wp2_with fail
                  go_roundw
                  case rel =>
                    obtain ⟨x2, u1, u2, u3, u4⟩ := hQ.out
                    obtain ⟨h2, hd, hdt, h3, h4⟩ := h2'.out
                    rw [List.take_of_length_le (by have := hnb.out; omega)] at u1
                    have hol : (out ++ (bb)).length = n + nb := by rw [List.length_append, hn'.out, hnb.out]
                    have hbl := hbl'.out
                    refine ⟨i + 1 + k, i + 1 + k, out ++ (bb), by congr 1 <;> omega, by rw [hol], by congr 1 <;> omega, rfl, Lib.hid ⟨by have := hL'.out; omega, by rw [h2, hF.out, List.append_assoc], by rw [hol]; have := hn'.out; omega, u3, x2, u1, by rw [hol]; omega⟩⟩
                  case measure => simp only [RowKit.intOf]; omega
            have hgk : i + 1 + k < L := by omega
            obtain ⟨d, td, htd⟩ : ∃ d td, t.drop k = d :: td := by
              rcases htd : t.drop k with _ | ⟨d, td⟩
              · have := congrArg List.length htd; simp at this; omega
              · exact ⟨d, td, rfl⟩
            have hStd : S[i + 1 + k]? = some d := by
              have h1 := congrArg (·[0]?) htd
              have h2 := h2'.out.2.2.1
              simp only [List.getElem?_drop, Nat.add_zero] at h1
              rw [← h2, List.getElem?_drop] at h1
              exact h1
            have q3 := h5'.out.1.2 _ d hStd
            have g1 : (i : Int) + 1 + (k : Int) < (L : Int) := by omega
            have gd : (d.toNat : Int) < 256 := by have := UInt8.toNat_lt d; omega
            have htd' := Lib.hid htd
            clear hend htd hStd
            by_cases hdp : prn d = true
            · have g2 : ¬ (d.toNat : Int) < 32 := by unfold prn at hdp; simp at hdp; omega
              have g3 : ¬ (126 : Int) < (d.toNat : Int) := by unfold prn at hdp; simp at hdp; omega
              have hrun := Lib.hid (show (t.takeWhile fun x => !prn x) = t.take k ∧ (t.dropWhile fun x => !prn x) = t.drop k by
                obtain ⟨r1, r2, r3⟩ := hS.out
                rw [r2, r3, htd'.out]; simp [hdp])
              clear hdp
              have hXl : (c :: t.take k).length = k + 1 := by rw [List.length_cons, List.length_take]; omega
              have hcells0 : ∀ j x, (c :: t.take k)[j]? = some x → wq.cell? ⟨Bs, so + i + j, none⟩ = some (.int .u8 (x.toNat : Int)) := fun j x hx => by
                have hlt := (List.getElem?_eq_some_iff.1 hx).1
                have hx2 : (c :: t)[j]? = some x := by
                  cases j with
                  | zero => exact hx
                  | succ j => simp only [List.getElem?_cons_succ] at hx ⊢; rwa [List.getElem?_take_of_lt (by omega)] at hx
                have := h5'.out.1.2 (i + j) x (by rw [← h2'.out.2.1, List.getElem?_drop] at hx2; exact hx2)
                rw [show so + i + j = so + (i + j) by omega]
                exact this
              have henc := encode7_any wq Bs (so + i) (scap - i) (c :: t.take k) (by omega) (by omega) (by omega) (hT'.out wq h2'.out.2.2.2.2) hcells0
              rw [hXl] at henc
              have henc' := Lib.hid henc
              have hlen := enc7_len (c :: t.take k) (by simp)
              rw [hXl] at hlen
              have hF := Lib.hid (show tF (S.drop i) = enc7 (c :: t.take k) ++ tF (S.drop (i + 1 + k)) by
                obtain ⟨h2, hd, hdt, h3, h4⟩ := h2'.out
                rw [hd, tF_run c t hp'.out, hrun.out.1, hrun.out.2, ← hdt, List.drop_drop])
              obtain ⟨bb, hbb0⟩ : ∃ bb, enc7 (c :: t.take k) = bb := ⟨_, rfl⟩
              rw [hbb0] at henc' hF hlen
              obtain ⟨nb, hnb0⟩ : ∃ nb, bb.length = nb := ⟨_, rfl⟩
              rw [hnb0] at henc' hlen
              have hnb := Lib.hid hnb0
              have gk : i + 1 + k - i = k + 1 := by omega
              have gs1 : (i : Int) + 1 + (k : Int) ≤ (scap : Int) := by omega
              have gs2 : ¬ scap = i := by omega
              have gr1 : (n : Int) + (nb : Int) ≤ (R : Int) := by omega
              have hbl' := Lib.hid (show i + 1 + k ≤ L ∧ nb + n ≤ 8 * (i + 1 + k) by omega)
              clear henc hcells0 hXl hlen hbb0 hnb0 hrun
              go_wp2_with fail
              refine henc'.out.mono ?_
              clear henc'
              rintro e1 wb ⟨hbb, Bb, cb, rfl, hBge, hcb⟩
              have hbq := h2'.out.2.2.2.2
              have hszq : b0 ≤ wq.heap.size := Nat.le_trans hw'.out hbq.size
              have hBlt := h5'.out.1.1.lt
              have hBb : Bb ≠ B := by omega
              have hTSb := Lib.hid (show ∃ x2, TE wb B Bs so S (out ++ x2) ∧ n + 0 + x2.length = R ∧ Below b0 w wb from ⟨x, h5'.out.1.below hbb, by have := h5'.out.2; have := hn'.out; omega, hbq.trans (hbb.mono hszq)⟩)
              have hbc := Lib.hid hcb
              clear hbq hszq hBlt hBge hcb hbb q0
              go_wp2_with fail
              go_loopw [8, 88] (fun s8 s88 wl => ∃ q : Nat, q ≤ nb ∧ s88 = .int .i64 (q : Int) ∧ s8 = .int .i64 ((n + q : Nat) : Int) ∧ Hid (∃ x2, TE wl B Bs so S ((out ++ (bb).take q) ++ x2) ∧ n + q + x2.length = R ∧ Below b0 w wl ∧ ∀ j y, (bb)[j]? = some y → wl.cell? ⟨Bb, j, none⟩ = some (.int .u8 (y.toNat : Int)))) (fun _ s88 _ => nb - (RowKit.intOf s88).toNat)
              case atStart => exact ⟨0, by omega, rfl, by simp, Lib.hid (by obtain ⟨x2, u1, u2, u3⟩ := hTSb.out; exact ⟨x2, by simpa using u1, u2, u3, hbc.out⟩)⟩
              case round =>
                obtain ⟨wz, hwz⟩ : ∃ wz : World, wz = wr := ⟨_, rfl⟩
                rw [← hwz] at hrel ⊢
                clear hwz hTSb hbc
                obtain ⟨q, hqn, rfl, rfl, hQ⟩ := hrel
                by_cases hq : q < nb
                · obtain ⟨x2, u1, u2, u3, u4⟩ := hQ.out
                  obtain ⟨y, hy⟩ : ∃ y, (bb)[q]? = some y := ⟨_, List.getElem?_eq_getElem (by have := hnb.out; omega)⟩
                  have r0 := u4 q y hy
                  have hln := hn'.out
                  have hlb := hnb.out
                  have hlq : (out ++ (bb).take q).length = n + q := by rw [List.length_append, List.length_take]; omega
                  obtain ⟨z0, z', hz⟩ : ∃ z0 z', x2 = z0 :: z' := by cases x2 with | nil => simp at u2; omega | cons a b => exact ⟨a, b, rfl⟩
                  have r1 := u1.1.cell (j := n + q) (c := z0) (by rw [hz, List.getElem?_append_right (by omega), hlq, Nat.sub_self]; rfl)
                  have r2 := u1.1.free (n + q)
                  have gq : (q : Int) < (nb : Int) := by omega
                  have gq2 : (n : Int) + (q : Int) < (R : Int) := by rw [hz] at u2; simp at u2; omega
                  have hst := Lib.hid (And.intro u1 (And.intro u2 (And.intro u3 (And.intro u4 (And.intro hz (And.intro hlq hy))))))
                  clear u1 u2 u3 u4 hz hlq hy hln hlb
                  go_wp2_with fail
                  go_roundw
                  case rel =>
                    obtain ⟨u1, u2, u3, u4, hz, hlq, hy⟩ := hst.out
                    rw [hz] at u1 u2
                    have hTS2 := u1.put hSB (n + q) y
                    have hset : ((out ++ (bb).take q) ++ z0 :: z').set (n + q) y = (out ++ (bb).take (q + 1)) ++ z' := by
                      rw [List.set_append_right _ _ (by omega), hlq, Nat.sub_self, List.take_add_one, hy]; simp
                    rw [hset] at hTS2
                    exact ⟨q + 1, by omega, by congr 1 <;> omega, by congr 1 <;> omega, Lib.hid ⟨z', hTS2, by simp at u2; omega, u3.setCell hB _, fun j y' hy' => (But.setCell B (n + q) wz _).cell hBb (u4 j y' hy')⟩⟩
                  case measure => simp only [RowKit.intOf]; omega
                · have hqe : q = nb := by omega
                  rw [hqe] at hQ ⊢
                  clear hqe hq hqn
                  go_wp2_with fail
                  go_roundw
                  case rel =>
                    obtain ⟨x2, u1, u2, u3, u4⟩ := hQ.out
                    obtain ⟨h2, hd, hdt, h3, h4⟩ := h2'.out
                    rw [List.take_of_length_le (by have := hnb.out; omega)] at u1
                    have hol : (out ++ (bb)).length = n + nb := by rw [List.length_append, hn'.out, hnb.out]
                    have hbl := hbl'.out
                    refine ⟨i + 1 + k, i + 1 + k, out ++ (bb), by congr 1 <;> omega, by rw [hol], by congr 1 <;> omega, rfl, Lib.hid ⟨by have := hL'.out; omega, by rw [h2, hF.out, List.append_assoc], by rw [hol]; have := hn'.out; omega, u3, x2, u1, by rw [hol]; omega⟩⟩
                  case measure => simp only [RowKit.intOf]; omega
            · have hdp' : prn d = false := by simpa using hdp
              have hst := Lib.hid (run_step t td k d hS.out htd'.out hdp')
              have hor : (d.toNat : Int) < 32 ∨ (¬ (d.toNat : Int) < 32 ∧ (126 : Int) < (d.toNat : Int)) := by unfold prn at hdp'; simp at hdp'; omega
              clear hdp hdp'
              rcases hor with g2 | ⟨g2, g3⟩
              · go_wp2_with fail
                go_roundw
                case rel => exact ⟨k + 1, by congr 1 <;> omega, hst, trivial⟩
                case measure => simp only [RowKit.intOf]; omega
              · go_wp2_with fail
                go_roundw
                case rel => exact ⟨k + 1, by congr 1 <;> omega, hst, trivial⟩
                case measure => simp only [RowKit.intOf]; omega
    · have hie : i = L := by have := hI.out.1; have := hL'.out; omega
      obtain ⟨h1, h2, h3, h4, x, h5, h6⟩ := hI.out
      have hq := Lib.hid (And.intro h2 (And.intro h4 (And.intro h5 h6)))
      clear h2 h3 h4 h5 h6 h1
      subst hie
      go_wp2_with fail
      go_ret3
      obtain ⟨h2, h4, h5, h6⟩ := hq.out
      have ho : tF S = out := by rw [h2, ← hL'.out, List.drop_length, tF_nil, List.append_nil]
      rw [ho]
      exact ⟨h4, ⟨m, by rw [hn'.out]; rfl⟩, x, h5.1, h6⟩
end Go.Proofs.YtbjhmmiijebehaaDoor.Own

namespace Go.Proofs.YtbjhmmiijebehaaDoor.Own
open Go.RowKit Go.Lib
set_option linter.unusedVariables false
set_option linter.unusedSimpArgs false

set_option maxHeartbeats 4000000 in
set_option maxRecDepth 100000 in
theorem encodeU_any (s : ByteArray) (hs : s.size ≤ 1000) (w : World) (hT : ∀ W, Below w.heap.size w W → Lib.Utf8Tabs 3 4 W) :
    Calls Tryd.prog 12 #[.string s] w fun e w' => Below w.heap.size w w' ∧ e = .returned (.tuple #[.string ⟨(tF s.data.toList).toArray⟩, .nilIface]) := by
  obtain ⟨N, hN⟩ : ∃ N, 8 * s.size + 8 = N := ⟨_, rfl⟩
  have hNR : 8 * (s.size : Int) + 8 = (N : Int) := by omega
  have hmk : ∀ W, (Instr.makeSlice 38 (.int .i64 (N : Int)) (.int .i64 (N : Int))).run Tryd.prog W = .ok (.slice (some ⟨W.heap.size, 0, none⟩) N N) (W.alloc (.cells (madeCells #[.int .u8 0] N) 5)) := make_u8 N (by omega)
  have hconv := fun W => Lib.run_convert_string_bytes (P := Tryd.prog) W 9 38 5 s Tryd.underlying9 Tryd.underlying38 Tryd.underlying5
  obtain ⟨Z, hZ⟩ : ∃ Z, madeCells #[Value.int .u8 0] N = Z := ⟨_, rfl⟩
  rw [hZ] at hmk
  have hrow := row_made w N
  rw [hZ] at hrow
  have hrow' := Lib.hid hrow
  have hT' := Lib.hid hT
  clear hrow hT
  go_enter Tryd.func12, Tryd.ntmps12
  go_wp2_with fail
  have hsl : s.data.toList.length = s.size := by simp
  have hb1 : Below w.heap.size w ((w.alloc (Obj.cells Z 5)).alloc (Obj.cells #[] 46)) := ((Below.refl _ _).alloc (Nat.le_refl _) _).alloc (by simp) _
  have hbW := below_conv ((w.alloc (Obj.cells Z 5)).alloc (Obj.cells #[] 46)) 5 s
  have hsz2 : ((w.alloc (Obj.cells Z 5)).alloc (Obj.cells #[] 46)).heap.size = w.heap.size + 1 + 1 := by simp
  have hcell := fun j (hj : j < s.size) => Lib.bytesWorld_cell ((w.alloc (Obj.cells Z 5)).alloc (Obj.cells #[] 46)) 5 s j hj
  rw [hsz2] at hcell
  have hbT : Below w.heap.size w (Lib.bytesWorld ((w.alloc (Obj.cells Z 5)).alloc (Obj.cells #[] 46)) 5 s) := hb1.trans (hbW.mono hb1.size)
  have hcapG : s.size ≤ grownCap ((w.alloc (Obj.cells Z 5)).alloc (Obj.cells #[] 46)) s.size 0 5 := grownCap_ge _ _ _ _
  generalize grownCap ((w.alloc (Obj.cells Z 5)).alloc (Obj.cells #[] 46)) s.size 0 5 = G at hcapG ⊢
  have hTS : TE (Lib.bytesWorld ((w.alloc (Obj.cells Z 5)).alloc (Obj.cells #[] 46)) 5 s) w.heap.size (w.heap.size + 1 + 1) 0 s.data.toList (List.replicate N 0) := by
    refine ⟨?_, fun i c hc => ?_⟩
    · have h0 := hrow'.out.below ((Below.refl _ _).alloc (Nat.le_refl _) (Obj.cells #[] 46))
      exact h0.below hbW
    · have hlt := (List.getElem?_eq_some_iff.1 hc).1
      rw [Nat.zero_add, hcell i (by omega), List.getD_eq_getElem?_getD, hc]
      rfl
  generalize Lib.bytesWorld ((w.alloc (Obj.cells Z 5)).alloc (Obj.cells #[] 46)) 5 s = WT at hbT hTS ⊢
  have hq := transE_any WT w.heap.size w.heap.size (w.heap.size + 1 + 1) 0 G N N (.pointer (some ⟨w.heap.size + 1, 0, none⟩)) s.data.toList (List.replicate N 0) (Nat.le_refl _) hbT.size (by omega) (fun W hW => hT'.out W (hbT.trans hW)) hTS (by simp) (by omega) (by omega) (by omega) (by omega) (Nat.le_refl _)
  rw [hsl] at hq
  have hbT' := Lib.hid hbT
  refine hq.mono ?_
  clear hq hTS hcell hb1 hbW hbT hconv hmk hrow' hsz2
  rintro e w2 ⟨hb2, ⟨m, rfl⟩, x, hx, hxN⟩
  have hb3 := Lib.hid (hbT'.out.trans hb2)
  clear hb2
  have hst := run_str w2 w.heap.size N _ x hx
  have hxl : (tF s.data.toList).length ≤ N := by omega
  clear hx
  go_wp2_with fail
  go_ret2
  exact ⟨hb3.out, rfl⟩
/-- What the package writes of bytes. -/
def toP (s : ByteArray) : ByteArray := ⟨(tF s.data.toList).toArray⟩
set_option maxHeartbeats 1000000 in
theorem utf7_any (s : ByteArray) (hs : s.size ≤ 1000) (w : World) (hT : ∀ W, Below w.heap.size w W → Lib.Utf8Tabs 3 4 W) :
    Calls Tryd.prog 8 #[.string s] w fun e w' => e = .returned (.tuple #[.string (toP s), .bool true]) ∧ Below w.heap.size w w' := by
  have hc := Lib.hid (encodeU_any s hs w hT)
  clear hT
  go_enter Tryd.func8, Tryd.ntmps8
  go_wp2_with fail
  refine hc.out.mono ?_
  clear hc
  rintro e w1 ⟨hb, rfl⟩
  have hb' := Lib.hid hb
  clear hb
  go_wp2_with fail
  go_quiet (fail)
  go_wp2_with fail
  go_ret2
  exact ⟨rfl, hb'.out.trans ⟨rfl, rfl, rfl, Nat.le_refl _, fun _ _ => rfl⟩⟩
end Go.Proofs.YtbjhmmiijebehaaDoor.Own
