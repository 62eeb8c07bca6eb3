/- spec.Utf7Of by hand: the text in modified UTF-7, as the reference tells it. impl.Utf7, impl.FromUtf7, spec.Utf9 and spec.Utf7Of in the print's form. -/
import Derived.Test.YtbjhmmiijebehaaDoorML
import Derived.Test.YtbjhmmiijebehaaDoorMG
import Derived.Test.YtbjhmmiijebehaaDoorMM
namespace Go.Proofs.YtbjhmmiijebehaaDoor.Own
open Go.RowKit Go.Lib
set_option linter.unusedVariables false
set_option linter.unusedSimpArgs false

theorem One.new (w : World) (e : TypeId) (v : Value) : One (w.alloc (.cells #[v] e)) w.heap.size e v := by
  have := heap_alloc_new w (.cells #[v] e)
  exact this
theorem rune_conv (W : World) (r : Nat) (h1 : 32 ≤ r) (h2 : r ≤ 126) :
    (convert 26 9 (.slice (some ⟨W.heap.size, 0, none⟩) 1 1)).run Tryd.prog (W.alloc (.cells #[.int .i32 (r : Int)] 21)) = .ok (.string ⟨[UInt8.ofNat r].toArray⟩) (W.alloc (.cells #[.int .i32 (r : Int)] 21)) := by
  have hn := One.new W 21 (.int .i32 (r : Int))
  have h := run_convert_runes (P := Tryd.prog) (W.alloc (.cells #[.int .i32 (r : Int)] 21)) 26 9 21 ⟨W.heap.size, 0, none⟩ 1 1 [(r : Int)] (by simp) Tryd.underlying26 Tryd.underlying21 Tryd.underlying9 (fun j hj => by
    have : j = 0 := by simp at hj; omega
    subst this
    exact hn.cell)
  rw [h]
  have he := runesBytes_eq [r] (by intro x hx; simp at hx; subst hx; left; omega)
  have : ints [r] = [(r : Int)] := rfl
  rw [this] at he
  rw [List.take_of_length_le (by simp), he]
  simp [enc8_1 r (by omega)]
def USs (w : World) (b0 b1 b2 b3 : Nat) (s : St) : Prop := US w b0 b1 b2 b3 s.out s.x s.m s.inn
theorem But4.toBelow {b0 b1 b2 b3 : Nat} {w w' : World} (h : But4 b0 b1 b2 b3 w w') (l1 : b0 ≤ b1) (l2 : b0 ≤ b2) (l3 : b0 ≤ b3) : Below b0 w w' :=
  ⟨h.os, h.tape, h.output, by rw [h.size]; exact Nat.le_refl _, fun k hk => h.block k (by omega) (by omega) (by omega) (by omega)⟩
theorem unit_st (w : World) (b0 b1 b2 b3 : Nat) (hA : Ap4 b0 b1 b2 b3) (s : St) (ok : s.Ok) (u : Nat) (hu : u < 65536) (hlen : s.out.length ≤ 100000) (h : USs w b0 b1 b2 b3 s) :
    Calls Tryd.prog 14 #[.int .u32 u, .pointer (some ⟨b1, 0, none⟩), .pointer (some ⟨b2, 0, none⟩), .pointer (some ⟨b0, 0, none⟩)] w fun e w' =>
      e = .returned (.tuple #[]) ∧ But4 b0 b1 b2 b3 w w' ∧ USs w' b0 b1 b2 b3 (s.unit u) :=
  unit_any w b0 b1 b2 b3 hA s.out s.x s.m s.inn u ok.x ok.m hu hlen h
theorem shut_st (w : World) (b0 b1 b2 b3 : Nat) (hA : Ap4 b0 b1 b2 b3) (s : St) (ok : s.Ok) (hlen : s.out.length ≤ 200000) (h : USs w b0 b1 b2 b3 s) :
    Calls Tryd.prog 13 #[.pointer (some ⟨b2, 0, none⟩), .pointer (some ⟨b1, 0, none⟩), .pointer (some ⟨b0, 0, none⟩), .pointer (some ⟨b3, 0, none⟩)] w fun e w' =>
      e = .returned (.tuple #[]) ∧ But4 b0 b1 b2 b3 w w' ∧ USs w' b0 b1 b2 b3 s.shut :=
  shut_any w b0 b1 b2 b3 hA s.out s.x s.m s.inn ok.x ok.m hlen h
def isPl (r : Nat) : Bool := decide (32 ≤ r ∧ r ≤ 126)
theorem plain9_any (w : World) (r : Nat) : Calls Tryd.prog 15 #[.int .u32 r] w fun e w' => e = .returned (.bool (isPl r)) ∧ w = w' := by
  unfold isPl
  by_cases h1 : 32 ≤ r
  · by_cases h2 : r ≤ 126
    · have h1' : (32 : Int) ≤ r := by omega
      have h2' : (r : Int) ≤ 126 := by omega
      go_enter Tryd.func15, Tryd.ntmps15
      go_wp2
      go_ret
      exact ⟨by rw [decide_eq_true (And.intro h1 h2)]; rfl, rfl⟩
    · have h1' : (32 : Int) ≤ r := by omega
      have h2' : ¬ (r : Int) ≤ 126 := by omega
      go_enter Tryd.func15, Tryd.ntmps15
      go_wp2
      go_ret
      exact ⟨rfl, rfl⟩
  · have h1' : ¬ (32 : Int) ≤ r := by omega
    go_enter Tryd.func15, Tryd.ntmps15
    go_wp2
    go_ret
    exact ⟨rfl, rfl⟩
def Oinv (w wr : World) (s : ByteArray) (b0 b1 b2 b3 bi : Nat) : Prop :=
  ∃ pos st, pos ≤ s.size ∧ wr.heap[bi]? = some (.stringIter s pos) ∧ USs wr b0 b1 b2 b3 st ∧ st.Ok ∧ st.out.length ≤ 8 * pos ∧ Below b0 w wr ∧
    utfOf s.data.toList = ((rnF (s.data.toList.drop pos)).foldl St.step st).shut.out
theorem say_end (w wo Wp wx : World) (s : ByteArray) (b0 b1 b2 b3 bi pos d r : Nat) (st : St) (o : Obj)
    (l1 : b0 ≤ b1) (l2 : b0 ≤ b2) (l3 : b0 ≤ b3) (li : b0 ≤ bi) (e0 : bi ≠ b0) (e1 : bi ≠ b1) (e2 : bi ≠ b2) (e3 : bi ≠ b3)
    (hB2 : But4 b0 b1 b2 b3 wo Wp) (hU2 : USs Wp b0 b1 b2 b3 (st.step r))
    (hit : wo.heap[bi]? = some (.stringIter s (pos + d))) (hb : Below b0 w wo) (hm : wx.iterPos bi = pos) (hd : 1 ≤ d) (hp : pos + d ≤ s.size)
    (hfold : utfOf s.data.toList = ((rnF (s.data.toList.drop (pos + d))).foldl St.step (st.step r)).shut.out) (hok : (st.step r).Ok) (hlen : (st.step r).out.length ≤ 8 * (pos + d)) :
    Oinv w (Wp.alloc o) s b0 b1 b2 b3 bi ∧ s.size - (Wp.alloc o).iterPos bi < s.size - wx.iterPos bi := by
  have al := (Below.refl _ Wp).alloc (Nat.le_refl _) o
  have hlt : bi < Wp.heap.size := by rw [hB2.size]; exact (Array.getElem?_eq_some_iff.1 hit).1
  have hit2 : (Wp.alloc o).heap[bi]? = some (.stringIter s (pos + d)) := by rw [al.block bi hlt, hB2.block bi e0 e1 e2 e3, hit]
  refine ⟨⟨pos + d, st.step r, hp, hit2, US.below hU2 al, hok, hlen, ?_, hfold⟩, by rw [iterPos_of hit2, hm]; omega⟩
  refine (hb.trans (hB2.toBelow l1 l2 l3)).trans (al.mono ?_)
  have := (Array.getElem?_eq_some_iff.1 hU2.c0).1
  omega
theorem run_end (w wo Wp wx : World) (s : ByteArray) (b0 b1 b2 b3 bi pos d r : Nat) (st : St)
    (l1 : b0 ≤ b1) (l2 : b0 ≤ b2) (l3 : b0 ≤ b3) (e0 : bi ≠ b0) (e1 : bi ≠ b1) (e2 : bi ≠ b2) (e3 : bi ≠ b3)
    (hB2 : But4 b0 b1 b2 b3 wo Wp) (hU2 : USs Wp b0 b1 b2 b3 (st.step r))
    (hit : wo.heap[bi]? = some (.stringIter s (pos + d))) (hb : Below b0 w wo) (hm : wx.iterPos bi = pos) (hd : 1 ≤ d) (hp : pos + d ≤ s.size)
    (hfold : utfOf s.data.toList = ((rnF (s.data.toList.drop (pos + d))).foldl St.step (st.step r)).shut.out) (hok : (st.step r).Ok) (hlen : (st.step r).out.length ≤ 8 * (pos + d)) :
    Oinv w Wp s b0 b1 b2 b3 bi ∧ s.size - Wp.iterPos bi < s.size - wx.iterPos bi := by
  have hit2 : Wp.heap[bi]? = some (.stringIter s (pos + d)) := by rw [hB2.block bi e0 e1 e2 e3, hit]
  exact ⟨⟨pos + d, st.step r, hp, hit2, hU2, hok, hlen, hb.trans (hB2.toBelow l1 l2 l3), hfold⟩, by rw [iterPos_of hit2, hm]; omega⟩
set_option maxHeartbeats 4000000 in
set_option maxRecDepth 100000 in
theorem utfOf_any (s : ByteArray) (w : World) (hs : s.size ≤ 1000) :
    Calls Tryd.prog 9 #[.string s] w fun e w' => e = .returned (.string ⟨(utfOf s.data.toList).toArray⟩) ∧ Below w.heap.size w w' := by
  have hmf : ∀ (fn : Fn) (first cap : Array Value) (w : World), (Instr.makeFunc fn first cap).run Tryd.prog w = .ok (.func fn first cap) w := fun _ _ _ _ => rfl
  go_enter Tryd.func9, Tryd.ntmps9
  go_wp2_with fail
  obtain ⟨WI, hWI⟩ : ∃ W : World, W = (((((w.alloc (Obj.cells #[Value.string { data := #[] }] 9)).alloc (Obj.cells #[Value.int IntKind.u32 0] 33)).alloc
              (Obj.cells #[Value.int IntKind.i64 0] 3)).alloc (Obj.cells #[Value.bool false] 4)).iter s 0) := ⟨_, rfl⟩
  rw [← hWI]
  have z1 : (w.alloc (Obj.cells #[Value.string { data := #[] }] 9)).heap.size = w.heap.size + 1 := by simp
  have z2 : ((w.alloc (Obj.cells #[Value.string { data := #[] }] 9)).alloc (Obj.cells #[Value.int IntKind.u32 0] 33)).heap.size = w.heap.size + 1 + 1 := by simp
  have z3 : (((w.alloc (Obj.cells #[Value.string { data := #[] }] 9)).alloc (Obj.cells #[Value.int IntKind.u32 0] 33)).alloc (Obj.cells #[Value.int IntKind.i64 0] 3)).heap.size = w.heap.size + 1 + 1 + 1 := by simp
  have z4 : ((((w.alloc (Obj.cells #[Value.string { data := #[] }] 9)).alloc (Obj.cells #[Value.int IntKind.u32 0] 33)).alloc (Obj.cells #[Value.int IntKind.i64 0] 3)).alloc (Obj.cells #[Value.bool false] 4)).heap.size = w.heap.size + 1 + 1 + 1 + 1 := by simp
  have u0 := One.new w 9 (.string ⟨#[]⟩)
  have u1 := One.new (w.alloc (Obj.cells #[Value.string { data := #[] }] 9)) 33 (.int .u32 0)
  have u2 := One.new ((w.alloc (Obj.cells #[Value.string { data := #[] }] 9)).alloc (Obj.cells #[Value.int IntKind.u32 0] 33)) 3 (.int .i64 0)
  have u3 := One.new (((w.alloc (Obj.cells #[Value.string { data := #[] }] 9)).alloc (Obj.cells #[Value.int IntKind.u32 0] 33)).alloc (Obj.cells #[Value.int IntKind.i64 0] 3)) 4 (.bool false)
  rw [z1] at u1
  rw [z2] at u2
  rw [z3] at u3
  have al : ∀ (W : World) (o : Obj), Below W.heap.size W (W.alloc o) := fun W o => (Below.refl _ _).alloc (Nat.le_refl _) o
  have hUS : US WI w.heap.size (w.heap.size + 1) (w.heap.size + 1 + 1) (w.heap.size + 1 + 1 + 1) [] 0 0 false := by
    rw [hWI]
    exact ⟨(((u0.below (al _ _)).below (al _ _)).below (al _ _)).below (al _ _), ((u1.below (al _ _)).below (al _ _)).below (al _ _), (u2.below (al _ _)).below (al _ _), u3.below (al _ _)⟩
  have hit : WI.heap[w.heap.size + 1 + 1 + 1 + 1]? = some (.stringIter s 0) := by
    rw [hWI, ← z4]; exact World.iter_heap _ s 0
  have hbel : Below w.heap.size w WI := by
    rw [hWI]
    exact (((((Below.refl _ _).alloc (Nat.le_refl _) _).alloc (by rw [z1]; omega) _).alloc (by rw [z2]; omega) _).alloc (by rw [z3]; omega) _).alloc (by rw [z4]; omega) _
  clear hWI z1 z2 z3 z4 u0 u1 u2 u3 al
  obtain ⟨b0, hb0⟩ : ∃ b, b = w.heap.size := ⟨_, rfl⟩
  obtain ⟨b1, hb1⟩ : ∃ b, b = b0 + 1 := ⟨_, rfl⟩
  obtain ⟨b2, hb2⟩ : ∃ b, b = b1 + 1 := ⟨_, rfl⟩
  obtain ⟨b3, hb3⟩ : ∃ b, b = b2 + 1 := ⟨_, rfl⟩
  obtain ⟨bi, hbi⟩ : ∃ b, b = b3 + 1 := ⟨_, rfl⟩
  rw [← hb0] at hUS hit hbel ⊢
  rw [← hb1] at hUS hit ⊢
  rw [← hb2] at hUS hit ⊢
  rw [← hb3] at hUS hit ⊢
  rw [← hbi] at hit ⊢
  have hA : Ap4 b0 b1 b2 b3 := ⟨by omega, by omega, by omega, by omega, by omega, by omega⟩
  have e0 : bi ≠ b0 := by omega
  have e1 : bi ≠ b1 := by omega
  have e2 : bi ≠ b2 := by omega
  have e3 : bi ≠ b3 := by omega
  have l1 : b0 ≤ b1 := by omega
  have l2 : b0 ≤ b2 := by omega
  have l3 : b0 ≤ b3 := by omega
  have li : b0 ≤ bi := by omega
  have k0 : b0 < bi := by omega
  have k1 : b1 < bi := by omega
  have k2 : b2 < bi := by omega
  have k3 : b3 < bi := by omega
  have n03 : ¬ b0 = b3 := hA.n03
  have n30 : ¬ b3 = b0 := hA.n03.symm
  have hb0' := Lib.hid hb0
  clear hb0 hb1 hb2 hb3 hbi
  have atS : Oinv w WI s b0 b1 b2 b3 bi := ⟨0, ⟨[], 0, 0, false⟩, Nat.zero_le _, hit, hUS, ⟨by decide, by decide⟩, by simp, hbel, rfl⟩
  clear hit hUS hbel
  go_loopw [10, 11] (fun _ _ wr => Oinv w wr s b0 b1 b2 b3 bi) (fun _ _ wr => s.size - wr.iterPos bi)
  case atStart => exact atS
  case round =>
    obtain ⟨wx, rfl⟩ : ∃ wx : World, wx = wr := ⟨_, rfl⟩
    obtain ⟨pos, st, hpos, hit, hU, hok, hln, hb, hn⟩ := hrel
    by_cases hp : pos < s.size
    · obtain ⟨c1, c2, c3⟩ := decGo_len s pos hp
      have hne : s.data.toList.drop pos ≠ [] := by
        intro h0
        have := congrArg List.length h0
        simp at this; omega
      have hstep := rnF_step _ hne
      rw [← dec_drop s pos hp, List.drop_drop] at hstep
      obtain ⟨r, hr0⟩ : ∃ r, r = (Utf8.decode s pos).1 := ⟨_, rfl⟩
      obtain ⟨d, hd0⟩ : ∃ d, d = (Utf8.decode s pos).2 := ⟨_, rfl⟩
      obtain ⟨wo, hwo⟩ : ∃ wo : World, wo = wx.iterAt bi s (pos + d) := ⟨_, rfl⟩
      have hnx : ∀ ty, (Instr.next (.pointer (some ⟨bi, 0, none⟩)) true ty).run Tryd.prog wx = .ok (.tuple #[.bool true, .int .i64 pos, .int .i32 r]) wo := fun ty => by rw [hwo, hd0, hr0]; exact Lib.run_next_any_at wx bi s pos ty hit hp
      rw [← hr0] at c3 hstep
      rw [← hd0] at c1 c2 hstep
      have hit1 := Lib.hid (show wo.heap[bi]? = some (.stringIter s (pos + d)) by rw [hwo]; exact Lib.iterAt_heap wx bi s pos (pos + d) hit)
      have hbb := Lib.hid (show Below b0 w wo by rw [hwo]; exact Lib.below_iterAt hb li s (pos + d))
      have hbx : Below bi wx wo := by rw [hwo]; exact Lib.below_iterAt (Below.refl bi wx) (Nat.le_refl bi) s (pos + d)
      have hUo : USs wo b0 b1 b2 b3 st := ⟨(hbx.block b0 k0).trans hU.c0, (hbx.block b1 k1).trans hU.c1, (hbx.block b2 k2).trans hU.c2, (hbx.block b3 k3).trans hU.c3⟩
      have hm1 := Lib.hid (iterPos_of hit)
      have hfold := Lib.hid (show utfOf s.data.toList = ((rnF (s.data.toList.drop (pos + d))).foldl St.step (st.step r)).shut.out by rw [hn, hstep, List.foldl_cons])
      have hoks := Lib.hid (hok.step r)
      have hlen := Lib.hid (show (st.step r).out.length ≤ 8 * (pos + d) by have := St.step_len hok r; omega)
      have hrw : IntKind.u32.wrap (r : Int) = (r : Int) := by rw [IntKind.wrap_u32']; omega
      have hrm : (r : Int) % 4294967296 = (r : Int) := by omega
      clear hit hb hwo hr0 hd0 hne hstep hn hU hbx
      by_cases hpl : 32 ≤ r ∧ r ≤ 126
      · have hst : st.step r = st.shut.say r := by unfold St.step; rw [if_pos hpl]
        have hpt : isPl r = true := by unfold isPl; exact decide_eq_true hpl
        have hc13 := Lib.hid (shut_st wo b0 b1 b2 b3 hA st hok (by omega) hUo)
        have hsl := St.shut_len st
        obtain ⟨SL, hSL⟩ : ∃ S : ByteArray, S = ⟨[UInt8.ofNat r].toArray⟩ := ⟨_, rfl⟩
        have hsz : SL.size ≤ 1 := by rw [hSL]; exact Nat.le_refl _
        have hcv := fun W : World => rune_conv W r hpl.1 hpl.2
        rw [← hSL] at hcv
        obtain ⟨SO, hSO⟩ : ∃ S : ByteArray, S = ⟨st.shut.out.toArray⟩ := ⟨_, rfl⟩
        have hso : SO.size ≤ 9000 := by rw [hSO]; show st.shut.out.toArray.size ≤ _; simp; omega
        have hSO' := Lib.hid hSO
        have hSL' := Lib.hid hSL
        have hst' := Lib.hid hst
        clear hSO hSL hst hpl
        by_cases h38 : r = 38
        · have h38' : ((r : Int) == 38) = true := by rw [h38]; rfl
          have h38h := Lib.hid h38
          clear h38
          go_wp2_with (first | (go_at_call 15; refine (plain9_any _ r).mono ?_; rintro e w1 ⟨rfl, rfl⟩) | (go_at_call 13; refine hc13.out.mono ?_; rintro e w1 ⟨rfl, hB1, hU1⟩; have q0 := hU1.c0.cell; have f0 := hU1.c0.free; rw [← hSO'.out] at q0; have lt0 := hU1.c0.lt))
          have hs2 : SO ++ SL = ⟨(st.shut.out ++ [UInt8.ofNat r]).toArray⟩ := by rw [hSO'.out, hSL'.out, app_bytes st.shut.out [UInt8.ofNat r]]
          have hs3 : SO ++ SL ++ (⟨#[45]⟩ : ByteArray) = ⟨(st.shut.out ++ [UInt8.ofNat r] ++ [45]).toArray⟩ := by rw [hs2]; exact app_bytes (st.shut.out ++ [UInt8.ofNat r]) [45]
          rw [hs3, hs2]
          refine say_end w wo _ wx s b0 b1 b2 b3 bi pos d r st _ l1 l2 l3 li e0 e1 e2 e3 ((hB1.put b0 (by simp) _).put b0 (by simp) _) ?_ hit1.out hbb.out hm1.out c1 c2 hfold.out hoks.out hlen.out
          have := US.out (US.out hU1 hA (st.shut.out ++ [UInt8.ofNat r])) hA (st.shut.out ++ [UInt8.ofNat r] ++ [45])
          rw [hst'.out]
          unfold USs St.say
          rw [if_pos h38h.out]
          exact this
        · have h38' : ((r : Int) == 38) = false := by rw [beq_eq_false_iff_ne]; omega
          have h38h := Lib.hid h38
          clear h38
          go_wp2_with (first | (go_at_call 15; refine (plain9_any _ r).mono ?_; rintro e w1 ⟨rfl, rfl⟩) | (go_at_call 13; refine hc13.out.mono ?_; rintro e w1 ⟨rfl, hB1, hU1⟩; have q0 := hU1.c0.cell; have f0 := hU1.c0.free; rw [← hSO'.out] at q0; have lt0 := hU1.c0.lt))
          have hs2 : SO ++ SL = ⟨(st.shut.out ++ [UInt8.ofNat r]).toArray⟩ := by rw [hSO'.out, hSL'.out, app_bytes st.shut.out [UInt8.ofNat r]]
          rw [hs2]
          refine say_end w wo _ wx s b0 b1 b2 b3 bi pos d r st _ l1 l2 l3 li e0 e1 e2 e3 (hB1.put b0 (by simp) _) ?_ hit1.out hbb.out hm1.out c1 c2 hfold.out hoks.out hlen.out
          have := US.out hU1 hA (st.shut.out ++ [UInt8.ofNat r])
          rw [hst'.out]
          unfold USs St.say
          rw [if_neg h38h.out, List.append_nil]
          exact this
      · have hpf : isPl r = false := by unfold isPl; exact decide_eq_false hpl
        have hop := hok.open_
        have hol := St.open_len st
        have hU' := Lib.hid hUo
        have q0 := hUo.c0.cell
        have f0 := hUo.c0.free
        have q3 := hUo.c3.cell
        have f3 := hUo.c3.free
        obtain ⟨SO, hSO⟩ : ∃ S : ByteArray, S = ⟨st.out.toArray⟩ := ⟨_, rfl⟩
        have hso : SO.size ≤ 9000 := by rw [hSO]; show st.out.toArray.size ≤ _; simp; omega
        rw [← hSO] at q0
        have hSO' := Lib.hid hSO
        have hlo : st.open_.out.length ≤ 9000 := by omega
        clear hUo hSO
        by_cases hbig : 65535 < r
        · have hst := Lib.hid (show st.step r = (st.open_.unit (55296 + (r - 65536) / 1024)).unit (56320 + (r - 65536) % 1024) by unfold St.step; rw [if_neg hpl, if_pos hbig])
          have hbig' : (65535 : Int) < (r : Int) := by omega
          obtain ⟨D, hD⟩ : ∃ D, D = r - 65536 := ⟨_, rfl⟩
          obtain ⟨Q, hQ⟩ : ∃ Q, Q = D / 1024 := ⟨_, rfl⟩
          obtain ⟨M, hM⟩ : ∃ M, M = D % 1024 := ⟨_, rfl⟩
          obtain ⟨U1, hU1d⟩ : ∃ U, U = 55296 + Q := ⟨_, rfl⟩
          obtain ⟨U2, hU2d⟩ : ∃ U, U = 56320 + M := ⟨_, rfl⟩
          rw [← hD, ← hQ, ← hM, ← hU1d, ← hU2d] at hst
          have hDs : (r : Int) - 65536 = (D : Int) := by omega
          have hDw : IntKind.u32.wrap (D : Int) = (D : Int) := by rw [IntKind.wrap_u32']; omega
          have hDm : (D : Int) % 4294967296 = (D : Int) := by omega
          have hQi : (D : Int) / 1024 = (Q : Int) := by omega
          have hU1i : 55296 + (Q : Int) = (U1 : Int) := by omega
          have hU1w : IntKind.u32.wrap (U1 : Int) = (U1 : Int) := by rw [IntKind.wrap_u32']; omega
          have hU1m : (U1 : Int) % 4294967296 = (U1 : Int) := by omega
          have hMi : bits .and .u32 (D : Int) 1023 = (M : Int) := by
            have h1 := and_u32 D 1023 (by omega) (by decide)
            rw [show D &&& 1023 = D % 1024 from Nat.and_two_pow_sub_one_eq_mod D 10, ← hM] at h1
            exact h1
          have hU2i : 56320 + (M : Int) = (U2 : Int) := by omega
          have hU2w : IntKind.u32.wrap (U2 : Int) = (U2 : Int) := by rw [IntKind.wrap_u32']; omega
          have hU2m : (U2 : Int) % 4294967296 = (U2 : Int) := by omega
          have hu1 : U1 < 65536 := by omega
          have hu2 : U2 < 65536 := by omega
          have hl2 := St.unit_len hop U1
          clear hpl hbig hD hQ hM hU1d hU2d
          cases hin : st.inn
          · rw [hin] at q3
            have hs2 : SO ++ (⟨#[38]⟩ : ByteArray) = ⟨st.open_.out.toArray⟩ := by
              rw [hSO'.out]
              show _ = (⟨(st.out ++ (if st.inn = true then [] else [38])).toArray⟩ : ByteArray)
              rw [hin]
              exact app_bytes st.out [38]
            have hU1 : USs ((wo.setCell ⟨b0, 0, none⟩ (.string (SO ++ (⟨#[38]⟩ : ByteArray)))).setCell ⟨b3, 0, none⟩ (.bool true)) b0 b1 b2 b3 st.open_ := by
              rw [hs2]
              exact US.inn (US.out hU'.out hA st.open_.out) hA true
            have hB1 : But4 b0 b1 b2 b3 wo ((wo.setCell ⟨b0, 0, none⟩ (.string (SO ++ (⟨#[38]⟩ : ByteArray)))).setCell ⟨b3, 0, none⟩ (.bool true)) := ((But4.refl _ _ _ _ _).put b0 (by simp) _).put b3 (by simp) _
            have hc := Lib.hid (unit_st _ b0 b1 b2 b3 hA st.open_ hop U1 hu1 (by omega) hU1)
            have hc2 := Lib.hid (fun (W : World) (h : USs W b0 b1 b2 b3 (st.open_.unit U1)) => unit_st W b0 b1 b2 b3 hA (st.open_.unit U1) (hop.unit U1) U2 hu2 (by omega) h)
            have hB1' := Lib.hid hB1
            clear hs2 hU1 hB1 hin
            go_wp2_with (first | (go_at_call 15; refine (plain9_any _ r).mono ?_; rintro e w1 ⟨rfl, rfl⟩) | (go_at_call 14; refine (hc2.out _ hU2).mono ?_; rintro e w3 ⟨rfl, hB3, hU3⟩) | (go_at_call 14; refine hc.out.mono ?_; rintro e w2 ⟨rfl, hB2, hU2⟩))
            exact run_end w wo w3 wx s b0 b1 b2 b3 bi pos d r st l1 l2 l3 e0 e1 e2 e3 ((hB1'.out.trans hB2).trans hB3) (by rw [hst.out]; exact hU3) hit1.out hbb.out hm1.out c1 c2 hfold.out hoks.out hlen.out
          · rw [hin] at q3
            have hU1 : USs (wo.setCell ⟨b3, 0, none⟩ (.bool true)) b0 b1 b2 b3 st.open_ := by
              have h1 := US.inn hU'.out hA true
              unfold USs St.open_
              rw [hin, if_pos rfl, List.append_nil]
              exact h1
            have hB1 : But4 b0 b1 b2 b3 wo (wo.setCell ⟨b3, 0, none⟩ (.bool true)) := (But4.refl _ _ _ _ _).put b3 (by simp) _
            have hc := Lib.hid (unit_st _ b0 b1 b2 b3 hA st.open_ hop U1 hu1 (by omega) hU1)
            have hc2 := Lib.hid (fun (W : World) (h : USs W b0 b1 b2 b3 (st.open_.unit U1)) => unit_st W b0 b1 b2 b3 hA (st.open_.unit U1) (hop.unit U1) U2 hu2 (by omega) h)
            have hB1' := Lib.hid hB1
            clear hU1 hB1 hin
            go_wp2_with (first | (go_at_call 15; refine (plain9_any _ r).mono ?_; rintro e w1 ⟨rfl, rfl⟩) | (go_at_call 14; refine (hc2.out _ hU2).mono ?_; rintro e w3 ⟨rfl, hB3, hU3⟩) | (go_at_call 14; refine hc.out.mono ?_; rintro e w2 ⟨rfl, hB2, hU2⟩))
            exact run_end w wo w3 wx s b0 b1 b2 b3 bi pos d r st l1 l2 l3 e0 e1 e2 e3 ((hB1'.out.trans hB2).trans hB3) (by rw [hst.out]; exact hU3) hit1.out hbb.out hm1.out c1 c2 hfold.out hoks.out hlen.out
        · have hst := Lib.hid (show st.step r = st.open_.unit r by unfold St.step; rw [if_neg hpl, if_neg hbig])
          have hbig' : ¬ (65535 : Int) < (r : Int) := by omega
          have hr16 : r < 65536 := by omega
          clear hpl hbig
          cases hin : st.inn
          · rw [hin] at q3
            have hs2 : SO ++ (⟨#[38]⟩ : ByteArray) = ⟨st.open_.out.toArray⟩ := by
              rw [hSO'.out]
              show _ = (⟨(st.out ++ (if st.inn = true then [] else [38])).toArray⟩ : ByteArray)
              rw [hin]
              exact app_bytes st.out [38]
            have hU1 : USs ((wo.setCell ⟨b0, 0, none⟩ (.string (SO ++ (⟨#[38]⟩ : ByteArray)))).setCell ⟨b3, 0, none⟩ (.bool true)) b0 b1 b2 b3 st.open_ := by
              rw [hs2]
              exact US.inn (US.out hU'.out hA st.open_.out) hA true
            have hB1 : But4 b0 b1 b2 b3 wo ((wo.setCell ⟨b0, 0, none⟩ (.string (SO ++ (⟨#[38]⟩ : ByteArray)))).setCell ⟨b3, 0, none⟩ (.bool true)) := ((But4.refl _ _ _ _ _).put b0 (by simp) _).put b3 (by simp) _
            have hc := Lib.hid (unit_st _ b0 b1 b2 b3 hA st.open_ hop r hr16 (by omega) hU1)
            have hB1' := Lib.hid hB1
            clear hs2 hU1 hB1 hin
            go_wp2_with (first | (go_at_call 15; refine (plain9_any _ r).mono ?_; rintro e w1 ⟨rfl, rfl⟩) | (go_at_call 14; refine hc.out.mono ?_; rintro e w2 ⟨rfl, hB2, hU2⟩))
            exact run_end w wo w2 wx s b0 b1 b2 b3 bi pos d r st l1 l2 l3 e0 e1 e2 e3 (hB1'.out.trans hB2) (by rw [hst.out]; exact hU2) hit1.out hbb.out hm1.out c1 c2 hfold.out hoks.out hlen.out
          · rw [hin] at q3
            have hU1 : USs (wo.setCell ⟨b3, 0, none⟩ (.bool true)) b0 b1 b2 b3 st.open_ := by
              have h1 := US.inn hU'.out hA true
              unfold USs St.open_
              rw [hin, if_pos rfl, List.append_nil]
              exact h1
            have hB1 : But4 b0 b1 b2 b3 wo (wo.setCell ⟨b3, 0, none⟩ (.bool true)) := (But4.refl _ _ _ _ _).put b3 (by simp) _
            have hc := Lib.hid (unit_st _ b0 b1 b2 b3 hA st.open_ hop r hr16 (by omega) hU1)
            have hB1' := Lib.hid hB1
            clear hU1 hB1 hin
            go_wp2_with (first | (go_at_call 15; refine (plain9_any _ r).mono ?_; rintro e w1 ⟨rfl, rfl⟩) | (go_at_call 14; refine hc.out.mono ?_; rintro e w2 ⟨rfl, hB2, hU2⟩))
            exact run_end w wo w2 wx s b0 b1 b2 b3 bi pos d r st l1 l2 l3 e0 e1 e2 e3 (hB1'.out.trans hB2) (by rw [hst.out]; exact hU2) hit1.out hbb.out hm1.out c1 c2 hfold.out hoks.out hlen.out
    · have hnx : ∀ ty, (Instr.next (.pointer (some ⟨bi, 0, none⟩)) true ty).run Tryd.prog wx = .ok (.tuple #[.bool false]) wx := fun ty => Lib.run_next_end_at wx bi s pos ty hit hp
      obtain rfl : pos = s.size := by omega
      have hf : utfOf s.data.toList = st.shut.out := by rw [hn, List.drop_of_length_le (by simp)]; rfl
      have hc13 := Lib.hid (shut_st wx b0 b1 b2 b3 hA st hok (by omega) hU)
      have hf' := Lib.hid hf
      have hb' := Lib.hid hb
      clear hn hf hU hit hb
      go_wp2_with (go_at_call 13; refine hc13.out.mono ?_; rintro e w1 ⟨rfl, hB1, hU1⟩; have q0 := hU1.c0.cell)
      go_ret
      refine ⟨by rw [hf'.out]; rfl, ?_⟩
      rw [← hb0'.out]
      exact hb'.out.trans (hB1.toBelow l1 l2 l3)
end Go.Proofs.YtbjhmmiijebehaaDoor.Own

namespace Go.Proofs.YtbjhmmiijebehaaDoor.Own
open Go.RowKit Go.Lib
set_option linter.unusedVariables false
set_option linter.unusedSimpArgs false

def EnvT (w : World) : Prop := EnvU w ∧ Lib.Utf8Tabs 3 4 w
theorem EnvT.all {w : World} (h : EnvT w) : ∀ W, Below w.heap.size w W → EnvT W := fun W hb => ⟨h.1.all W hb, tabs_below h.2 hb⟩
def impl_Utf7.f (s : ByteArray) : Option (ByteArray × Bool) := if s.size ≤ 1000 then some (toP s, true) else none
theorem impl_Utf7.calls (a0 : ByteArray) (r1 : ByteArray) (r2 : Bool) (w : World) (h : impl_Utf7.f a0 = some (r1, r2)) (henv : EnvT w) :
    Calls Tryd.prog 8 #[.string a0] w fun e w' => e = .returned (.tuple #[.string r1, .bool r2]) ∧ Below w.heap.size w w' := by
  unfold impl_Utf7.f at h
  by_cases hs : a0.size ≤ 1000
  · rw [if_pos hs] at h
    have h' := Option.some.inj h
    have h1 : toP a0 = r1 := congrArg Prod.fst h'
    have h2 : true = r2 := congrArg Prod.snd h'
    rw [← h1, ← h2]
    exact utf7_any a0 hs w (fun W hb => (henv.all W hb).2)
  · rw [if_neg hs] at h; cases h
def impl_FromUtf7T.f (s : ByteArray) : Option (ByteArray × Bool) := impl_FromUtf7.f s
theorem impl_FromUtf7T.calls (a0 : ByteArray) (r1 : ByteArray) (r2 : Bool) (w : World) (h : impl_FromUtf7T.f a0 = some (r1, r2)) (henv : EnvT w) :
    Calls Tryd.prog 6 #[.string a0] w fun e w' => e = .returned (.tuple #[.string r1, .bool r2]) ∧ Below w.heap.size w w' :=
  impl_FromUtf7.calls a0 r1 r2 w h henv.1
def spec_Utf9F.f (s : ByteArray) : Option Bool := if s.size ≤ 1000000 then some (utf9 s.data.toList) else none
theorem spec_Utf9F.calls (a0 : ByteArray) (r : Bool) (w : World) (h : spec_Utf9F.f a0 = some r) :
    Calls Tryd.prog 7 #[.string a0] w fun e w' => e = .returned (.bool r) ∧ Below w.heap.size w w' := by
  unfold spec_Utf9F.f at h
  by_cases hs : a0.size ≤ 1000000
  · rw [if_pos hs] at h
    rw [← Option.some.inj h]
    exact utf9_any a0 w hs
  · rw [if_neg hs] at h; cases h
def spec_Utf7OfF.f (s : ByteArray) : Option ByteArray := if s.size ≤ 1000 then some (toP s) else none
theorem spec_Utf7OfF.calls (a0 : ByteArray) (r : ByteArray) (w : World) (h : spec_Utf7OfF.f a0 = some r) :
    Calls Tryd.prog 9 #[.string a0] w fun e w' => e = .returned (.string r) ∧ Below w.heap.size w w' := by
  unfold spec_Utf7OfF.f at h
  by_cases hs : a0.size ≤ 1000
  · rw [if_pos hs] at h
    rw [← Option.some.inj h]
    have hq := utfOf_any a0 w hs
    rw [utfOf_tF] at hq
    exact hq
  · rw [if_neg hs] at h; cases h
theorem round_P (s : ByteArray) (h : utf9 s.data.toList = true) : fromP (toP s) = (s, true) := by
  have h1 : trF true (toP s).data.toList = some s.data.toList := round_tF _ h
  unfold fromP
  rw [h1]
theorem toP_size (s : ByteArray) : (toP s).size ≤ 5 * s.size := by
  have h := tF_five s.data.toList
  have e1 : (toP s).size = (tF s.data.toList).length := rfl
  have e2 : s.data.toList.length = s.size := by simp
  omega
end Go.Proofs.YtbjhmmiijebehaaDoor.Own
