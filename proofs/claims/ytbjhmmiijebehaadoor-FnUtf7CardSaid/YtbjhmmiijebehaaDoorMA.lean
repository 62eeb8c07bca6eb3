/- Rows of bytes that '[]byte(s)' lays: what a walk reads and writes in them, and what 'string(b)' makes of them. No law of the program is proved here. Rows of bytes that 'make' lays: what a walk reads and writes in them, at any offset. No law of the program is proved here. base64.NewEncoding at the alphabet of modified UTF-7, and utf7.b64Enc: the Encoding's block. Plain words on base64 at the alphabet of modified UTF-7: the map of letters, a quantum, the whole; and what a walk over it asks of memory. No law of the program is proved here. base64's decodeQuantum at the alphabet of modified UTF-7. -/
import Derived.Test.YtbjhmmiijebehaaDoorProg
import Derived.WalkKit
import Derived.Lib.ConvBytes
import Derived.Laws.BytesArg
import Derived.Lib.Hide
import Derived.BigGuard
import Derived.Lib.BufferWrite
import Derived.Laws.CopyOwn
import Derived.WalkSpells
import Derived.WalkLawsBesides
import Derived.BigCall
import Derived.BigQuiet
import Derived.Deep.QuietTactic
import Derived.KernelRfl
import Derived.Laws.BitsAllLaws
import Derived.Lib.EndianBits
import Derived.Deep.Cut
namespace Go.Proofs.YtbjhmmiijebehaaDoor.Own
open Go.RowKit
set_option linter.unusedVariables false
set_option linter.unusedSimpArgs false

/-- Block B is a row of bytes that a conversion has laid: its first cells are l. -/
def Row8 (e : TypeId) (w : World) (B : Nat) (l : List UInt8) : Prop :=
  ∃ C : Array Value, w.heap[B]? = some (.cells C e (C.size, C.size + 1)) ∧ l.length ≤ C.size ∧ ∀ (j : Nat) (c : UInt8), l[j]? = some c → C[j]? = some (Value.int .u8 (c.toNat : Int))

theorem Row8.cell {e : TypeId} {w : World} {B : Nat} {l : List UInt8} (h : Row8 e w B l) {j : Nat} {c : UInt8} (hj : l[j]? = some c) : w.cell? ⟨B, j, none⟩ = some (.int .u8 (c.toNat : Int)) := by
  obtain ⟨C, hC, hn, hc⟩ := h
  simp [World.cell?, hC, hc j c hj]

theorem Row8.free {e : TypeId} {w : World} {B : Nat} {l : List UInt8} (h : Row8 e w B l) {j : Nat} (hj : j < l.length) : w.frozen? ⟨B, j, none⟩ = false := by
  obtain ⟨C, hC, hn, hc⟩ := h
  simp [World.frozen?, hC]
  omega

theorem Row8.set {e : TypeId} {w : World} {B : Nat} {l : List UInt8} (h : Row8 e w B l) (j : Nat) (v : UInt8) : Row8 e (w.setCell ⟨B, j, none⟩ (.int .u8 (v.toNat : Int))) B (l.set j v) := by
  obtain ⟨C, hC, hn, hc⟩ := h
  refine ⟨C.setIfInBounds j (.int .u8 (v.toNat : Int)), ?_, by simpa using hn, ?_⟩
  · simp only [World.setCell, Array.getElem?_modify]
    simp [hC]
  · intro i c hi
    by_cases hij : j = i
    · subst hij
      have hl : j < l.length := by
        rcases Nat.lt_or_ge j l.length with h | h
        · exact h
        · rw [List.getElem?_eq_none (by simpa using h)] at hi; cases hi
      have hs : j < C.size := by omega
      rw [List.getElem?_set_self hl] at hi
      cases hi
      simp [hs]
    · rw [List.getElem?_set_ne hij] at hi
      rw [Array.getElem?_setIfInBounds_ne hij]
      exact hc i c hi

theorem Row8.drew {e : TypeId} {w : World} {B : Nat} {l : List UInt8} (h : Row8 e w B l) : Row8 e w.drew B l := h

theorem Row8.of_conv (w : World) (e : TypeId) (s : ByteArray) : Row8 e (Lib.bytesWorld w e s) w.heap.size s.data.toList := by
  refine ⟨Lib.bytesCells w e s, Lib.bytesWorld_at_new w e s, ?_, ?_⟩
  · simp [Lib.bytesCells]
  · intro j c hj
    have hj' : j < s.data.size := by
      rcases Nat.lt_or_ge j s.data.size with h | h
      · exact h
      · rw [List.getElem?_eq_none (by simpa using h)] at hj; cases hj
    rw [List.getElem?_eq_getElem (by simpa using hj')] at hj
    cases hj
    have hs : j < s.size := hj'
    simp [Lib.bytesCells, Array.getElem?_append, hs, hj']

theorem below_conv (w : World) (e : TypeId) (s : ByteArray) : Below w.heap.size w (Lib.bytesWorld w e s) :=
  ⟨rfl, rfl, rfl, by rw [Lib.bytesWorld_size]; omega, fun k hk => Lib.bytesWorld_at_old w e s k hk⟩

/-- 'string(b)' of such a row. -/
theorem Row8.string {P : Program} {e : TypeId} {w : World} {B : Nat} {l : List UInt8} (h : Row8 e w B l) (src dst : TypeId) (hs : P.underlying src = some (.slice e)) (he : P.underlying e = some (.int .u8)) (hd : P.underlying dst = some .string) (n cap : Nat) (hn : n = l.length) :
    (convert src dst (.slice (some ⟨B, 0, none⟩) n cap)).run P w = .ok (.string ⟨l.toArray⟩) w := by
  subst hn
  have := run_convert_bytes_arg (P := P) w src e hs he B 0 l.length cap (l.map fun c => (c.toNat : Int)) (by simp) (fun i hi => by
    rw [Nat.zero_add, h.cell (List.getElem?_eq_getElem hi)]
    simp [List.getD_eq_getElem?_getD, List.getElem?_eq_getElem hi]) dst hd
  rw [this]
  have e2 : strOfNums (l.map fun c => (c.toNat : Int)) = ⟨l.toArray⟩ := by
    apply ByteArray.ext
    apply Array.ext'
    rw [strOfNums_data]
    simp [Function.comp_def]
  rw [e2]
end Go.Proofs.YtbjhmmiijebehaaDoor.Own

namespace Go.Proofs.YtbjhmmiijebehaaDoor.Own
open Go.RowKit
set_option linter.unusedVariables false
set_option linter.unusedSimpArgs false

/-- Block B is a row of bytes, made whole: it holds l and nothing else. -/
def Row0 (e : TypeId) (w : World) (B : Nat) (l : List UInt8) : Prop :=
  ∃ C : Array Value, w.heap[B]? = some (.cells C e (0, 0)) ∧ C.size = l.length ∧ ∀ (j : Nat) (c : UInt8), l[j]? = some c → C[j]? = some (Value.int .u8 (c.toNat : Int))
theorem Row0.lt {e : TypeId} {w : World} {B : Nat} {l : List UInt8} (h : Row0 e w B l) : B < w.heap.size := by
  obtain ⟨C, hC, _⟩ := h
  exact (Array.getElem?_eq_some_iff.1 hC).1
theorem Row0.cell {e : TypeId} {w : World} {B : Nat} {l : List UInt8} (h : Row0 e w B l) {j : Nat} {c : UInt8} (hj : l[j]? = some c) : w.cell? ⟨B, j, none⟩ = some (.int .u8 (c.toNat : Int)) := by
  obtain ⟨C, hC, hn, hc⟩ := h
  simp [World.cell?, hC, hc j c hj]
theorem Row0.free {e : TypeId} {w : World} {B : Nat} {l : List UInt8} (h : Row0 e w B l) (j : Nat) : w.frozen? ⟨B, j, none⟩ = false := by
  obtain ⟨C, hC, hn, hc⟩ := h
  simp [World.frozen?, hC]
theorem Row0.set {e : TypeId} {w : World} {B : Nat} {l : List UInt8} (h : Row0 e w B l) (j : Nat) (v : UInt8) : Row0 e (w.setCell ⟨B, j, none⟩ (.int .u8 (v.toNat : Int))) B (l.set j v) := by
  obtain ⟨C, hC, hn, hc⟩ := h
  refine ⟨C.setIfInBounds j (.int .u8 (v.toNat : Int)), ?_, by simpa using hn, ?_⟩
  · simp only [World.setCell, Array.getElem?_modify]
    simp [hC]
  · intro i c hi
    by_cases hij : j = i
    · subst hij
      have hl : j < l.length := by
        rcases Nat.lt_or_ge j l.length with h | h
        · exact h
        · rw [List.getElem?_eq_none (by simpa using h)] at hi; cases hi
      have hs : j < C.size := by omega
      rw [List.getElem?_set_self hl] at hi
      cases hi
      simp [hs]
    · rw [List.getElem?_set_ne hij] at hi
      rw [Array.getElem?_setIfInBounds_ne hij]
      exact hc i c hi
theorem Row0.below {e : TypeId} {w w' : World} {B : Nat} {l : List UInt8} (h : Row0 e w B l) (hb : Below w.heap.size w w') : Row0 e w' B l := by
  obtain ⟨C, hC, hn, hc⟩ := h
  exact ⟨C, (hb.block B (Array.getElem?_eq_some_iff.1 hC).1).trans hC, hn, hc⟩
end Go.Proofs.YtbjhmmiijebehaaDoor.Own

namespace Go.Proofs.YtbjhmmiijebehaaDoor.Own
open Go.RowKit Go.Lib
set_option linter.unusedVariables false
set_option linter.unusedSimpArgs false

def alpha9 : ByteArray := ⟨#[65, 66, 67, 68, 69, 70, 71, 72, 73, 74, 75, 76, 77, 78, 79, 80, 81, 82, 83, 84, 85, 86, 87, 88, 89, 90, 97, 98, 99, 100, 101, 102, 103, 104, 105, 106, 107, 108, 109, 110, 111, 112, 113, 114, 115, 116, 117, 118, 119, 120, 121, 122, 48, 49, 50, 51, 52, 53, 54, 55, 56, 57, 43, 44]⟩
/-- The map of letters behind the first i letters. -/
def dmapL : Nat → List Nat
  | 0 => List.replicate 256 255
  | i + 1 => (dmapL i).set (alpha9.data.toList.getD i 0).toNat i
def encCells (i : Nat) : List Value := (alpha9.data.toList.map fun c => Value.int .u8 (c.toNat : Int)) ++ ((dmapL i).map fun (n : Nat) => Value.int .u8 (n : Int)) ++ [.int .i32 61, .bool false]
def EncAt (w : World) (B i : Nat) : Prop := w.heap[B]? = some (.cells (encCells i).toArray 66 (0, 0))
def enc0 : Array Value := (List.replicate 320 (Value.int .u8 0) ++ [Value.int .i32 0, Value.bool false]).toArray
theorem zero_enc (w : World) : (zeroValue 66).run Tryd.prog w = .ok (.agg enc0) w := by kernel_rfl
theorem EncAt.cell {w : World} {B i : Nat} (h : EncAt w B i) {o : Nat} {v : Value} (hv : (encCells i)[o]? = some v) : w.cell? ⟨B, o, none⟩ = some v := by
  have h' : w.heap[B]? = _ := h
  simp only [World.cell?, h']
  simpa using hv
theorem EncAt.free {w : World} {B i : Nat} (h : EncAt w B i) (o : Nat) : w.frozen? ⟨B, o, none⟩ = false := by
  have h' : w.heap[B]? = _ := h
  simp [World.frozen?, h']
theorem EncAt.below {w w' : World} {B i : Nat} (h : EncAt w B i) (hb : Below w.heap.size w w') : EncAt w' B i := (hb.block B (Array.getElem?_eq_some_iff.1 h).1).trans h
theorem EncAt.lt {w : World} {B i : Nat} (h : EncAt w B i) : B < w.heap.size := (Array.getElem?_eq_some_iff.1 h).1
theorem dmap_len (j : Nat) : (dmapL j).length = 256 := by
  induction j with
  | zero => exact List.length_replicate
  | succ j ih => simp [dmapL, ih]
theorem enc_64 : (alpha9.data.toList.map fun c => Value.int .u8 (c.toNat : Int)).length = 64 := by decide +kernel
theorem enc_map (i c : Nat) (v : Nat) (hc : (dmapL i)[c]? = some v) : (encCells i)[64 + c]? = some (.int .u8 (v : Int)) := by
  have h64 := enc_64
  have hcl : c < (dmapL i).length := (List.getElem?_eq_some_iff.1 hc).1
  unfold encCells
  generalize (alpha9.data.toList.map fun c => Value.int .u8 (c.toNat : Int)) = La at h64 ⊢
  rw [List.getElem?_append_left (by rw [List.length_append, List.length_map]; omega), List.getElem?_append_right (by omega), h64, Nat.add_sub_cancel_left]
  simp [hc]
theorem enc_step (i : Nat) : (encCells i).set (64 + (alpha9.data.toList.getD i 0).toNat) (.int .u8 (i : Int)) = encCells (i + 1) := by
  have h64 := enc_64
  have h256 := dmap_len i
  have hc : (alpha9.data.toList.getD i 0).toNat < 256 := UInt8.toNat_lt _
  unfold encCells
  simp only [dmapL]
  generalize (alpha9.data.toList.getD i 0).toNat = c at hc ⊢
  generalize (alpha9.data.toList.map fun c => Value.int .u8 (c.toNat : Int)) = La at h64 ⊢
  rw [List.set_append_left _ _ (by rw [List.length_append, List.length_map]; omega), List.set_append_right _ _ (by omega), h64, Nat.add_sub_cancel_left]
  simp only [List.map_set]
theorem enc_new : ∀ i : Fin 64, (dmapL i.val)[(alpha9.data.toList.getD i.val 0).toNat]? = some 255 := by decide +kernel
theorem enc_letter : ∀ i : Fin 64, ∀ h : i.val < alpha9.size, alpha9[i.val] = alpha9.data.toList.getD i.val 0 := by decide +kernel
theorem enc_nl : ∀ i : Fin 64, alpha9.data.toList.getD i.val 0 ≠ 10 ∧ alpha9.data.toList.getD i.val 0 ≠ 13 := by decide +kernel
theorem EncAt.set {w : World} {B i : Nat} (h : EncAt w B i) (hi : i < 64) : EncAt (w.setCell ⟨B, 64 + (alpha9.data.toList.getD i 0).toNat, none⟩ (.int .u8 (i : Int))) B (i + 1) := by
  have h' : w.heap[B]? = _ := h
  have hs := enc_step i
  unfold EncAt
  generalize (alpha9.data.toList.getD i 0).toNat = c at hs ⊢
  simp only [World.setCell, Array.getElem?_modify]
  simp [h', hs]
set_option maxHeartbeats 1000000 in
set_option maxRecDepth 100000 in
theorem newEnc_any (w : World) :
    Calls Tryd.prog 30 #[.string alpha9] w fun e w' => e = .returned (.pointer (some ⟨w.heap.size, 0, none⟩)) ∧ EncAt w' w.heap.size 64 ∧ Below w.heap.size w w' := by
  obtain ⟨A, hA⟩ : ∃ A, alpha9 = A := ⟨_, rfl⟩
  have h64 : A.size = 64 := by rw [← hA]; rfl
  rw [hA]
  have hz := zero_enc
  obtain ⟨Z, hZ⟩ : ∃ Z, enc0 = Z := ⟨_, rfl⟩
  rw [hZ] at hz
  have z0 : Z.size = 322 := by rw [← hZ]; kernel_rfl
  have z1 : Z[320]? = some (.int .i32 0) := by rw [← hZ]; kernel_rfl
  go_enter Tryd.func30, Tryd.ntmps30
  have hcp : ∀ (W : World) (C : Array Value) (o : Nat) (len : Nat) (s : ByteArray), s.size = len → o + len ≤ C.size → W.heap[w.heap.size]? = some (.cells C 66 (0, 0)) → (Builtin.copy_ #[38, 9] 3 #[.slice (some ⟨w.heap.size, o, none⟩) len len, .string s]).run Tryd.prog W =
      .ok (goInt len) (W.setRow w.heap.size (C.toList.take o ++ Lib.byteCells s.data.toList ++ C.toList.drop (o + len)).toArray) := by
    intro W C o len s hs hle hW
    have := Lib.run_copy_row_string (P := Tryd.prog) W 38 9 3 5 w.heap.size o len len s _ _ Tryd.underlying38 (by kernel_rfl) hW (by omega) (by omega)
    rw [hs] at this
    exact this
  have hcp' := Lib.hid hcp
  clear hcp
  have hA' := Lib.hid hA
  clear hA
  have hZ' := Lib.hid hZ
  clear hZ
  go_wp2_with fail
  rw [hcp'.out _ _ 0 64 A h64 (by rw [Array.size_setIfInBounds, z0]; decide) (heap_alloc_new _ _)]
  generalize hC1 : (List.take 0 (Z.setIfInBounds 320 (Value.int IntKind.i32 61)).toList ++ Lib.byteCells A.data.toList ++ List.drop (0 + 64) (Z.setIfInBounds 320 (Value.int IntKind.i32 61)).toList).toArray = C1
  have hC1s : C1.size = 322 := by
    rw [← hC1, ← hA'.out, ← hZ'.out]; kernel_rfl
  have hW1 : ((w.alloc (Obj.cells (Z.setIfInBounds 320 (Value.int IntKind.i32 61)) 66)).setRow w.heap.size C1).heap[w.heap.size]? = some (.cells C1 66 (0, 0)) := setRow_heap _ _ _ _ _ _ (heap_alloc_new _ _)
  have hb1 : Below w.heap.size w ((w.alloc (Obj.cells (Z.setIfInBounds 320 (Value.int IntKind.i32 61)) 66)).setRow w.heap.size C1) := below_setRow ((Below.refl _ _).alloc (Nat.le_refl _) _) (Nat.le_refl _) _
  generalize (w.alloc (Obj.cells (Z.setIfInBounds 320 (Value.int IntKind.i32 61)) 66)).setRow w.heap.size C1 = W1 at *
  have hC1' := Lib.hid hC1
  clear hC1
  have hW1' := Lib.hid hW1
  clear hW1
  have hb1' := Lib.hid hb1
  clear hb1
  go_wp2_with fail
  rw [hcp'.out _ _ 64 256 _ (by kernel_rfl) (by rw [hC1s]; decide) hW1'.out]
  generalize hC2 : (List.take 64 C1.toList ++ _ ++ List.drop (64 + 256) C1.toList).toArray = C2
  have hC2e : C2 = (encCells 0).toArray := by
    rw [← hC2, ← hC1'.out, ← hA'.out, ← hZ'.out]; kernel_rfl
  have hW2 : (W1.setRow w.heap.size C2).heap[w.heap.size]? = some (.cells C2 66 (0, 0)) := setRow_heap _ _ _ _ _ _ hW1'.out
  have hb2 : Below w.heap.size w (W1.setRow w.heap.size C2) := below_setRow hb1'.out (Nat.le_refl _) _
  clear hC2
  subst hC2e
  generalize W1.setRow w.heap.size (encCells 0).toArray = W2 at *
  have hR2 : EncAt W2 w.heap.size 0 ∧ Below w.heap.size w W2 := ⟨hW2, hb2⟩
  clear hW2 hb2 hC1' hW1' hb1' hC1s hcp' hz z0 z1 hZ'
  have hR2' := Lib.hid hR2
  clear hR2
  go_wp2_with fail
  go_loopw [4] (fun s4 wr => ∃ i : Nat, i ≤ 64 ∧ s4 = .int .i64 (i : Int) ∧ Hid (EncAt wr w.heap.size i ∧ Below w.heap.size w wr)) (fun s4 _ => 64 - (RowKit.intOf s4).toNat)
  case atStart => exact ⟨0, by omega, rfl, hR2'⟩
  case round =>
    obtain ⟨wq, hwq⟩ : ∃ wq : World, wq = wr := ⟨_, rfl⟩
    rw [← hwq] at hrel ⊢
    clear hwq hR2'
    obtain ⟨i, hi, rfl, hR⟩ := hrel
    by_cases hlt : i < 64
    · have hsz : i < A.size := by omega
      obtain ⟨n, hn⟩ : ∃ n, (alpha9.data.toList.getD i 0).toNat = n := ⟨_, rfl⟩
      have hl : (A[i]'hsz).toNat = n := by rw [← hn]; have hA := hA'.out; clear hA'; subst hA; exact congrArg _ (enc_letter ⟨i, hlt⟩ _)
      have n10 : ((n : Int) == 10) = false := by
        rw [beq_eq_false_iff_ne]; have := (enc_nl ⟨i, hlt⟩).1; intro h; apply this; apply UInt8.toNat.inj; show _ = 10; rw [hn]; omega
      have n13 : ((n : Int) == 13) = false := by
        rw [beq_eq_false_iff_ne]; have := (enc_nl ⟨i, hlt⟩).2; intro h; apply this; apply UInt8.toNat.inj; show _ = 13; rw [hn]; omega
      have nlt : (n : Int) < 256 := by have := UInt8.toNat_lt (alpha9.data.toList.getD i 0); omega
      have q1 : wq.cell? ⟨w.heap.size, 64 + n, none⟩ = some (.int .u8 255) := hR.out.1.cell (enc_map i n 255 (by rw [← hn]; exact enc_new ⟨i, hlt⟩))
      have q2 := hR.out.1.free (64 + n)
      have gi : (i : Int) < 64 := by omega
      go_wp2_with fail
      go_quiet (fail)
      go_wp2_with fail
      go_region
      all_goals (go_wp2_with fail)
      have hE2 : EncAt (wq.drewN (nq + 1)) w.heap.size i := by have := hR.out.1; unfold EncAt at this ⊢; simpa using this
      have hB2 : Below w.heap.size w (wq.drewN (nq + 1)) := hR.out.2.trans ⟨rfl, rfl, rfl, Nat.le_refl _, fun _ _ => rfl⟩
      refine ⟨⟨i + 1, by omega, by simp, Lib.hid ⟨by have := hE2.set hlt; rwa [hn] at this, hB2.setCell (Nat.le_refl _) _⟩⟩, ?_⟩
      simp only [RowKit.intOf]
      omega
    · obtain rfl : i = 64 := by omega
      have hR' := Lib.hid (hR.out)
      go_wp2_with fail
      go_ret
      exact ⟨rfl, hR'.out⟩
theorem b64_any (w : World) :
    Calls Tryd.prog 20 #[] w fun e w' => e = .returned (.pointer (some ⟨w.heap.size, 0, none⟩)) ∧ EncAt w' w.heap.size 64 ∧ Below w.heap.size w w' := by
  have hc := Lib.hid (newEnc_any w)
  unfold alpha9 at hc
  go_enter Tryd.func20, Tryd.ntmps20
  go_wp2_with fail
  refine hc.out.mono ?_
  rintro e w1 ⟨rfl, hb⟩
  have hb := Lib.hid hb
  go_wp2_with fail
  go_ret
  exact ⟨rfl, hb.out⟩
end Go.Proofs.YtbjhmmiijebehaaDoor.Own

namespace Go.Proofs.YtbjhmmiijebehaaDoor.Own
open Go.RowKit Go.Lib
set_option linter.unusedVariables false
set_option linter.unusedSimpArgs false

/-! ### The map of letters -/
def dm (c : UInt8) : UInt8 := UInt8.ofNat ((dmapL 64).getD c.toNat 255)
theorem dm_all : ∀ n : Fin 256, (dmapL 64).getD n.val 255 < 256 ∧ ((dmapL 64).getD n.val 255 < 64 ∨ (dmapL 64).getD n.val 255 = 255) := by decide +kernel
theorem dm_nat (c : UInt8) : (dm c).toNat = (dmapL 64).getD c.toNat 255 := by
  have := (dm_all ⟨c.toNat, UInt8.toNat_lt c⟩).1
  simp only at this
  unfold dm
  rw [UInt8.toNat_ofNat']
  omega
theorem dm_cases (c : UInt8) : (dm c).toNat < 64 ∨ (dm c).toNat = 255 := by
  rw [dm_nat]; exact (dm_all ⟨c.toNat, UInt8.toNat_lt c⟩).2
theorem dm_get (c : UInt8) : (dmapL 64)[c.toNat]? = some (dm c).toNat := by
  rw [dm_nat]
  have h : c.toNat < (dmapL 64).length := by rw [dmap_len]; exact UInt8.toNat_lt c
  simp [h]
theorem dm_61 : (dm 61).toNat = 255 := by decide +kernel
theorem EncAt.map {w : World} {E : Nat} (h : EncAt w E 64) (c : UInt8) : w.cell? ⟨E, 64 + c.toNat, none⟩ = some (.int .u8 ((dm c).toNat : Int)) := h.cell (enc_map 64 _ _ (dm_get c))
theorem enc_pad : (encCells 64)[320]? = some (.int .i32 61) ∧ (encCells 64)[321]? = some (.bool false) := by
  constructor <;> kernel_rfl
theorem EncAt.pad {w : World} {E : Nat} (h : EncAt w E 64) : w.cell? ⟨E, 320, none⟩ = some (.int .i32 61) := h.cell enc_pad.1
theorem EncAt.strict {w : World} {E : Nat} (h : EncAt w E 64) : w.cell? ⟨E, 321, none⟩ = some (.bool false) := h.cell enc_pad.2
/-- The map as one value. -/
def mapV : Value := .agg ((dmapL 64).map fun (n : Nat) => Value.int .u8 (n : Int)).toArray
theorem wpList_load_dmap {ops : Array Oper} {rest : List Oper} {o : Oper} {a : Act} {w : World} {Q : Exit → Act → World → Prop} (hgd : o.guard = none) (x : Operand) (ho : o.op = .load 64 x)
    (E : Nat) (hx : a.eval x = .pointer (some ⟨E, 64, none⟩)) (he : EncAt w E 64)
    (h : wpList Tryd.prog ops Q rest (a.put o.dst mapV) w) : wpList Tryd.prog ops Q (o :: rest) a w := by
  refine wpList_plain hgd fun K hK => ?_
  have hl : (loadCells ⟨E, 64, none⟩ ((dmapL 64).map fun (n : Nat) => Value.int .u8 (n : Int)).length).run Tryd.prog w = .ok ((dmapL 64).map fun (n : Nat) => Value.int .u8 (n : Int)).toArray w :=
    run_loadCells_list (P := Tryd.prog) w ⟨E, 64, none⟩ _ (fun j v hv => by
      have hadd : (⟨E, 64, none⟩ : Addr).add j = ⟨E, 64 + j, none⟩ := by unfold Addr.add; split <;> simp_all
      rw [hadd]
      rw [List.getElem?_map, Option.map_eq_some_iff] at hv
      obtain ⟨n, hn, rfl⟩ := hv
      exact he.cell (enc_map 64 j n hn))
  rw [List.length_map, dmap_len] at hl
  have hu : Tryd.prog.underlying 64 = some (.array 256 5) := by kernel_rfl
  have hs : (Tryd.prog.info? 64).map (·.size) = some 256 := by kernel_rfl
  have hagg : (isAgg 64).run Tryd.prog w = .ok true w := by
    unfold isAgg
    rw [Sem.run_bind, run_underlying hu w]
    simp
  cases hq : Tryd.prog.info? 64 with
  | none => simp [hq] at hs
  | some i =>
    have hs' : i.size = 256 := by simpa [hq] using hs
    have hv : (loadVar 64 ⟨E, 64, none⟩).run Tryd.prog w = .ok mapV w := by
      simp only [loadVar, Sem.run_bind, hagg, Result.andThen_ok]
      simp only [sizeOf, typeInfo, hq, hs', mapV]
      simp [hl, hs', hq]
    unfold Oper.wp execOp
    simp only [ho, hx, Instr.loadAt, Instr.sureAddr, Sem.run_bind, Sem.run_pure, Result.andThen_ok, hv]
    exact hK _ _ h

/-! ### A quantum -/
def q3 (a b c d : UInt8) : Nat := (dm a).toNat * 262144 + (dm b).toNat * 4096 + (dm c).toNat * 64 + (dm d).toNat
def qb0 (v : Nat) : UInt8 := UInt8.ofNat (v / 65536)
def qb1 (v : Nat) : UInt8 := UInt8.ofNat (v / 256)
def qb2 (v : Nat) : UInt8 := UInt8.ofNat v
def good (c : UInt8) : Prop := (dm c).toNat < 64
instance (c : UInt8) : Decidable (good c) := inferInstanceAs (Decidable (_ < _))
/-- One quantum of letters: its bytes; none if it is an error. -/
def qd : List UInt8 → Option (List UInt8)
  | a :: b :: c :: d :: t =>
    if good a ∧ good b ∧ good c ∧ good d then some [qb0 (q3 a b c d), qb1 (q3 a b c d), qb2 (q3 a b c d)]
    else if good a ∧ good b ∧ good c ∧ d = 61 ∧ t = [] then some [qb0 ((dm a).toNat * 262144 + (dm b).toNat * 4096 + (dm c).toNat * 64), qb1 ((dm a).toNat * 262144 + (dm b).toNat * 4096 + (dm c).toNat * 64)]
    else if good a ∧ good b ∧ c = 61 ∧ d = 61 ∧ t = [] then some [qb0 ((dm a).toNat * 262144 + (dm b).toNat * 4096)]
    else none
  | _ => none
/-- A text of letters, by quanta. -/
def dec64 : List UInt8 → Option (List UInt8)
  | [] => some []
  | a :: b :: c :: d :: t => match qd (a :: b :: c :: d :: t) with
    | none => none
    | some bs => (dec64 t).map (bs ++ ·)
  | _ => none
theorem or64 (a b c d : Int) (ha : 0 ≤ a) (ha' : a < 64) (hb : 0 ≤ b) (hb' : b < 64) (hc : 0 ≤ c) (hc' : c < 64) (hd : 0 ≤ d) (hd' : d < 64) :
    bits .or .u64 (bits .or .u64 (bits .or .u64 (a * 262144) (b * 4096)) (c * 64)) d = a * 262144 + b * 4096 + c * 64 + d := by
  have hw : ∀ n : Int, 0 ≤ n → n < 2 ^ 64 → IntKind.u64.wrap n = n := fun n h0 h1 => by rw [IntKind.wrap_u64]; omega
  rw [bits_join .u64 64 (by decide) hw 18 (a * 262144) (b * 4096) (by omega) (by omega) (by omega) (by omega) (by omega) (by omega),
    bits_join .u64 64 (by decide) hw 12 (a * 262144 + b * 4096) (c * 64) (by omega) (by omega) (by omega) (by omega) (by omega) (by omega),
    bits_join .u64 64 (by decide) hw 6 (a * 262144 + b * 4096 + c * 64) d (by omega) (by omega) (by omega) (by omega) (by omega) (by omega)]
theorem or8_255l : ∀ n : Nat, n < 256 → bits .or .u8 255 (n : Int) = 255 := by decide +kernel
theorem or8_255r : ∀ n : Nat, n < 256 → bits .or .u8 (n : Int) 255 = 255 := by decide +kernel
theorem or8_nat (a b : Nat) (ha : a < 256) (hb : b < 256) : bits .or .u8 (a : Int) (b : Int) = ((a ||| b : Nat) : Int) := u8_or_nat a b ha hb
theorem or_le (a b n : Nat) (ha : a < 2 ^ n) (hb : b < 2 ^ n) : a ||| b < 2 ^ n := Nat.or_lt_two_pow ha hb

/-! ### Worlds that differ in one block -/
def But (B : Nat) (w w' : World) : Prop := w'.os = w.os ∧ w'.tape = w.tape ∧ w'.output = w.output ∧ w.heap.size ≤ w'.heap.size ∧ ∀ k, k < w.heap.size → k ≠ B → w'.heap[k]? = w.heap[k]?
theorem But.refl (B : Nat) (w : World) : But B w w := ⟨rfl, rfl, rfl, Nat.le_refl _, fun _ _ _ => rfl⟩
theorem But.trans {B : Nat} {a b c : World} (h : But B a b) (g : But B b c) : But B a c :=
  ⟨g.1.trans h.1, g.2.1.trans h.2.1, g.2.2.1.trans h.2.2.1, Nat.le_trans h.2.2.2.1 g.2.2.2.1, fun k hk hn => (g.2.2.2.2 k (Nat.lt_of_lt_of_le hk h.2.2.2.1) hn).trans (h.2.2.2.2 k hk hn)⟩
theorem But.of_below {B : Nat} {w w' : World} (h : Below w.heap.size w w') : But B w w' := ⟨h.os, h.tape, h.output, h.size, fun k hk _ => h.block k hk⟩
theorem But.setCell (B j : Nat) (w : World) (v : Value) : But B w (w.setCell ⟨B, j, none⟩ v) :=
  ⟨rfl, rfl, rfl, by simp [World.setCell], fun k hk hn => by simp [World.setCell, Array.getElem?_modify, Ne.symm hn]⟩
theorem But.below {B : Nat} {w0 w w' : World} (h : But B w w') (hb : Below w0.heap.size w0 w) (hB : w0.heap.size ≤ B) : Below w0.heap.size w0 w' :=
  hb.trans ⟨h.1, h.2.1, h.2.2.1, h.2.2.2.1, fun k hk => h.2.2.2.2 k (Nat.lt_of_lt_of_le hk hb.size) (by omega)⟩
end Go.Proofs.YtbjhmmiijebehaaDoor.Own

namespace Go.Proofs.YtbjhmmiijebehaaDoor.Own
open Go.RowKit Go.Lib
set_option linter.unusedVariables false
set_option linter.unusedSimpArgs false

def Lj (a b c d : UInt8) (j : Nat) : List UInt8 := ([a, b, c, d].take j).map dm ++ List.replicate (4 - j) 0
theorem Lj_len (a b c d : UInt8) (j : Nat) (hj : j ≤ 4) : (Lj a b c d j).length = 4 := by
  simp [Lj]; omega
theorem Lj_set (a b c d x : UInt8) (j : Nat) (hx : [a, b, c, d][j]? = some x) : (Lj a b c d j).set j (dm x) = Lj a b c d (j + 1) := by
  match j, hx with
  | 0, h => cases h; rfl
  | 1, h => cases h; rfl
  | 2, h => cases h; rfl
  | 3, h => cases h; rfl
def Good (l : List UInt8) : Prop := ∀ x ∈ l, good x
theorem cell_ne {a b : UInt8} (h : ¬ a = b) : ((a.toNat : Int) == (b.toNat : Int)) = false := by
  rw [beq_eq_false_iff_ne]; intro e; apply h; apply UInt8.toNat.inj; omega
theorem good_61 : ¬ good 61 := by unfold good; rw [dm_61]; omega
theorem qd_bad (a b c d x : UInt8) (t : List UInt8) (j : Nat) (hx : [a, b, c, d][j]? = some x) (hG : Good ([a, b, c, d].take j)) (hb : ¬ good x) (h61 : ¬ x = 61) : qd (a :: b :: c :: d :: t) = none := by
  unfold qd
  match j, hx with
  | 0, h => cases h; simp [hb]
  | 1, h => cases h; simp [hb]
  | 2, h => cases h; simp [hb, h61]
  | 3, h =>
    cases h
    have hc : good c := hG c (by simp)
    have : ¬ c = 61 := fun e => good_61 (e ▸ hc)
    simp [hb, h61, this]
theorem qd_01 (a b c d : UInt8) (t : List UInt8) (j : Nat) (hx : [a, b, c, d][j]? = some 61) (hj : j < 2) : qd (a :: b :: c :: d :: t) = none := by
  unfold qd
  match j, hx with
  | 0, h => cases h; simp [good_61]
  | 1, h => cases h; simp [good_61]
  | j + 2, h => omega
theorem qd_2 (a b d : UInt8) (t : List UInt8) (ha : good a) (hb : good b) : qd (a :: b :: 61 :: d :: t) = if d = 61 ∧ t = [] then some [qb0 ((dm a).toNat * 262144 + (dm b).toNat * 4096)] else none := by
  unfold qd
  simp [good_61, ha, hb]
theorem qd_3 (a b c : UInt8) (t : List UInt8) (ha : good a) (hb : good b) (hc : good c) : qd (a :: b :: c :: 61 :: t) = if t = [] then some [qb0 ((dm a).toNat * 262144 + (dm b).toNat * 4096 + (dm c).toNat * 64), qb1 ((dm a).toNat * 262144 + (dm b).toNat * 4096 + (dm c).toNat * 64)] else none := by
  have : ¬ c = 61 := fun e => good_61 (e ▸ hc)
  unfold qd
  simp [good_61, ha, hb, hc, this]
theorem qd_4 (a b c d : UInt8) (t : List UInt8) (ha : good a) (hb : good b) (hc : good c) (hd : good d) : qd (a :: b :: c :: d :: t) = some [qb0 (q3 a b c d), qb1 (q3 a b c d), qb2 (q3 a b c d)] := by
  unfold qd
  simp [ha, hb, hc, hd]
theorem qb_int (V : Nat) : ((V : Int) % 256) = ((qb2 V).toNat : Int) ∧ ((V : Int) / 256 % 256) = ((qb1 V).toNat : Int) ∧ ((V : Int) / 65536 % 256) = ((qb0 V).toNat : Int) := by
  refine ⟨?_, ?_, ?_⟩ <;> simp only [qb0, qb1, qb2, UInt8.toNat_ofNat'] <;> omega
theorem Row0.other {e : TypeId} {w : World} {B : Nat} {l : List UInt8} (h : Row0 e w B l) (D j : Nat) (v : Value) (hD : D ≠ B) : Row0 e (w.setCell ⟨D, j, none⟩ v) B l := by
  obtain ⟨C, hC, hn, hc⟩ := h
  exact ⟨C, by simp [World.setCell, Array.getElem?_modify, hD, hC], hn, hc⟩
theorem But.setNew {B : Nat} {w w' : World} (h : But B w w') (D j : Nat) (v : Value) (hD : w.heap.size ≤ D) : But B w (w'.setCell ⟨D, j, none⟩ v) :=
  ⟨h.1, h.2.1, h.2.2.1, by have := h.2.2.2.1; simpa [World.setCell] using this, fun k hk hn => by
    have hk' : D ≠ k := by omega
    have := h.2.2.2.2 k hk hn
    rw [← this]
    simp [World.setCell, Array.getElem?_modify, hk']⟩
theorem But.setIt {B : Nat} {w w' : World} (h : But B w w') (j : Nat) (v : Value) : But B w (w'.setCell ⟨B, j, none⟩ v) := h.trans (But.setCell B j w' v)
theorem row3 {e : TypeId} {w : World} {D V : Nat} {x0 x1 x2 x3 : UInt8} (h : Row0 e w D [x0, x1, x2, x3]) :
    Row0 e (((w.setCell ⟨D, 2, none⟩ (.int .u8 ((V : Int) % 256))).setCell ⟨D, 1, none⟩ (.int .u8 ((V : Int) / 256 % 256))).setCell ⟨D, 0, none⟩ (.int .u8 ((V : Int) / 65536 % 256))) D [qb0 V, qb1 V, qb2 V, x3] := by
  rw [(qb_int V).1, (qb_int V).2.1, (qb_int V).2.2]
  exact ((h.set 2 (qb2 V)).set 1 (qb1 V)).set 0 (qb0 V)
theorem set_at (pre l : List UInt8) (o j : Nat) (v : UInt8) (hp : pre.length = o) : (pre ++ l).set (o + j) v = pre ++ l.set j v := by
  rw [List.set_append_right _ _ (by omega), hp, Nat.add_sub_cancel_left]
def DecQ (w w' : World) (e : Ending) (B si n : Nat) (pre : List UInt8) : Option (List UInt8) → Prop
  | some bs => e = .returned (.tuple #[.int .i64 ((si + 4 : Nat) : Int), .int .i64 (bs.length : Int), .nilIface]) ∧ ∃ x, Row0 5 w' B (pre ++ bs ++ x) ∧ bs.length + x.length = n
  | none => ∃ (x y : Int) (v : Value), e = .returned (.tuple #[.int .i64 x, .int .i64 y, .iface 76 v]) ∧ 0 ≤ y ∧ y ≤ 3
set_option maxHeartbeats 4000000 in
set_option maxRecDepth 100000 in
theorem dquant_any (w : World) (B o dcap Bs so scap E si : Nat) (P pre : List UInt8) (r0 r1 r2 : UInt8) (rest : List UInt8) (a b c d : UInt8) (t : List UInt8)
    (hrow : Row0 5 w B (pre ++ r0 :: r1 :: r2 :: rest)) (hpre : pre.length = o) 
    (hsrc : ∀ i x, P[i]? = some x → w.cell? ⟨Bs, so + i, none⟩ = some (.int .u8 (x.toNat : Int))) (hd : P.drop si = a :: b :: c :: d :: t)
    (hnl : ∀ x ∈ P, x ≠ 10 ∧ x ≠ 13) (henc : EncAt w E 64) (hEB : E ≠ B) (hlen : P.length < 1000000) (hlen2 : rest.length < 1000000) :
    Calls Tryd.prog 34 #[.pointer (some ⟨E, 0, none⟩), .slice (some ⟨B, o, none⟩) (rest.length + 3) dcap, .slice (some ⟨Bs, so, none⟩) P.length scap, .int .i64 (si : Int)] w fun e w' =>
      But B w w' ∧ DecQ w w' e B si (rest.length + 3) pre (qd (a :: b :: c :: d :: t)) := by
  have hplen : P.length = si + 4 + t.length := by have := congrArg List.length hd; simp at this; omega
  have hat : ∀ j x, (a :: b :: c :: d :: t)[j]? = some x → P[si + j]? = some x := by
    intro j x h; rw [← hd] at h; rwa [List.getElem?_drop] at h
  have hsrc' := Lib.hid (fun j x h => hsrc (si + j) x (hat j x h))
  have hnl' := Lib.hid (fun j x (h : (a :: b :: c :: d :: t)[j]? = some x) => hnl x (List.mem_of_getElem? (hat j x h)))
  have hrow' := Lib.hid hrow
  have henc' := Lib.hid henc
  have hpre' := Lib.hid hpre
  clear hsrc hnl hrow henc hd hat hpre
  go_enter Tryd.func34, Tryd.ntmps34
  go_wp2_with (refine wpList_load_dmap rfl _ rfl E rfl (henc'.out.below ((Below.refl _ _).alloc (Nat.le_refl _) _)) ?_)
  have hD : Hid (Row0 75 (w.alloc (.cells #[.int .u8 0, .int .u8 0, .int .u8 0, .int .u8 0] 75)) w.heap.size (Lj a b c d 0) ∧ Below w.heap.size w (w.alloc (.cells #[.int .u8 0, .int .u8 0, .int .u8 0, .int .u8 0] 75))) :=
    Lib.hid ⟨⟨_, heap_alloc_new _ _, by kernel_rfl, fun j c hj => by
      match j, hj with
      | 0, h => cases h; rfl
      | 1, h => cases h; rfl
      | 2, h => cases h; rfl
      | 3, h => cases h; rfl
      | j + 4, h => simp [Lj] at h⟩, (Below.refl _ _).alloc (Nat.le_refl _) _⟩
  go_loopw [3, 10, 12, 13] (fun s3 s10 s12 s13 wr => ∃ j : Nat, j ≤ 4 ∧ s3 = .int .i64 ((si + j : Nat) : Int) ∧ s10 = .nilIface ∧ s12 = .int .i64 4 ∧ s13 = .int .i64 (j : Int) ∧
      Hid (Good ([a, b, c, d].take j)) ∧ Hid (Row0 75 wr w.heap.size (Lj a b c d j) ∧ Below w.heap.size w wr)) (fun _ _ _ s13 _ => 4 - (RowKit.intOf s13).toNat)
  case atStart => exact ⟨0, by omega, rfl, rfl, rfl, rfl, Lib.hid (by intro x hx; simp at hx), hD⟩
  case round =>
    obtain ⟨wq, hwq⟩ : ∃ wq : World, wq = wr := ⟨_, rfl⟩
    rw [← hwq] at hrel ⊢
    clear hwq hD
    obtain ⟨j, hj, rfl, rfl, rfl, rfl, hG, hR⟩ := hrel
    by_cases hj4 : j < 4
    · obtain ⟨x, hx⟩ : ∃ x, [a, b, c, d][j]? = some x := ⟨_, List.getElem?_eq_getElem (by simpa using hj4)⟩
      have hx2 : (a :: b :: c :: d :: t)[j]? = some x := by
        rw [show a :: b :: c :: d :: t = [a, b, c, d] ++ t from rfl, List.getElem?_append_left (by simpa using hj4)]; exact hx
      have q1 : wq.cell? ⟨Bs, so + (si + j), none⟩ = some (.int .u8 (x.toNat : Int)) := by
        have := hsrc'.out j x hx2
        exact (hR.out.2.cell (World.block_lt_of_cell? w _ this)).trans this
      have q2 := (henc'.out.below hR.out.2).map x
      have q3 := hR.out.1.cell (List.getElem?_eq_getElem (by rw [Lj_len a b c d j hj]; omega) : (Lj a b c d j)[j]? = some _)
      have q4 := hR.out.1.free j
      have q5 := (henc'.out.below hR.out.2).pad
      have g1 : (((si : Int) + 4 + (t.length : Int)) == (si : Int) + (j : Int)) = false := by rw [beq_eq_false_iff_ne]; omega
      have g2 : (j : Int) < 4 := by omega
      have g4 : (x.toNat : Int) < 256 := by have := UInt8.toNat_lt x; omega
      have n10 : ((x.toNat : Int) == 10) = false := cell_ne (hnl'.out j x hx2).1
      have n13 : ((x.toNat : Int) == 13) = false := cell_ne (hnl'.out j x hx2).2
      have hx' := Lib.hid hx
      clear hx hx2
      rcases dm_cases x with hgx | hbx
      · have g3 : (((dm x).toNat : Int) != 255) = true := by rw [bne_iff_ne]; omega
        go_wp2_with fail
        have hR2 := hR.out.1.set j (dm x)
        rw [Lj_set a b c d x j hx'.out] at hR2
        refine ⟨⟨j + 1, by omega, by congr 1 <;> omega, rfl, rfl, by congr 1, Lib.hid ?_, Lib.hid ⟨hR2, hR.out.2.setCell (Nat.le_refl _) _⟩⟩, ?_⟩
        · intro y hy
          rw [List.take_add_one, hx'.out] at hy
          rcases List.mem_append.1 hy with h | h
          · exact hG.out y h
          · simp at h; subst h; exact hgx
        · simp only [RowKit.intOf]; omega
      · rw [hbx] at q2
        have q2 : wq.cell? ⟨E, 64 + x.toNat, none⟩ = some (.int .u8 255) := q2
        by_cases h61 : x = 61
        · skip
          have h61' := Lib.hid (show x = 61 from h61)
          have n61 : ((x.toNat : Int) != 61) = false := by rw [h61]; rfl
          clear h61
          have hjc : j = 0 ∨ j = 1 ∨ j = 2 ∨ j = 3 := by omega
          rcases hjc with hjv | hjv | hjv | hjv
          · skip
            have z0 : ((j : Int) == 0) = true := by rw [hjv]; rfl
            have z1 : ((j : Int) == 1) = false := by rw [hjv]; rfl
            have z2 : ((j : Int) == 2) = false := by rw [hjv]; rfl
            have z3 : ((j : Int) == 3) = false := by rw [hjv]; rfl
            have z4 : ((j : Int) == 4) = false := by rw [hjv]; rfl
            have hx2 := hx'.out
            rw [h61'.out] at hx2
            have hjv' := Lib.hid hjv
            clear hjv
            go_wp2_with fail
            go_ret3
            refine ⟨But.of_below hR.out.2, ?_⟩
            rw [qd_01 a b c d t j hx2 (by have := hjv'.out; omega)]
            exact ⟨_, 0, _, rfl, by omega, by omega⟩
          · skip
            have z0 : ((j : Int) == 0) = false := by rw [hjv]; rfl
            have z1 : ((j : Int) == 1) = true := by rw [hjv]; rfl
            have z2 : ((j : Int) == 2) = false := by rw [hjv]; rfl
            have z3 : ((j : Int) == 3) = false := by rw [hjv]; rfl
            have z4 : ((j : Int) == 4) = false := by rw [hjv]; rfl
            have hx2 := hx'.out
            rw [h61'.out] at hx2
            have hjv' := Lib.hid hjv
            clear hjv
            go_wp2_with fail
            go_ret3
            refine ⟨But.of_below hR.out.2, ?_⟩
            rw [qd_01 a b c d t j hx2 (by have := hjv'.out; omega)]
            exact ⟨_, 0, _, rfl, by omega, by omega⟩
          · skip
            have z0 : ((j : Int) == 0) = false := by rw [hjv]; rfl
            have z1 : ((j : Int) == 1) = false := by rw [hjv]; rfl
            have z2 : ((j : Int) == 2) = true := by rw [hjv]; rfl
            have z3 : ((j : Int) == 3) = false := by rw [hjv]; rfl
            have z4 : ((j : Int) == 4) = false := by rw [hjv]; rfl
            have hxc := Lib.hid (show c = 61 by have := hx'.out; rw [hjv] at this; simp at this; rw [this]; exact h61'.out)
            have ga : good a := hG.out a (by rw [hjv]; simp)
            have gb : good b := hG.out b (by rw [hjv]; simp)
            have qy : wq.cell? ⟨Bs, so + (si + j + 1), none⟩ = some (.int .u8 (d.toNat : Int)) := by
              have := hsrc'.out 3 d rfl
              rw [show si + j + 1 = si + 3 by omega]
              exact (hR.out.2.cell (World.block_lt_of_cell? w _ this)).trans this
            have y10 : ((d.toNat : Int) == 10) = false := cell_ne (hnl'.out 3 d rfl).1
            have y13 : ((d.toNat : Int) == 13) = false := cell_ne (hnl'.out 3 d rfl).2
            have g5 : (si : Int) + (j : Int) + 1 < (si : Int) + 4 + (t.length : Int) := by omega
            have g6 : ((si : Int) + (j : Int) + 1 == (si : Int) + 4 + (t.length : Int)) = false := by rw [beq_eq_false_iff_ne]; omega
            have g7 : (d.toNat : Int) < 256 := by have := UInt8.toNat_lt d; omega
            have hjv' := Lib.hid hjv
            clear hjv
            go_wp2_with fail
            go_loopw [3] (fun s3 wl => s3 = .int .i64 ((si + j + 1 : Nat) : Int) ∧ wl = wq) (fun _ _ => 0)
            case atStart => exact ⟨by congr 1 <;> omega, rfl⟩
            case round =>
              obtain ⟨rfl, hwl⟩ := hrel
              rw [hwl]
              clear hwl
              by_cases hy61 : d = 61
              · have y61 : ((d.toNat : Int) != 61) = false := by rw [hy61]; rfl
                have hy61' := Lib.hid hy61
                clear hy61
                go_wp2_with fail
                go_quiet (fail)
                have hRd : Hid (Row0 75 (wq.drewN nq) w.heap.size (Lj a b c d j) ∧ Below w.heap.size w (wq.drewN nq)) := Lib.hid ⟨hR.out.1, hR.out.2.trans ⟨rfl, rfl, rfl, Nat.le_refl _, fun _ _ => rfl⟩⟩
                generalize wq.drewN nq = wd at hRd ⊢
                clear hR
                have hR := hRd
                clear hRd q1 q2 q3 q4 q5 qy
                go_wp2_with fail
                have hjv := hjv'.out
                by_cases ht : t = []
                · skip
                  have g8 : ¬ (si : Int) + (j : Int) + 2 < (si : Int) + 4 + (t.length : Int) := by rw [ht]; simp; omega
                  clear hjv
                  go_loopw [3] (fun s3 wl => s3 = .int .i64 ((si + j + 2 : Nat) : Int) ∧ wl = wd) (fun _ _ => 0)
                  case atStart => exact ⟨by congr 1 <;> omega, rfl⟩
                  case round =>
                    obtain ⟨rfl, hwl⟩ := hrel
                    rw [hwl]
                    clear hwl
                    have hLj : Lj a b c d j = [dm a, dm b, 0, 0] := by rw [hjv'.out]; rfl
                    have hRL : Row0 75 wd w.heap.size [dm a, dm b, 0, 0] := by rw [← hLj]; exact hR.out.1
                    obtain ⟨y0, hy0⟩ : ∃ y : UInt8, y = dm a := ⟨_, rfl⟩
                    obtain ⟨y1, hy1⟩ : ∃ y : UInt8, y = dm b := ⟨_, rfl⟩
                    obtain ⟨y2, hy2⟩ : ∃ y : UInt8, y = 0 := ⟨_, rfl⟩
                    obtain ⟨y3, hy3⟩ : ∃ y : UInt8, y = 0 := ⟨_, rfl⟩
                    rw [← hy0, ← hy1, show [y0, y1, (0 : UInt8), 0] = [y0, y1, y2, y3] by rw [hy2, hy3]] at hRL
                    have n0 : y0.toNat < 64 := by rw [hy0]; exact ga
                    have n1 : y1.toNat < 64 := by rw [hy1]; exact gb
                    have n2 : y2.toNat < 64 := by rw [hy2]; decide
                    have n3 : y3.toNat < 64 := by rw [hy3]; decide
                    obtain ⟨m0, hm0⟩ : ∃ m, y0.toNat = m := ⟨_, rfl⟩
                    obtain ⟨m1, hm1⟩ : ∃ m, y1.toNat = m := ⟨_, rfl⟩
                    obtain ⟨m2, hm2⟩ : ∃ m, y2.toNat = m := ⟨_, rfl⟩
                    obtain ⟨m3, hm3⟩ : ∃ m, y3.toNat = m := ⟨_, rfl⟩
                    have c0 := hRL.cell (j := 0) rfl
                    rw [hm0] at c0
                    have c1 := hRL.cell (j := 1) rfl
                    rw [hm1] at c1
                    have c2 := hRL.cell (j := 2) rfl
                    rw [hm2] at c2
                    have c3 := hRL.cell (j := 3) rfl
                    rw [hm3] at c3
                    have l0 : (m0 : Int) < 64 := by omega
                    have w0 : IntKind.u64.wrap (m0 : Int) = (m0 : Int) := by rw [IntKind.wrap_u64]; omega
                    have l1 : (m1 : Int) < 64 := by omega
                    have w1 : IntKind.u64.wrap (m1 : Int) = (m1 : Int) := by rw [IntKind.wrap_u64]; omega
                    have l2 : (m2 : Int) < 64 := by omega
                    have w2 : IntKind.u64.wrap (m2 : Int) = (m2 : Int) := by rw [IntKind.wrap_u64]; omega
                    have l3 : (m3 : Int) < 64 := by omega
                    have w3 : IntKind.u64.wrap (m3 : Int) = (m3 : Int) := by rw [IntKind.wrap_u64]; omega
                    have v0 : IntKind.u64.wrap ((m0 : Int) * 262144) = (m0 : Int) * 262144 := by rw [IntKind.wrap_u64]; omega
                    have v1 : IntKind.u64.wrap ((m1 : Int) * 4096) = (m1 : Int) * 4096 := by rw [IntKind.wrap_u64]; omega
                    have v2 : IntKind.u64.wrap ((m2 : Int) * 64) = (m2 : Int) * 64 := by rw [IntKind.wrap_u64]; omega
                    obtain ⟨V, hV⟩ : ∃ V : Nat, V = m0 * 262144 + m1 * 4096 + m2 * 64 + m3 := ⟨_, rfl⟩
                    have hor : bits .or .u64 (bits .or .u64 (bits .or .u64 ((m0 : Int) * 262144) ((m1 : Int) * 4096)) ((m2 : Int) * 64)) (m3 : Int) = (V : Int) := by
                      rw [or64 _ _ _ _ (by omega) l0 (by omega) l1 (by omega) l2 (by omega) l3]; omega
                    have hR' := Lib.hid (And.intro hRL hR.out.2)
                    have hV' := Lib.hid (show V = (dm a).toNat * 262144 + (dm b).toNat * 4096 by rw [hV, ← hm0, ← hm1, ← hm2, ← hm3, hy0, hy1, hy2, hy3]; simp)
                    have hgs := Lib.hid (And.intro ga gb)
                    clear hV hR hRL l0 l1 l2 l3 n0 n1 n2 n3 hy0 hy1 hy2 hy3 hm0 hm1 hm2 hm3 ga gb
                    go_upto_region 41 with fail
                    clear c0 c1 c2 c3 w0 w1 w2 w3 v0 v1 v2 hor
                    have c0 := hR'.out.1.cell (j := 0) rfl
                    have c1 := hR'.out.1.cell (j := 1) rfl
                    have c2 := hR'.out.1.cell (j := 2) rfl
                    have f0 := hR'.out.1.free 0
                    have f1 := hR'.out.1.free 1
                    have f2 := hR'.out.1.free 2
                    go_upto_region 42 with fail
                    clear c0 c1 c2 f0 f1 f2
                    have hW := row3 (V := V) hR'.out.1
                    have hbW : Below w.heap.size w (((wd.setCell ⟨w.heap.size, 2, none⟩ (.int .u8 ((V : Int) % 256))).setCell ⟨w.heap.size, 1, none⟩ (.int .u8 ((V : Int) / 256 % 256))).setCell ⟨w.heap.size, 0, none⟩ (.int .u8 ((V : Int) / 65536 % 256))) :=
                      ((hR'.out.2.setCell (Nat.le_refl _) _).setCell (Nat.le_refl _) _).setCell (Nat.le_refl _) _
                    generalize (((wd.setCell ⟨w.heap.size, 2, none⟩ (.int .u8 ((V : Int) % 256))).setCell ⟨w.heap.size, 1, none⟩ (.int .u8 ((V : Int) / 256 % 256))).setCell ⟨w.heap.size, 0, none⟩ (.int .u8 ((V : Int) / 65536 % 256))) = W at *
                    clear hR'
                    have c0 := hW.cell (j := 0) rfl
                    have c1 := hW.cell (j := 1) rfl
                    have c2 := hW.cell (j := 2) rfl
                    have f1 := hW.free 1
                    have f2 := hW.free 2
                    have hrow2 := hrow'.out.below hbW
                    have d0 := hrow2.cell (j := o) (c := r0) (by rw [← hpre'.out]; simp)
                    have d1 := hrow2.cell (j := o + 1) (c := r1) (by rw [← hpre'.out]; simp)
                    have d2 := hrow2.cell (j := o + 2) (c := r2) (by rw [← hpre'.out]; simp)
                    have e0 := hrow2.free o
                    have e1 := hrow2.free (o + 1)
                    have e2 := hrow2.free (o + 2)
                    have hBD : B ≠ w.heap.size := by have := hrow'.out.lt; omega
                    have q6 := (henc'.out.below hbW).strict
                    have hED : E ≠ w.heap.size := by have := henc'.out.lt; omega
                    have b0 : (0 : Int) < (rest.length : Int) + 3 := by omega
                    have b1 : (1 : Int) < (rest.length : Int) + 3 := by omega
                    have b2 : (2 : Int) < (rest.length : Int) + 3 := by omega
                    have hbW' := Lib.hid (But.of_below (B := B) hbW)
                    have hrow2' := Lib.hid hrow2
                    clear hW hbW hrow2
                    go_wp2_with fail
                    go_ret3
                    refine ⟨hbW'.out.setIt _ _, ?_⟩
                    rw [hxc.out, qd_2 a b d [] hgs.out.1 hgs.out.2, if_pos ⟨hy61'.out, rfl⟩, ← hV'.out]
                    have h5 := hrow2'.out.set o (qb0 V)
                    rw [show o = o + 0 from rfl, set_at pre _ o 0 _ hpre'.out] at h5
                    have e1 : (si : Int) + (j : Int) + 2 = ((si + 4 : Nat) : Int) := by have := hjv'.out; omega
                    have e2 : (j : Int) - 1 = 1 := by have := hjv'.out; omega
                    have e3 : Ending.returned (.tuple #[.int .i64 ((si : Int) + (j : Int) + 2), .int .i64 ((j : Int) - 1), .nilIface]) = Ending.returned (.tuple #[.int .i64 ((si + 4 : Nat) : Int), .int .i64 (1 : Int), .nilIface]) := by rw [e1, e2]
                    exact ⟨e3, r1 :: r2 :: rest, by simpa using h5, by simp; omega⟩
                · skip
                  obtain ⟨z, t2, hz⟩ : ∃ z t2, t = z :: t2 := by cases t with | nil => exact absurd rfl ht | cons z t2 => exact ⟨z, t2, rfl⟩
                  have hzt : t.length = t2.length + 1 := by rw [hz]; simp
                  have qz : wd.cell? ⟨Bs, so + (si + j + 2), none⟩ = some (.int .u8 (z.toNat : Int)) := by
                    have := hsrc'.out 4 z (by rw [hz]; rfl)
                    rw [show si + j + 2 = si + 4 by omega]
                    exact (hR.out.2.cell (World.block_lt_of_cell? w _ this)).trans this
                  have z10 : ((z.toNat : Int) == 10) = false := cell_ne (hnl'.out 4 z (by rw [hz]; rfl)).1
                  have z13 : ((z.toNat : Int) == 13) = false := cell_ne (hnl'.out 4 z (by rw [hz]; rfl)).2
                  have g8 : (si : Int) + (j : Int) + 2 < (si : Int) + 4 + (t.length : Int) := by omega
                  clear hz hjv
                  go_loopw [3] (fun s3 wl => s3 = .int .i64 ((si + j + 2 : Nat) : Int) ∧ wl = wd) (fun _ _ => 0)
                  case atStart => exact ⟨by congr 1 <;> omega, rfl⟩
                  case round =>
                    obtain ⟨rfl, hwl⟩ := hrel
                    rw [hwl]
                    clear hwl
                    have hLj : Lj a b c d j = [dm a, dm b, 0, 0] := by rw [hjv'.out]; rfl
                    have hRL : Row0 75 wd w.heap.size [dm a, dm b, 0, 0] := by rw [← hLj]; exact hR.out.1
                    obtain ⟨y0, hy0⟩ : ∃ y : UInt8, y = dm a := ⟨_, rfl⟩
                    obtain ⟨y1, hy1⟩ : ∃ y : UInt8, y = dm b := ⟨_, rfl⟩
                    obtain ⟨y2, hy2⟩ : ∃ y : UInt8, y = 0 := ⟨_, rfl⟩
                    obtain ⟨y3, hy3⟩ : ∃ y : UInt8, y = 0 := ⟨_, rfl⟩
                    rw [← hy0, ← hy1, show [y0, y1, (0 : UInt8), 0] = [y0, y1, y2, y3] by rw [hy2, hy3]] at hRL
                    have n0 : y0.toNat < 64 := by rw [hy0]; exact ga
                    have n1 : y1.toNat < 64 := by rw [hy1]; exact gb
                    have n2 : y2.toNat < 64 := by rw [hy2]; decide
                    have n3 : y3.toNat < 64 := by rw [hy3]; decide
                    obtain ⟨m0, hm0⟩ : ∃ m, y0.toNat = m := ⟨_, rfl⟩
                    obtain ⟨m1, hm1⟩ : ∃ m, y1.toNat = m := ⟨_, rfl⟩
                    obtain ⟨m2, hm2⟩ : ∃ m, y2.toNat = m := ⟨_, rfl⟩
                    obtain ⟨m3, hm3⟩ : ∃ m, y3.toNat = m := ⟨_, rfl⟩
                    have c0 := hRL.cell (j := 0) rfl
                    rw [hm0] at c0
                    have c1 := hRL.cell (j := 1) rfl
                    rw [hm1] at c1
                    have c2 := hRL.cell (j := 2) rfl
                    rw [hm2] at c2
                    have c3 := hRL.cell (j := 3) rfl
                    rw [hm3] at c3
                    have l0 : (m0 : Int) < 64 := by omega
                    have w0 : IntKind.u64.wrap (m0 : Int) = (m0 : Int) := by rw [IntKind.wrap_u64]; omega
                    have l1 : (m1 : Int) < 64 := by omega
                    have w1 : IntKind.u64.wrap (m1 : Int) = (m1 : Int) := by rw [IntKind.wrap_u64]; omega
                    have l2 : (m2 : Int) < 64 := by omega
                    have w2 : IntKind.u64.wrap (m2 : Int) = (m2 : Int) := by rw [IntKind.wrap_u64]; omega
                    have l3 : (m3 : Int) < 64 := by omega
                    have w3 : IntKind.u64.wrap (m3 : Int) = (m3 : Int) := by rw [IntKind.wrap_u64]; omega
                    have v0 : IntKind.u64.wrap ((m0 : Int) * 262144) = (m0 : Int) * 262144 := by rw [IntKind.wrap_u64]; omega
                    have v1 : IntKind.u64.wrap ((m1 : Int) * 4096) = (m1 : Int) * 4096 := by rw [IntKind.wrap_u64]; omega
                    have v2 : IntKind.u64.wrap ((m2 : Int) * 64) = (m2 : Int) * 64 := by rw [IntKind.wrap_u64]; omega
                    obtain ⟨V, hV⟩ : ∃ V : Nat, V = m0 * 262144 + m1 * 4096 + m2 * 64 + m3 := ⟨_, rfl⟩
                    have hor : bits .or .u64 (bits .or .u64 (bits .or .u64 ((m0 : Int) * 262144) ((m1 : Int) * 4096)) ((m2 : Int) * 64)) (m3 : Int) = (V : Int) := by
                      rw [or64 _ _ _ _ (by omega) l0 (by omega) l1 (by omega) l2 (by omega) l3]; omega
                    have hR' := Lib.hid (And.intro hRL hR.out.2)
                    have hV' := Lib.hid (show V = (dm a).toNat * 262144 + (dm b).toNat * 4096 by rw [hV, ← hm0, ← hm1, ← hm2, ← hm3, hy0, hy1, hy2, hy3]; simp)
                    have hgs := Lib.hid (And.intro ga gb)
                    clear hV hR hRL l0 l1 l2 l3 n0 n1 n2 n3 hy0 hy1 hy2 hy3 hm0 hm1 hm2 hm3 ga gb
                    go_upto_region 41 with fail
                    clear c0 c1 c2 c3 w0 w1 w2 w3 v0 v1 v2 hor
                    have c0 := hR'.out.1.cell (j := 0) rfl
                    have c1 := hR'.out.1.cell (j := 1) rfl
                    have c2 := hR'.out.1.cell (j := 2) rfl
                    have f0 := hR'.out.1.free 0
                    have f1 := hR'.out.1.free 1
                    have f2 := hR'.out.1.free 2
                    go_upto_region 42 with fail
                    clear c0 c1 c2 f0 f1 f2
                    have hW := row3 (V := V) hR'.out.1
                    have hbW : Below w.heap.size w (((wd.setCell ⟨w.heap.size, 2, none⟩ (.int .u8 ((V : Int) % 256))).setCell ⟨w.heap.size, 1, none⟩ (.int .u8 ((V : Int) / 256 % 256))).setCell ⟨w.heap.size, 0, none⟩ (.int .u8 ((V : Int) / 65536 % 256))) :=
                      ((hR'.out.2.setCell (Nat.le_refl _) _).setCell (Nat.le_refl _) _).setCell (Nat.le_refl _) _
                    generalize (((wd.setCell ⟨w.heap.size, 2, none⟩ (.int .u8 ((V : Int) % 256))).setCell ⟨w.heap.size, 1, none⟩ (.int .u8 ((V : Int) / 256 % 256))).setCell ⟨w.heap.size, 0, none⟩ (.int .u8 ((V : Int) / 65536 % 256))) = W at *
                    clear hR'
                    have c0 := hW.cell (j := 0) rfl
                    have c1 := hW.cell (j := 1) rfl
                    have c2 := hW.cell (j := 2) rfl
                    have f1 := hW.free 1
                    have f2 := hW.free 2
                    have hrow2 := hrow'.out.below hbW
                    have d0 := hrow2.cell (j := o) (c := r0) (by rw [← hpre'.out]; simp)
                    have d1 := hrow2.cell (j := o + 1) (c := r1) (by rw [← hpre'.out]; simp)
                    have d2 := hrow2.cell (j := o + 2) (c := r2) (by rw [← hpre'.out]; simp)
                    have e0 := hrow2.free o
                    have e1 := hrow2.free (o + 1)
                    have e2 := hrow2.free (o + 2)
                    have hBD : B ≠ w.heap.size := by have := hrow'.out.lt; omega
                    have q6 := (henc'.out.below hbW).strict
                    have hED : E ≠ w.heap.size := by have := henc'.out.lt; omega
                    have b0 : (0 : Int) < (rest.length : Int) + 3 := by omega
                    have b1 : (1 : Int) < (rest.length : Int) + 3 := by omega
                    have b2 : (2 : Int) < (rest.length : Int) + 3 := by omega
                    have hbW' := Lib.hid (But.of_below (B := B) hbW)
                    have hrow2' := Lib.hid hrow2
                    clear hW hbW hrow2
                    go_wp2_with fail
                    go_ret3
                    refine ⟨hbW'.out.setIt _ _, ?_⟩
                    rw [show c = 61 from hxc.out, qd_2 a b d t hgs.out.1 hgs.out.2, if_neg (fun h => ht h.2)]
                    exact ⟨_, (j : Int) - 1, _, rfl, by have := hjv'.out; omega, by have := hjv'.out; omega⟩
              · have y61 : ((d.toNat : Int) != 61) = true := by have := cell_ne hy61; rw [bne, show (61 : Int) = ((61 : UInt8).toNat : Int) from rfl, this]; rfl
                go_wp2_with fail
                go_quiet (fail)
                go_wp2_with fail
                go_ret3
                refine ⟨But.of_below (hR.out.2.trans ⟨rfl, rfl, rfl, Nat.le_refl _, fun _ _ => rfl⟩), ?_⟩
                rw [hxc.out, qd_2 a b d t ga gb, if_neg (fun h => hy61 h.1)]
                exact ⟨_, 0, _, rfl, by omega, by omega⟩
          · skip
            have z0 : ((j : Int) == 0) = false := by rw [hjv]; rfl
            have z1 : ((j : Int) == 1) = false := by rw [hjv]; rfl
            have z2 : ((j : Int) == 2) = false := by rw [hjv]; rfl
            have z3 : ((j : Int) == 3) = true := by rw [hjv]; rfl
            have z4 : ((j : Int) == 4) = false := by rw [hjv]; rfl
            have hxc := Lib.hid (show d = 61 by have := hx'.out; rw [hjv] at this; simp at this; rw [this]; exact h61'.out)
            have ga : good a := hG.out a (by rw [hjv]; simp)
            have gb : good b := hG.out b (by rw [hjv]; simp)
            have gc : good c := hG.out c (by rw [hjv]; simp)
            have hjv' := Lib.hid hjv
            clear hjv
            go_wp2_with fail
            have hjv := hjv'.out
            by_cases ht : t = []
            · skip
              have g8 : ¬ (si : Int) + (j : Int) + 1 < (si : Int) + 4 + (t.length : Int) := by rw [ht]; simp; omega
              clear hjv
              go_loopw [3] (fun s3 wl => s3 = .int .i64 ((si + j + 1 : Nat) : Int) ∧ wl = wq) (fun _ _ => 0)
              case atStart => exact ⟨by congr 1 <;> omega, rfl⟩
              case round =>
                obtain ⟨rfl, hwl⟩ := hrel
                rw [hwl]
                clear hwl
                have hLj : Lj a b c d j = [dm a, dm b, dm c, 0] := by rw [hjv'.out]; rfl
                have hRL : Row0 75 wq w.heap.size [dm a, dm b, dm c, 0] := by rw [← hLj]; exact hR.out.1
                obtain ⟨y0, hy0⟩ : ∃ y : UInt8, y = dm a := ⟨_, rfl⟩
                obtain ⟨y1, hy1⟩ : ∃ y : UInt8, y = dm b := ⟨_, rfl⟩
                obtain ⟨y2, hy2⟩ : ∃ y : UInt8, y = dm c := ⟨_, rfl⟩
                obtain ⟨y3, hy3⟩ : ∃ y : UInt8, y = 0 := ⟨_, rfl⟩
                rw [← hy0, ← hy1, ← hy2, ← hy3] at hRL
                have n0 : y0.toNat < 64 := by rw [hy0]; exact ga
                have n1 : y1.toNat < 64 := by rw [hy1]; exact gb
                have n2 : y2.toNat < 64 := by rw [hy2]; exact gc
                have n3 : y3.toNat < 64 := by rw [hy3]; decide
                obtain ⟨m0, hm0⟩ : ∃ m, y0.toNat = m := ⟨_, rfl⟩
                obtain ⟨m1, hm1⟩ : ∃ m, y1.toNat = m := ⟨_, rfl⟩
                obtain ⟨m2, hm2⟩ : ∃ m, y2.toNat = m := ⟨_, rfl⟩
                obtain ⟨m3, hm3⟩ : ∃ m, y3.toNat = m := ⟨_, rfl⟩
                have c0 := hRL.cell (j := 0) rfl
                rw [hm0] at c0
                have c1 := hRL.cell (j := 1) rfl
                rw [hm1] at c1
                have c2 := hRL.cell (j := 2) rfl
                rw [hm2] at c2
                have c3 := hRL.cell (j := 3) rfl
                rw [hm3] at c3
                have l0 : (m0 : Int) < 64 := by omega
                have w0 : IntKind.u64.wrap (m0 : Int) = (m0 : Int) := by rw [IntKind.wrap_u64]; omega
                have l1 : (m1 : Int) < 64 := by omega
                have w1 : IntKind.u64.wrap (m1 : Int) = (m1 : Int) := by rw [IntKind.wrap_u64]; omega
                have l2 : (m2 : Int) < 64 := by omega
                have w2 : IntKind.u64.wrap (m2 : Int) = (m2 : Int) := by rw [IntKind.wrap_u64]; omega
                have l3 : (m3 : Int) < 64 := by omega
                have w3 : IntKind.u64.wrap (m3 : Int) = (m3 : Int) := by rw [IntKind.wrap_u64]; omega
                have v0 : IntKind.u64.wrap ((m0 : Int) * 262144) = (m0 : Int) * 262144 := by rw [IntKind.wrap_u64]; omega
                have v1 : IntKind.u64.wrap ((m1 : Int) * 4096) = (m1 : Int) * 4096 := by rw [IntKind.wrap_u64]; omega
                have v2 : IntKind.u64.wrap ((m2 : Int) * 64) = (m2 : Int) * 64 := by rw [IntKind.wrap_u64]; omega
                obtain ⟨V, hV⟩ : ∃ V : Nat, V = m0 * 262144 + m1 * 4096 + m2 * 64 + m3 := ⟨_, rfl⟩
                have hor : bits .or .u64 (bits .or .u64 (bits .or .u64 ((m0 : Int) * 262144) ((m1 : Int) * 4096)) ((m2 : Int) * 64)) (m3 : Int) = (V : Int) := by
                  rw [or64 _ _ _ _ (by omega) l0 (by omega) l1 (by omega) l2 (by omega) l3]; omega
                have hR' := Lib.hid (And.intro hRL hR.out.2)
                have hV' := Lib.hid (show V = (dm a).toNat * 262144 + (dm b).toNat * 4096 + (dm c).toNat * 64 by rw [hV, ← hm0, ← hm1, ← hm2, ← hm3, hy0, hy1, hy2, hy3]; simp)
                have hgs := Lib.hid (And.intro ga (And.intro gb gc))
                clear hV hR hRL l0 l1 l2 l3 n0 n1 n2 n3 hy0 hy1 hy2 hy3 hm0 hm1 hm2 hm3 ga gb gc
                go_upto_region 41 with fail
                clear c0 c1 c2 c3 w0 w1 w2 w3 v0 v1 v2 hor
                have c0 := hR'.out.1.cell (j := 0) rfl
                have c1 := hR'.out.1.cell (j := 1) rfl
                have c2 := hR'.out.1.cell (j := 2) rfl
                have f0 := hR'.out.1.free 0
                have f1 := hR'.out.1.free 1
                have f2 := hR'.out.1.free 2
                go_upto_region 42 with fail
                clear c0 c1 c2 f0 f1 f2
                have hW := row3 (V := V) hR'.out.1
                have hbW : Below w.heap.size w (((wq.setCell ⟨w.heap.size, 2, none⟩ (.int .u8 ((V : Int) % 256))).setCell ⟨w.heap.size, 1, none⟩ (.int .u8 ((V : Int) / 256 % 256))).setCell ⟨w.heap.size, 0, none⟩ (.int .u8 ((V : Int) / 65536 % 256))) :=
                  ((hR'.out.2.setCell (Nat.le_refl _) _).setCell (Nat.le_refl _) _).setCell (Nat.le_refl _) _
                generalize (((wq.setCell ⟨w.heap.size, 2, none⟩ (.int .u8 ((V : Int) % 256))).setCell ⟨w.heap.size, 1, none⟩ (.int .u8 ((V : Int) / 256 % 256))).setCell ⟨w.heap.size, 0, none⟩ (.int .u8 ((V : Int) / 65536 % 256))) = W at *
                clear hR'
                have c0 := hW.cell (j := 0) rfl
                have c1 := hW.cell (j := 1) rfl
                have c2 := hW.cell (j := 2) rfl
                have f1 := hW.free 1
                have f2 := hW.free 2
                have hrow2 := hrow'.out.below hbW
                have d0 := hrow2.cell (j := o) (c := r0) (by rw [← hpre'.out]; simp)
                have d1 := hrow2.cell (j := o + 1) (c := r1) (by rw [← hpre'.out]; simp)
                have d2 := hrow2.cell (j := o + 2) (c := r2) (by rw [← hpre'.out]; simp)
                have e0 := hrow2.free o
                have e1 := hrow2.free (o + 1)
                have e2 := hrow2.free (o + 2)
                have hBD : B ≠ w.heap.size := by have := hrow'.out.lt; omega
                have q6 := (henc'.out.below hbW).strict
                have hED : E ≠ w.heap.size := by have := henc'.out.lt; omega
                have b0 : (0 : Int) < (rest.length : Int) + 3 := by omega
                have b1 : (1 : Int) < (rest.length : Int) + 3 := by omega
                have b2 : (2 : Int) < (rest.length : Int) + 3 := by omega
                have hbW' := Lib.hid (But.of_below (B := B) hbW)
                have hrow2' := Lib.hid hrow2
                clear hW hbW hrow2
                go_wp2_with fail
                go_ret3
                refine ⟨((hbW'.out.setIt _ _).setNew _ _ _ (Nat.le_refl _)).setIt _ _, ?_⟩
                rw [hxc.out, qd_3 a b c [] hgs.out.1 hgs.out.2.1 hgs.out.2.2, if_pos rfl, ← hV'.out]
                have h5 := ((hrow2'.out.set (o + 1) (qb1 V)).other w.heap.size 1 (.int .u8 0) hBD.symm).set o (qb0 V)
                rw [set_at pre _ o 1 _ hpre'.out, show o = o + 0 from rfl, set_at pre _ o 0 _ hpre'.out] at h5
                have e1 : (si : Int) + (j : Int) + 1 = ((si + 4 : Nat) : Int) := by have := hjv'.out; omega
                have e2 : (j : Int) - 1 = 2 := by have := hjv'.out; omega
                have e3 : Ending.returned (.tuple #[.int .i64 ((si : Int) + (j : Int) + 1), .int .i64 ((j : Int) - 1), .nilIface]) = Ending.returned (.tuple #[.int .i64 ((si + 4 : Nat) : Int), .int .i64 (2 : Int), .nilIface]) := by rw [e1, e2]
                exact ⟨e3, r2 :: rest, by simpa using h5, by simp; omega⟩
            · skip
              obtain ⟨z, t2, hz⟩ : ∃ z t2, t = z :: t2 := by cases t with | nil => exact absurd rfl ht | cons z t2 => exact ⟨z, t2, rfl⟩
              have hzt : t.length = t2.length + 1 := by rw [hz]; simp
              have qz : wq.cell? ⟨Bs, so + (si + j + 1), none⟩ = some (.int .u8 (z.toNat : Int)) := by
                have := hsrc'.out 4 z (by rw [hz]; rfl)
                rw [show si + j + 1 = si + 4 by omega]
                exact (hR.out.2.cell (World.block_lt_of_cell? w _ this)).trans this
              have z10 : ((z.toNat : Int) == 10) = false := cell_ne (hnl'.out 4 z (by rw [hz]; rfl)).1
              have z13 : ((z.toNat : Int) == 13) = false := cell_ne (hnl'.out 4 z (by rw [hz]; rfl)).2
              have g8 : (si : Int) + (j : Int) + 1 < (si : Int) + 4 + (t.length : Int) := by omega
              clear hz hjv
              go_loopw [3] (fun s3 wl => s3 = .int .i64 ((si + j + 1 : Nat) : Int) ∧ wl = wq) (fun _ _ => 0)
              case atStart => exact ⟨by congr 1 <;> omega, rfl⟩
              case round =>
                obtain ⟨rfl, hwl⟩ := hrel
                rw [hwl]
                clear hwl
                have hLj : Lj a b c d j = [dm a, dm b, dm c, 0] := by rw [hjv'.out]; rfl
                have hRL : Row0 75 wq w.heap.size [dm a, dm b, dm c, 0] := by rw [← hLj]; exact hR.out.1
                obtain ⟨y0, hy0⟩ : ∃ y : UInt8, y = dm a := ⟨_, rfl⟩
                obtain ⟨y1, hy1⟩ : ∃ y : UInt8, y = dm b := ⟨_, rfl⟩
                obtain ⟨y2, hy2⟩ : ∃ y : UInt8, y = dm c := ⟨_, rfl⟩
                obtain ⟨y3, hy3⟩ : ∃ y : UInt8, y = 0 := ⟨_, rfl⟩
                rw [← hy0, ← hy1, ← hy2, ← hy3] at hRL
                have n0 : y0.toNat < 64 := by rw [hy0]; exact ga
                have n1 : y1.toNat < 64 := by rw [hy1]; exact gb
                have n2 : y2.toNat < 64 := by rw [hy2]; exact gc
                have n3 : y3.toNat < 64 := by rw [hy3]; decide
                obtain ⟨m0, hm0⟩ : ∃ m, y0.toNat = m := ⟨_, rfl⟩
                obtain ⟨m1, hm1⟩ : ∃ m, y1.toNat = m := ⟨_, rfl⟩
                obtain ⟨m2, hm2⟩ : ∃ m, y2.toNat = m := ⟨_, rfl⟩
                obtain ⟨m3, hm3⟩ : ∃ m, y3.toNat = m := ⟨_, rfl⟩
                have c0 := hRL.cell (j := 0) rfl
                rw [hm0] at c0
                have c1 := hRL.cell (j := 1) rfl
                rw [hm1] at c1
                have c2 := hRL.cell (j := 2) rfl
                rw [hm2] at c2
                have c3 := hRL.cell (j := 3) rfl
                rw [hm3] at c3
                have l0 : (m0 : Int) < 64 := by omega
                have w0 : IntKind.u64.wrap (m0 : Int) = (m0 : Int) := by rw [IntKind.wrap_u64]; omega
                have l1 : (m1 : Int) < 64 := by omega
                have w1 : IntKind.u64.wrap (m1 : Int) = (m1 : Int) := by rw [IntKind.wrap_u64]; omega
                have l2 : (m2 : Int) < 64 := by omega
                have w2 : IntKind.u64.wrap (m2 : Int) = (m2 : Int) := by rw [IntKind.wrap_u64]; omega
                have l3 : (m3 : Int) < 64 := by omega
                have w3 : IntKind.u64.wrap (m3 : Int) = (m3 : Int) := by rw [IntKind.wrap_u64]; omega
                have v0 : IntKind.u64.wrap ((m0 : Int) * 262144) = (m0 : Int) * 262144 := by rw [IntKind.wrap_u64]; omega
                have v1 : IntKind.u64.wrap ((m1 : Int) * 4096) = (m1 : Int) * 4096 := by rw [IntKind.wrap_u64]; omega
                have v2 : IntKind.u64.wrap ((m2 : Int) * 64) = (m2 : Int) * 64 := by rw [IntKind.wrap_u64]; omega
                obtain ⟨V, hV⟩ : ∃ V : Nat, V = m0 * 262144 + m1 * 4096 + m2 * 64 + m3 := ⟨_, rfl⟩
                have hor : bits .or .u64 (bits .or .u64 (bits .or .u64 ((m0 : Int) * 262144) ((m1 : Int) * 4096)) ((m2 : Int) * 64)) (m3 : Int) = (V : Int) := by
                  rw [or64 _ _ _ _ (by omega) l0 (by omega) l1 (by omega) l2 (by omega) l3]; omega
                have hR' := Lib.hid (And.intro hRL hR.out.2)
                have hV' := Lib.hid (show V = (dm a).toNat * 262144 + (dm b).toNat * 4096 + (dm c).toNat * 64 by rw [hV, ← hm0, ← hm1, ← hm2, ← hm3, hy0, hy1, hy2, hy3]; simp)
                have hgs := Lib.hid (And.intro ga (And.intro gb gc))
                clear hV hR hRL l0 l1 l2 l3 n0 n1 n2 n3 hy0 hy1 hy2 hy3 hm0 hm1 hm2 hm3 ga gb gc
                go_upto_region 41 with fail
                clear c0 c1 c2 c3 w0 w1 w2 w3 v0 v1 v2 hor
                have c0 := hR'.out.1.cell (j := 0) rfl
                have c1 := hR'.out.1.cell (j := 1) rfl
                have c2 := hR'.out.1.cell (j := 2) rfl
                have f0 := hR'.out.1.free 0
                have f1 := hR'.out.1.free 1
                have f2 := hR'.out.1.free 2
                go_upto_region 42 with fail
                clear c0 c1 c2 f0 f1 f2
                have hW := row3 (V := V) hR'.out.1
                have hbW : Below w.heap.size w (((wq.setCell ⟨w.heap.size, 2, none⟩ (.int .u8 ((V : Int) % 256))).setCell ⟨w.heap.size, 1, none⟩ (.int .u8 ((V : Int) / 256 % 256))).setCell ⟨w.heap.size, 0, none⟩ (.int .u8 ((V : Int) / 65536 % 256))) :=
                  ((hR'.out.2.setCell (Nat.le_refl _) _).setCell (Nat.le_refl _) _).setCell (Nat.le_refl _) _
                generalize (((wq.setCell ⟨w.heap.size, 2, none⟩ (.int .u8 ((V : Int) % 256))).setCell ⟨w.heap.size, 1, none⟩ (.int .u8 ((V : Int) / 256 % 256))).setCell ⟨w.heap.size, 0, none⟩ (.int .u8 ((V : Int) / 65536 % 256))) = W at *
                clear hR'
                have c0 := hW.cell (j := 0) rfl
                have c1 := hW.cell (j := 1) rfl
                have c2 := hW.cell (j := 2) rfl
                have f1 := hW.free 1
                have f2 := hW.free 2
                have hrow2 := hrow'.out.below hbW
                have d0 := hrow2.cell (j := o) (c := r0) (by rw [← hpre'.out]; simp)
                have d1 := hrow2.cell (j := o + 1) (c := r1) (by rw [← hpre'.out]; simp)
                have d2 := hrow2.cell (j := o + 2) (c := r2) (by rw [← hpre'.out]; simp)
                have e0 := hrow2.free o
                have e1 := hrow2.free (o + 1)
                have e2 := hrow2.free (o + 2)
                have hBD : B ≠ w.heap.size := by have := hrow'.out.lt; omega
                have q6 := (henc'.out.below hbW).strict
                have hED : E ≠ w.heap.size := by have := henc'.out.lt; omega
                have b0 : (0 : Int) < (rest.length : Int) + 3 := by omega
                have b1 : (1 : Int) < (rest.length : Int) + 3 := by omega
                have b2 : (2 : Int) < (rest.length : Int) + 3 := by omega
                have hbW' := Lib.hid (But.of_below (B := B) hbW)
                have hrow2' := Lib.hid hrow2
                clear hW hbW hrow2
                go_wp2_with fail
                go_ret3
                refine ⟨((hbW'.out.setIt _ _).setNew _ _ _ (Nat.le_refl _)).setIt _ _, ?_⟩
                rw [show d = 61 from hxc.out, qd_3 a b c t hgs.out.1 hgs.out.2.1 hgs.out.2.2, if_neg ht]
                exact ⟨_, (j : Int) - 1, _, rfl, by have := hjv'.out; omega, by have := hjv'.out; omega⟩
        · have n61 : ((x.toNat : Int) != 61) = true := by have := cell_ne h61; rw [bne, show (61 : Int) = ((61 : UInt8).toNat : Int) from rfl, this]; rfl
          go_wp2_with fail
          go_ret3
          refine ⟨But.of_below hR.out.2, ?_⟩
          rw [qd_bad a b c d x t j hx'.out hG.out (by unfold good; omega) h61]
          exact ⟨_, 0, _, rfl, by omega, by omega⟩
    · obtain rfl : j = 4 := by omega
      have ga : good a := hG.out a (by simp)
      have gb : good b := hG.out b (by simp)
      have gc : good c := hG.out c (by simp)
      have gd : good d := hG.out d (by simp)
      have hRL : Row0 75 wq w.heap.size [dm a, dm b, dm c, dm d] := hR.out.1
      obtain ⟨y0, hy0⟩ : ∃ y : UInt8, y = dm a := ⟨_, rfl⟩
      obtain ⟨y1, hy1⟩ : ∃ y : UInt8, y = dm b := ⟨_, rfl⟩
      obtain ⟨y2, hy2⟩ : ∃ y : UInt8, y = dm c := ⟨_, rfl⟩
      obtain ⟨y3, hy3⟩ : ∃ y : UInt8, y = dm d := ⟨_, rfl⟩
      rw [← hy0, ← hy1, ← hy2, ← hy3] at hRL
      have n0 : y0.toNat < 64 := by rw [hy0]; exact ga
      have n1 : y1.toNat < 64 := by rw [hy1]; exact gb
      have n2 : y2.toNat < 64 := by rw [hy2]; exact gc
      have n3 : y3.toNat < 64 := by rw [hy3]; exact gd
      obtain ⟨m0, hm0⟩ : ∃ m, y0.toNat = m := ⟨_, rfl⟩
      obtain ⟨m1, hm1⟩ : ∃ m, y1.toNat = m := ⟨_, rfl⟩
      obtain ⟨m2, hm2⟩ : ∃ m, y2.toNat = m := ⟨_, rfl⟩
      obtain ⟨m3, hm3⟩ : ∃ m, y3.toNat = m := ⟨_, rfl⟩
      have c0 := hRL.cell (j := 0) rfl
      rw [hm0] at c0
      have c1 := hRL.cell (j := 1) rfl
      rw [hm1] at c1
      have c2 := hRL.cell (j := 2) rfl
      rw [hm2] at c2
      have c3 := hRL.cell (j := 3) rfl
      rw [hm3] at c3
      have l0 : (m0 : Int) < 64 := by omega
      have w0 : IntKind.u64.wrap (m0 : Int) = (m0 : Int) := by rw [IntKind.wrap_u64]; omega
      have l1 : (m1 : Int) < 64 := by omega
      have w1 : IntKind.u64.wrap (m1 : Int) = (m1 : Int) := by rw [IntKind.wrap_u64]; omega
      have l2 : (m2 : Int) < 64 := by omega
      have w2 : IntKind.u64.wrap (m2 : Int) = (m2 : Int) := by rw [IntKind.wrap_u64]; omega
      have l3 : (m3 : Int) < 64 := by omega
      have w3 : IntKind.u64.wrap (m3 : Int) = (m3 : Int) := by rw [IntKind.wrap_u64]; omega
      have v0 : IntKind.u64.wrap ((m0 : Int) * 262144) = (m0 : Int) * 262144 := by rw [IntKind.wrap_u64]; omega
      have v1 : IntKind.u64.wrap ((m1 : Int) * 4096) = (m1 : Int) * 4096 := by rw [IntKind.wrap_u64]; omega
      have v2 : IntKind.u64.wrap ((m2 : Int) * 64) = (m2 : Int) * 64 := by rw [IntKind.wrap_u64]; omega
      obtain ⟨V, hV⟩ : ∃ V : Nat, V = m0 * 262144 + m1 * 4096 + m2 * 64 + m3 := ⟨_, rfl⟩
      have hor : bits .or .u64 (bits .or .u64 (bits .or .u64 ((m0 : Int) * 262144) ((m1 : Int) * 4096)) ((m2 : Int) * 64)) (m3 : Int) = (V : Int) := by
        rw [or64 _ _ _ _ (by omega) l0 (by omega) l1 (by omega) l2 (by omega) l3]; omega
      have hR' := Lib.hid (And.intro hRL hR.out.2)
      have hV' := Lib.hid (show V = (dm a).toNat * 262144 + (dm b).toNat * 4096 + (dm c).toNat * 64 + (dm d).toNat by rw [hV, ← hm0, ← hm1, ← hm2, ← hm3, hy0, hy1, hy2, hy3])
      have hgs := Lib.hid (And.intro ga (And.intro gb (And.intro gc gd)))
      clear hV hR hRL l0 l1 l2 l3 n0 n1 n2 n3 hy0 hy1 hy2 hy3 hm0 hm1 hm2 hm3 ga gb gc gd
      go_upto_region 41 with fail
      clear c0 c1 c2 c3 w0 w1 w2 w3 v0 v1 v2 hor
      have c0 := hR'.out.1.cell (j := 0) rfl
      have c1 := hR'.out.1.cell (j := 1) rfl
      have c2 := hR'.out.1.cell (j := 2) rfl
      have f0 := hR'.out.1.free 0
      have f1 := hR'.out.1.free 1
      have f2 := hR'.out.1.free 2
      go_upto_region 42 with fail
      clear c0 c1 c2 f0 f1 f2
      have hW := row3 (V := V) hR'.out.1
      have hbW : Below w.heap.size w (((wq.setCell ⟨w.heap.size, 2, none⟩ (.int .u8 ((V : Int) % 256))).setCell ⟨w.heap.size, 1, none⟩ (.int .u8 ((V : Int) / 256 % 256))).setCell ⟨w.heap.size, 0, none⟩ (.int .u8 ((V : Int) / 65536 % 256))) :=
        ((hR'.out.2.setCell (Nat.le_refl _) _).setCell (Nat.le_refl _) _).setCell (Nat.le_refl _) _
      generalize (((wq.setCell ⟨w.heap.size, 2, none⟩ (.int .u8 ((V : Int) % 256))).setCell ⟨w.heap.size, 1, none⟩ (.int .u8 ((V : Int) / 256 % 256))).setCell ⟨w.heap.size, 0, none⟩ (.int .u8 ((V : Int) / 65536 % 256))) = W at *
      clear hR'
      have c0 := hW.cell (j := 0) rfl
      have c1 := hW.cell (j := 1) rfl
      have c2 := hW.cell (j := 2) rfl
      have f1 := hW.free 1
      have f2 := hW.free 2
      have hrow2 := hrow'.out.below hbW
      have d0 := hrow2.cell (j := o) (c := r0) (by rw [← hpre'.out]; simp)
      have d1 := hrow2.cell (j := o + 1) (c := r1) (by rw [← hpre'.out]; simp)
      have d2 := hrow2.cell (j := o + 2) (c := r2) (by rw [← hpre'.out]; simp)
      have e0 := hrow2.free o
      have e1 := hrow2.free (o + 1)
      have e2 := hrow2.free (o + 2)
      have hBD : B ≠ w.heap.size := by have := hrow'.out.lt; omega
      have q6 := (henc'.out.below hbW).strict
      have hED : E ≠ w.heap.size := by have := henc'.out.lt; omega
      have b0 : (0 : Int) < (rest.length : Int) + 3 := by omega
      have b1 : (1 : Int) < (rest.length : Int) + 3 := by omega
      have b2 : (2 : Int) < (rest.length : Int) + 3 := by omega
      have hbW' := Lib.hid (But.of_below (B := B) hbW)
      have hrow2' := Lib.hid hrow2
      clear hW hbW hrow2
      go_wp2_with fail
      go_ret3
      refine ⟨((((hbW'.out.setIt _ _).setNew _ _ _ (Nat.le_refl _)).setIt _ _).setNew _ _ _ (Nat.le_refl _)).setIt _ _, ?_⟩
      rw [qd_4 a b c d t hgs.out.1 hgs.out.2.1 hgs.out.2.2.1 hgs.out.2.2.2, ← show V = q3 a b c d from hV'.out]
      have h5 := ((((hrow2'.out.set (o + 2) (qb2 V)).other w.heap.size 2 (.int .u8 0) hBD.symm).set (o + 1) (qb1 V)).other w.heap.size 1 (.int .u8 0) hBD.symm).set o (qb0 V)
      rw [set_at pre _ o 2 _ hpre'.out, set_at pre _ o 1 _ hpre'.out, show o = o + 0 from rfl, set_at pre _ o 0 _ hpre'.out] at h5
      exact ⟨rfl, rest, by simpa using h5, by simp; omega⟩
end Go.Proofs.YtbjhmmiijebehaaDoor.Own
