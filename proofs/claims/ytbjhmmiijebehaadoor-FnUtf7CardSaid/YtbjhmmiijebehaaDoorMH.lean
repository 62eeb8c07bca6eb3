/- base64's Encode at the alphabet of modified UTF-7: three bytes are four letters. base64's Encode at the alphabet of modified UTF-7, walked. -/
import Derived.Test.YtbjhmmiijebehaaDoorMB
namespace Go.Proofs.YtbjhmmiijebehaaDoor.Own
open Go.RowKit Go.Lib
set_option linter.unusedVariables false
set_option linter.unusedSimpArgs false

def letter (n : Nat) : UInt8 := alpha9.data.toList.getD n 0
theorem enc_letterL (i n : Nat) (hn : n < 64) : (encCells i)[n]? = some (.int .u8 ((letter n).toNat : Int)) := by
  have h64 := enc_64
  unfold encCells
  have hl : alpha9.data.toList.length = 64 := by simpa using h64
  rw [List.append_assoc, List.getElem?_append_left (by rw [h64]; exact hn), List.getElem?_map, List.getElem?_eq_getElem (by omega)]
  unfold letter
  rw [List.getD_eq_getElem?_getD, List.getElem?_eq_getElem (by omega)]
  rfl
theorem EncAt.letter {w : World} {E n : Nat} (h : EncAt w E 64) (hn : n < 64) : w.cell? ⟨E, n, none⟩ = some (.int .u8 ((Own.letter n).toNat : Int)) := h.cell (enc_letterL 64 n hn)
def encV : Value := .agg (alpha9.data.toList.map fun c => Value.int .u8 (c.toNat : Int)).toArray
theorem wpList_load_enc {ops : Array Oper} {rest : List Oper} {o : Oper} {a : Act} {w : World} {Q : Exit → Act → World → Prop} (hgd : o.guard = none) (x : Operand) (ho : o.op = .load 63 x)
    (E : Nat) (hx : a.eval x = .pointer (some ⟨E, 0, none⟩)) (he : EncAt w E 64)
    (h : wpList Tryd.prog ops Q rest (a.put o.dst encV) w) : wpList Tryd.prog ops Q (o :: rest) a w := by
  refine wpList_plain hgd fun K hK => ?_
  have hl : (loadCells ⟨E, 0, none⟩ (alpha9.data.toList.map fun c => Value.int .u8 (c.toNat : Int)).length).run Tryd.prog w = .ok (alpha9.data.toList.map fun c => Value.int .u8 (c.toNat : Int)).toArray w :=
    run_loadCells_list (P := Tryd.prog) w ⟨E, 0, none⟩ _ (fun j v hv => by
      have hadd : (⟨E, 0, none⟩ : Addr).add j = ⟨E, j, none⟩ := by unfold Addr.add; split <;> simp_all
      rw [hadd]
      refine he.cell ?_
      unfold encCells
      rw [List.append_assoc, List.getElem?_append_left (List.getElem?_eq_some_iff.1 hv).1]
      exact hv)
  rw [enc_64] at hl
  have hu : Tryd.prog.underlying 63 = some (.array 64 5) := by kernel_rfl
  have hs : (Tryd.prog.info? 63).map (·.size) = some 64 := by kernel_rfl
  have hagg : (isAgg 63).run Tryd.prog w = .ok true w := by
    unfold isAgg
    rw [Sem.run_bind, run_underlying hu w]
    simp
  cases hq : Tryd.prog.info? 63 with
  | none => simp [hq] at hs
  | some i =>
    have hs' : i.size = 64 := by simpa [hq] using hs
    have hv : (loadVar 63 ⟨E, 0, none⟩).run Tryd.prog w = .ok encV w := by
      simp only [loadVar, Sem.run_bind, hagg, Result.andThen_ok]
      simp only [sizeOf, typeInfo, hq, hs', encV]
      simp [hl, hs', hq]
    unfold Oper.wp execOp
    simp only [ho, hx, Instr.loadAt, Instr.sureAddr, Sem.run_bind, Sem.run_pure, Result.andThen_ok, hv]
    exact hK _ _ h
def v3 (a b c : UInt8) : Nat := a.toNat * 65536 + b.toNat * 256 + c.toNat
def four (v : Nat) : List UInt8 := [letter (v / 262144 % 64), letter (v / 4096 % 64), letter (v / 64 % 64), letter (v % 64)]
/-- The letters of bytes, with their padding. -/
def enc64 : List UInt8 → List UInt8
  | [] => []
  | [a] => [letter (v3 a 0 0 / 262144 % 64), letter (v3 a 0 0 / 4096 % 64), 61, 61]
  | [a, b] => [letter (v3 a b 0 / 262144 % 64), letter (v3 a b 0 / 4096 % 64), letter (v3 a b 0 / 64 % 64), 61]
  | a :: b :: c :: t => four (v3 a b c) ++ enc64 t
theorem or24 (a b c : Int) (ha : 0 ≤ a) (ha' : a < 256) (hb : 0 ≤ b) (hb' : b < 256) (hc : 0 ≤ c) (hc' : c < 256) :
    bits .or .u64 (bits .or .u64 (a * 65536) (b * 256)) c = a * 65536 + b * 256 + c := by
  have hw : ∀ n : Int, 0 ≤ n → n < 2 ^ 64 → IntKind.u64.wrap n = n := fun n h0 h1 => by rw [IntKind.wrap_u64]; omega
  rw [bits_join .u64 64 (by decide) hw 16 (a * 65536) (b * 256) (by omega) (by omega) (by omega) (by omega) (by omega) (by omega),
    bits_join .u64 64 (by decide) hw 8 (a * 65536 + b * 256) c (by omega) (by omega) (by omega) (by omega) (by omega) (by omega)]
theorem or16 (a b : Int) (ha : 0 ≤ a) (ha' : a < 256) (hb : 0 ≤ b) (hb' : b < 256) : bits .or .u64 (a * 65536) (b * 256) = a * 65536 + b * 256 := by
  have hw : ∀ n : Int, 0 ≤ n → n < 2 ^ 64 → IntKind.u64.wrap n = n := fun n h0 h1 => by rw [IntKind.wrap_u64]; omega
  rw [bits_join .u64 64 (by decide) hw 16 (a * 65536) (b * 256) (by omega) (by omega) (by omega) (by omega) (by omega) (by omega)]
theorem and63 (x : Nat) (h : x < 18446744073709551616) : bits .and .u64 (x : Int) 63 = ((x % 64 : Nat) : Int) := by
  have h1 := bits_and_u64_nat x 63 h (by omega)
  have h2 : x &&& 63 = x % 64 := Nat.and_two_pow_sub_one_eq_mod x 6
  rw [h2] at h1
  exact h1
theorem set4 {e : TypeId} {w : World} {B o : Nat} {pre rest : List UInt8} {r0 r1 r2 r3 : UInt8} (h : Row0 e w B (pre ++ r0 :: r1 :: r2 :: r3 :: rest)) (ho : pre.length = o) (a b c d : UInt8) :
    Row0 e ((((w.setCell ⟨B, o, none⟩ (.int .u8 (a.toNat : Int))).setCell ⟨B, o + 1, none⟩ (.int .u8 (b.toNat : Int))).setCell ⟨B, o + 2, none⟩ (.int .u8 (c.toNat : Int))).setCell ⟨B, o + 3, none⟩ (.int .u8 (d.toNat : Int))) B (pre ++ [a, b, c, d] ++ rest) := by
  have h5 := (((h.set o a).set (o + 1) b).set (o + 2) c).set (o + 3) d
  rw [show (pre ++ r0 :: r1 :: r2 :: r3 :: rest).set o a = _ from set_at pre _ o 0 _ ho, set_at pre _ o 1 _ ho, set_at pre _ o 2 _ ho, set_at pre _ o 3 _ ho] at h5
  simpa using h5
theorem but4 (w : World) (B o : Nat) (a b c d : Value) : But B w ((((w.setCell ⟨B, o, none⟩ a).setCell ⟨B, o + 1, none⟩ b).setCell ⟨B, o + 2, none⟩ c).setCell ⟨B, o + 3, none⟩ d) :=
  ((((But.refl B w).setIt _ _).setIt _ _).setIt _ _).setIt _ _
/-- Behind k triples. -/
def Einv (w wr : World) (B : Nat) (S pre rest out : List UInt8) (k : Nat) : Prop :=
  3 * k ≤ S.length ∧ out.length = 4 * k ∧ enc64 S = out ++ enc64 (S.drop (3 * k)) ∧ But B w wr ∧ ∃ x, Row0 5 wr B (pre ++ out ++ x) ∧ out.length + x.length = rest.length ∧ x = rest.drop (4 * k)
theorem enc64_len : ∀ S : List UInt8, (enc64 S).length = 4 * ((S.length + 2) / 3)
  | [] => rfl
  | [_] => by simp [enc64]
  | [_, _] => by simp [enc64]
  | a :: b :: c :: t => by
    have := enc64_len t
    simp [enc64, four]
    omega
end Go.Proofs.YtbjhmmiijebehaaDoor.Own

namespace Go.Proofs.YtbjhmmiijebehaaDoor.Own
open Go.RowKit Go.Lib
set_option linter.unusedVariables false
set_option linter.unusedSimpArgs false

theorem einv_draw {w wr : World} {B k : Nat} {S pre rest out : List UInt8} (h : Einv w wr B S pre rest out k) (m : Nat) : Einv w (wr.drewN m) B S pre rest out k := by
  obtain ⟨h1, h2, h3, h4, x, h5, h6, h7⟩ := h
  exact ⟨h1, h2, h3, h4.trans ⟨rfl, rfl, rfl, Nat.le_refl _, fun _ _ _ => rfl⟩, x, h5, h6, h7⟩
set_option maxHeartbeats 8000000 in
set_option maxRecDepth 100000 in
theorem encode_any (w : World) (B o dcap Bs so scap E : Nat) (S pre rest : List UInt8) (hrow : Row0 5 w B (pre ++ rest)) (hpre : pre.length = o) (hSB : Bs ≠ B) (hEB : E ≠ B)
    (hsrc : ∀ i x, S[i]? = some x → w.cell? ⟨Bs, so + i, none⟩ = some (.int .u8 (x.toNat : Int))) (henc : EncAt w E 64) (hS : 0 < S.length) (hS2 : S.length < 1000000) (hR : rest.length < 10000000) (hscap : S.length ≤ scap) (hdcap : rest.length ≤ dcap) (hroom : 4 * ((S.length + 2) / 3) < rest.length) :
    Calls Tryd.prog 29 #[.pointer (some ⟨E, 0, none⟩), .slice (some ⟨B, o, none⟩) rest.length dcap, .slice (some ⟨Bs, so, none⟩) S.length scap] w fun e w' =>
      e = .returned (.tuple #[]) ∧ But B w w' ∧ Row0 5 w' B (pre ++ enc64 S ++ rest.drop (enc64 S).length) := by
  have hI : Einv w w B S pre rest [] 0 := ⟨by omega, rfl, by simp, But.refl _ _, rest, by simpa using hrow, by simp, by simp⟩
  have hI' := Lib.hid hI
  have henc' := Lib.hid henc
  have hpre' := Lib.hid hpre
  have hsrc' := Lib.hid hsrc
  obtain ⟨L, hL⟩ : ∃ L, S.length = L := ⟨_, rfl⟩
  obtain ⟨R, hRe⟩ : ∃ R, rest.length = R := ⟨_, rfl⟩
  rw [hL] at hS hS2 hscap hroom ⊢
  rw [hRe] at hR hdcap hroom ⊢
  have hL' := Lib.hid hL
  have hR' := Lib.hid hRe
  clear hI henc hpre hrow hsrc hL hRe
  have n0 : ((L : Int) == 0) = false := by rw [beq_eq_false_iff_ne]; omega
  go_enter Tryd.func29, Tryd.ntmps29
  go_wp2_with (refine wpList_load_enc rfl _ rfl E rfl henc'.out ?_)
  go_simp
  go_loopw [1, 2] (fun s1 s2 wr => ∃ (k : Nat) (out : List UInt8) (a2 : Option Addr), s1 = .slice (some ⟨B, o + 4 * k, none⟩) (R - 4 * k) (dcap - 4 * k) ∧ s2 = .slice a2 (L - 3 * k) (scap - 3 * k) ∧ 3 * k ≤ L ∧ (3 * k < L → a2 = some ⟨Bs, so + 3 * k, none⟩) ∧ Hid (Einv w wr B S pre rest out k)) (fun _ s2 _ => match s2 with | .slice _ n _ => n | _ => 0)
  case atStart => exact ⟨0, [], some ⟨Bs, so, none⟩, rfl, rfl, by omega, fun _ => rfl, hI'⟩
  case round =>
    obtain ⟨wq, hwq⟩ : ∃ wq : World, wq = wr := ⟨_, rfl⟩
    rw [← hwq] at hrel ⊢
    clear hwq hI'
    obtain ⟨k, out, a2, rfl, rfl, hkL, ha2, hI⟩ := hrel
    by_cases h3 : 3 ≤ L - 3 * k
    · obtain rfl := ha2 (by omega)
      obtain ⟨i1, i2, i3, i4, x, i5, i6, i7⟩ := hI.out
      have hL := hL'.out
      have hRl := hR'.out
      obtain ⟨a, b, c, t, hd⟩ : ∃ a b c t, S.drop (3 * k) = a :: b :: c :: t := by
        have hl : (S.drop (3 * k)).length = L - 3 * k := by rw [List.length_drop, hL]
        rcases hd : S.drop (3 * k) with _ | ⟨a, _ | ⟨b, _ | ⟨c, t⟩⟩⟩
        all_goals (rw [hd] at hl; simp at hl; try omega)
        exact ⟨a, b, c, t, rfl⟩
      have hat : ∀ j y, (S.drop (3 * k))[j]? = some y → wq.cell? ⟨Bs, so + 3 * k + j, none⟩ = some (.int .u8 (y.toNat : Int)) := fun j y hy => by
        rw [List.getElem?_drop] at hy
        rw [Nat.add_assoc]
        exact i4.cell hSB (hsrc'.out _ y hy)
      rw [hd] at hat
      have q0 : wq.cell? ⟨Bs, so + 3 * k, none⟩ = some (.int .u8 (a.toNat : Int)) := hat 0 a rfl
      have q1 := hat 1 b rfl
      have q2 := hat 2 c rfl
      obtain ⟨V, hV⟩ : ∃ V, v3 a b c = V := ⟨_, rfl⟩
      have la := UInt8.toNat_lt a
      have lb := UInt8.toNat_lt b
      have lc := UInt8.toNat_lt c
      obtain ⟨an, han⟩ : ∃ n, a.toNat = n := ⟨_, rfl⟩
      obtain ⟨bn, hbn⟩ : ∃ n, b.toNat = n := ⟨_, rfl⟩
      obtain ⟨cn, hcn⟩ : ∃ n, c.toNat = n := ⟨_, rfl⟩
      have hVe : V = an * 65536 + bn * 256 + cn := by rw [← hV, ← han, ← hbn, ← hcn]; rfl
      rw [han] at q0 la
      rw [hbn] at q1 lb
      rw [hcn] at q2 lc
      have hVl : V < 16777216 := by omega
      have w0 : IntKind.u64.wrap (an : Int) = (an : Int) := by rw [IntKind.wrap_u64]; omega
      have w1 : IntKind.u64.wrap (bn : Int) = (bn : Int) := by rw [IntKind.wrap_u64]; omega
      have w2 : IntKind.u64.wrap (cn : Int) = (cn : Int) := by rw [IntKind.wrap_u64]; omega
      have w3 : IntKind.u64.wrap ((an : Int) * 65536) = (an : Int) * 65536 := by rw [IntKind.wrap_u64]; omega
      have w4 : IntKind.u64.wrap ((bn : Int) * 256) = (bn : Int) * 256 := by rw [IntKind.wrap_u64]; omega
      have hor : bits .or .u64 (bits .or .u64 ((an : Int) * 65536) ((bn : Int) * 256)) (cn : Int) = (V : Int) := by
        rw [or24 _ _ _ (by omega) (by omega) (by omega) (by omega) (by omega) (by omega)]; omega
      obtain ⟨O, hO⟩ : ∃ O, o + 4 * k = O := ⟨_, rfl⟩
      obtain ⟨P0, hP0⟩ : ∃ P0, so + 3 * k = P0 := ⟨_, rfl⟩
      obtain ⟨M, hM⟩ : ∃ M, L - 3 * k = M := ⟨_, rfl⟩
      obtain ⟨C, hC⟩ : ∃ C, scap - 3 * k = C := ⟨_, rfl⟩
      obtain ⟨RR, hRR⟩ : ∃ RR, R - 4 * k = RR := ⟨_, rfl⟩
      obtain ⟨DD, hDD⟩ : ∃ DD, dcap - 4 * k = DD := ⟨_, rfl⟩
      rw [hP0] at q0 q1 q2
      rw [hO, hP0, hM, hC, hRR, hDD]
      have g1 : 3 ≤ M := by omega
      have g2 : 4 < RR := by omega
      have g3 : RR ≤ DD := by omega
      have g4 : M ≤ C := by omega
      have hs' := Lib.hid (And.intro hd (And.intro hV (And.intro hO (And.intro hP0 (And.intro hM (And.intro hC (And.intro hRR hDD)))))))
      have hk' := Lib.hid (And.intro hkL (And.intro hroom (And.intro hscap hdcap)))
      have hVe' := Lib.hid hVe
      clear hVe hat hd hV hO hP0 hM hC hRR hDD i1 i2 i3 i4 i5 i6 i7 hL hRl han hbn hcn ha2 h3 hkL hroom hscap hdcap n0
      go_wp2_with fail
      go_quiet (fail)
      have hI2 := Lib.hid (einv_draw hI.out nq)
      generalize wq.drewN nq = wd at hI2 ⊢
      clear hI q0 q1 q2 w0 w1 w2 w3 w4 hor la lb lc
      obtain ⟨i1, i2, i3, i4, x, i5, i6, i7⟩ := hI2.out
      obtain ⟨hd, hV, hO, hP0, hM, hC, hRR, hDD⟩ := hs'.out
      have hRl := hR'.out
      have xl : 5 ≤ x.length := by omega
      obtain ⟨r0, r1, r2, r3, x', hx⟩ : ∃ r0 r1 r2 r3 x', x = r0 :: r1 :: r2 :: r3 :: x' := by
        rcases x with _ | ⟨r0, _ | ⟨r1, _ | ⟨r2, _ | ⟨r3, x'⟩⟩⟩⟩ <;> (try (simp at xl; done))
        exact ⟨r0, r1, r2, r3, x', rfl⟩
      have hplen : (pre ++ out).length = O := by rw [List.length_append, hpre'.out, i2]; exact hO
      have hcel : ∀ j y, (r0 :: r1 :: r2 :: r3 :: x')[j]? = some y → wd.cell? ⟨B, O + j, none⟩ = some (.int .u8 (y.toNat : Int)) := fun j y hy => by
        refine i5.cell ?_
        rw [List.getElem?_append_right (by omega), hplen, Nat.add_sub_cancel_left, hx]
        exact hy
      have d0 : wd.cell? ⟨B, O, none⟩ = some (.int .u8 (r0.toNat : Int)) := hcel 0 r0 rfl
      have d1 := hcel 1 r1 rfl
      have d2 := hcel 2 r2 rfl
      have d3 := hcel 3 r3 rfl
      have f0 := i5.free O
      have f1 := i5.free (O + 1)
      have f2 := i5.free (O + 2)
      have f3 := i5.free (O + 3)
      have hen := i4.enc hEB henc'.out
      obtain ⟨n1, hn1⟩ : ∃ n, V / 262144 % 64 = n := ⟨_, rfl⟩
      obtain ⟨n2, hn2⟩ : ∃ n, V / 4096 % 64 = n := ⟨_, rfl⟩
      obtain ⟨n3, hn3⟩ : ∃ n, V / 64 % 64 = n := ⟨_, rfl⟩
      obtain ⟨n4, hn4⟩ : ∃ n, V % 64 = n := ⟨_, rfl⟩
      have l1 : n1 < 64 := by omega
      have l2 : n2 < 64 := by omega
      have l3 : n3 < 64 := by omega
      have l4 : n4 < 64 := by omega
      have A1 : bits .and .u64 ((V : Int) / 262144) 63 = (n1 : Int) := by rw [show (V : Int) / 262144 = ((V / 262144 : Nat) : Int) by omega, and63 _ (by omega), hn1]
      have A2 : bits .and .u64 ((V : Int) / 4096) 63 = (n2 : Int) := by rw [show (V : Int) / 4096 = ((V / 4096 : Nat) : Int) by omega, and63 _ (by omega), hn2]
      have A3 : bits .and .u64 ((V : Int) / 64) 63 = (n3 : Int) := by rw [show (V : Int) / 64 = ((V / 64 : Nat) : Int) by omega, and63 _ (by omega), hn3]
      have A4 : bits .and .u64 (V : Int) 63 = (n4 : Int) := by rw [and63 _ (by omega), hn4]
      have e1 := hen.letter l1
      have e2 := hen.letter l2
      have e3 := hen.letter l3
      have e4 := hen.letter l4
      have b1 : (n1 : Int) < 64 := by omega
      have b2 : (n2 : Int) < 64 := by omega
      have b3 : (n3 : Int) < 64 := by omega
      have b4 : (n4 : Int) < 64 := by omega
      have b5 : (3 : Int) < (RR : Int) := by omega
      have b6 : (0 : Int) < (RR : Int) := by omega
      have b7 : (1 : Int) < (RR : Int) := by omega
      have b8 : (2 : Int) < (RR : Int) := by omega
      have c1 : ¬ DD = 4 := by omega
      have hns' := Lib.hid (And.intro hn1 (And.intro hn2 (And.intro hn3 (And.intro hn4 (And.intro hx (And.intro hplen (And.intro i5 i4)))))))
      clear hn1 hn2 hn3 hn4 hx hplen i1 i2 i3 i4 i5 i6 i7 hcel hen hd hV hO hP0 hM hC hRR hDD l1 l2 l3 l4 xl hRl hVl
      have hE : Einv w ((((wd.setCell ⟨B, O, none⟩ (.int .u8 ((letter n1).toNat : Int))).setCell ⟨B, O + 1, none⟩ (.int .u8 ((letter n2).toNat : Int))).setCell ⟨B, O + 2, none⟩ (.int .u8 ((letter n3).toNat : Int))).setCell ⟨B, O + 3, none⟩ (.int .u8 ((letter n4).toNat : Int))) B S pre rest (out ++ four V) (k + 1) := by
        obtain ⟨j1, j2, j3, j4, x, j5, j6, j7⟩ := hI2.out
        obtain ⟨h1, h2, h3, h4, hx, hpl, _, _⟩ := hns'.out
        obtain ⟨hd, hV, hO, hP0, hM, hC, hRR, hDD⟩ := hs'.out
        have hL := hL'.out
        have hd3 : S.drop (3 * (k + 1)) = t := by rw [show 3 * (k + 1) = 3 * k + 3 by omega, ← List.drop_drop, hd]; rfl
        have hf : four V = [letter n1, letter n2, letter n3, letter n4] := by unfold four; rw [h1, h2, h3, h4]
        have hx2 : ∃ s0 s1 s2 s3, x = s0 :: s1 :: s2 :: s3 :: rest.drop (4 * (k + 1)) := by
          have hxl : 4 ≤ x.length := by rw [j7, List.length_drop, hR'.out]; omega
          have e : rest.drop (4 * (k + 1)) = x.drop 4 := by rw [j7, List.drop_drop]; congr 1
          rw [e]
          rcases x with _ | ⟨s0, _ | ⟨s1, _ | ⟨s2, _ | ⟨s3, x''⟩⟩⟩⟩ <;> (try (simp at hxl; done))
          exact ⟨s0, s1, s2, s3, rfl⟩
        obtain ⟨s0, s1, s2, s3, hx2⟩ := hx2
        rw [hx2] at j5
        refine ⟨by omega, by rw [hf]; simp; omega, ?_, j4.trans (but4 wd B O _ _ _ _), rest.drop (4 * (k + 1)), ?_, by rw [hf]; simp [hR'.out]; omega, rfl⟩
        · rw [j3, hd, hd3]
          show out ++ (four (v3 a b c) ++ enc64 t) = _
          rw [hV, List.append_assoc]
        · rw [hf]
          have := set4 j5 hpl (letter n1) (letter n2) (letter n3) (letter n4)
          simpa using this
      have hE' := Lib.hid hE
      clear hE
      by_cases hC3 : C = 3
      · go_wp2_with fail
        obtain ⟨hd, hV, hO, hP0, hM, hC, hRR, hDD⟩ := hs'.out
        obtain ⟨k1, k2, k3, k4⟩ := hk'.out
        refine ⟨⟨k + 1, out ++ four V, some ⟨Bs, P0, none⟩, by rw [show O + 4 = o + 4 * (k + 1) by omega, show RR - 4 = R - 4 * (k + 1) by omega, show DD - 4 = dcap - 4 * (k + 1) by omega], by rw [show M - 3 = L - 3 * (k + 1) by omega, show scap - 3 * (k + 1) = 0 by omega], by omega, fun h => by omega, hE'⟩, ?_⟩
        show M - 3 < M
        omega
      · go_wp2_with fail
        obtain ⟨hd, hV, hO, hP0, hM, hC, hRR, hDD⟩ := hs'.out
        obtain ⟨k1, k2, k3, k4⟩ := hk'.out
        refine ⟨⟨k + 1, out ++ four V, some ⟨Bs, P0 + 3, none⟩, by rw [show O + 4 = o + 4 * (k + 1) by omega, show RR - 4 = R - 4 * (k + 1) by omega, show DD - 4 = dcap - 4 * (k + 1) by omega], by rw [show M - 3 = L - 3 * (k + 1) by omega, show C - 3 = scap - 3 * (k + 1) by omega], by omega, fun h => by rw [show P0 + 3 = so + 3 * (k + 1) by omega], hE'⟩, ?_⟩
        show M - 3 < M
        omega
    · have hrem : L - 3 * k = 0 ∨ L - 3 * k = 1 ∨ L - 3 * k = 2 := by omega
      rcases hrem with hr | hr | hr
      · rw [hr]
        have hI' := hI
        have hkL' := Lib.hid hkL
        have hroom' := Lib.hid hroom
        clear hI ha2 h3 hkL hroom hscap hdcap n0
        have hr' := Lib.hid hr
        clear hr
        go_wp2_with fail
        refine bodyPost_ret (results_none rfl _ _ _) rfl ?_
        obtain ⟨i1, i2, i3, i4, x, i5, i6, i7⟩ := hI'.out
        refine ⟨rfl, i4, ?_⟩
        have hd : S.drop (3 * k) = [] := List.drop_eq_nil_of_le (by have := hL'.out; have := hr'.out; omega)
        have henc : enc64 S = out := by rw [i3, hd]; simp [enc64]
        rw [henc, i2, ← i7]
        exact i5
      · obtain rfl := ha2 (by omega)
        obtain ⟨i1, i2, i3, i4, x, i5, i6, i7⟩ := hI.out
        have hL := hL'.out
        have hRl := hR'.out
        obtain ⟨a, hd⟩ : ∃ a, S.drop (3 * k) = [a] := by
          have hl : (S.drop (3 * k)).length = L - 3 * k := by rw [List.length_drop, hL]
          rcases hd : S.drop (3 * k) with _ | ⟨a, _ | ⟨b, _ | ⟨c, t⟩⟩⟩
          all_goals (rw [hd] at hl; simp at hl; try omega)
          exact ⟨a, rfl⟩
        have hat : ∀ j y, (S.drop (3 * k))[j]? = some y → wq.cell? ⟨Bs, so + 3 * k + j, none⟩ = some (.int .u8 (y.toNat : Int)) := fun j y hy => by
          rw [List.getElem?_drop] at hy
          rw [Nat.add_assoc]
          exact i4.cell hSB (hsrc'.out _ y hy)
        rw [hd] at hat
        have q0 : wq.cell? ⟨Bs, so + 3 * k, none⟩ = some (.int .u8 (a.toNat : Int)) := hat 0 a rfl
        obtain ⟨V, hV⟩ : ∃ V, v3 a 0 0 = V := ⟨_, rfl⟩
        have la := UInt8.toNat_lt a
        obtain ⟨an, han⟩ : ∃ n, a.toNat = n := ⟨_, rfl⟩
        have hVe : V = an * 65536 := by rw [← hV, ← han]; unfold v3; simp
        rw [han] at q0 la
        have hVl : V < 16777216 := by omega
        have w0 : IntKind.u64.wrap (an : Int) = (an : Int) := by rw [IntKind.wrap_u64]; omega
        have w3 : IntKind.u64.wrap ((an : Int) * 65536) = (V : Int) := by rw [IntKind.wrap_u64]; omega
        have hM : L - 3 * k = 1 := hr
        obtain ⟨O, hO⟩ : ∃ O, o + 4 * k = O := ⟨_, rfl⟩
        obtain ⟨P0, hP0⟩ : ∃ P0, so + 3 * k = P0 := ⟨_, rfl⟩
        obtain ⟨C, hC⟩ : ∃ C, scap - 3 * k = C := ⟨_, rfl⟩
        obtain ⟨RR, hRR⟩ : ∃ RR, R - 4 * k = RR := ⟨_, rfl⟩
        obtain ⟨DD, hDD⟩ : ∃ DD, dcap - 4 * k = DD := ⟨_, rfl⟩
        rw [hP0] at q0
        rw [hO, hP0, hM, hC, hRR, hDD]
        have g2 : 4 < RR := by omega
        have xl : 5 ≤ x.length := by omega
        obtain ⟨r0, r1, r2, r3, x', hx⟩ : ∃ r0 r1 r2 r3 x', x = r0 :: r1 :: r2 :: r3 :: x' := by
          rcases x with _ | ⟨r0, _ | ⟨r1, _ | ⟨r2, _ | ⟨r3, x'⟩⟩⟩⟩ <;> (try (simp at xl; done))
          exact ⟨r0, r1, r2, r3, x', rfl⟩
        have hplen : (pre ++ out).length = O := by rw [List.length_append, hpre'.out, i2]; exact hO
        obtain ⟨n1, hn1⟩ : ∃ n, V / 262144 % 64 = n := ⟨_, rfl⟩
        obtain ⟨n2, hn2⟩ : ∃ n, V / 4096 % 64 = n := ⟨_, rfl⟩
        obtain ⟨n3, hn3⟩ : ∃ n, V / 64 % 64 = n := ⟨_, rfl⟩
        have l1 : n1 < 64 := by omega
        have l2 : n2 < 64 := by omega
        have l3 : n3 < 64 := by omega
        have A1 : bits .and .u64 ((V : Int) / 262144) 63 = (n1 : Int) := by rw [show (V : Int) / 262144 = ((V / 262144 : Nat) : Int) by omega, and63 _ (by omega), hn1]
        have A2 : bits .and .u64 ((V : Int) / 4096) 63 = (n2 : Int) := by rw [show (V : Int) / 4096 = ((V / 4096 : Nat) : Int) by omega, and63 _ (by omega), hn2]
        have A3 : bits .and .u64 ((V : Int) / 64) 63 = (n3 : Int) := by rw [show (V : Int) / 64 = ((V / 64 : Nat) : Int) by omega, and63 _ (by omega), hn3]
        have b1 : (n1 : Int) < 64 := by omega
        have b2 : (n2 : Int) < 64 := by omega
        have b3 : (n3 : Int) < 64 := by omega
        have b5 : (3 : Int) < (RR : Int) := by omega
        have b6 : (0 : Int) < (RR : Int) := by omega
        have b7 : (1 : Int) < (RR : Int) := by omega
        have b8 : (2 : Int) < (RR : Int) := by omega
        have hcel : ∀ j y, (r0 :: r1 :: r2 :: r3 :: x')[j]? = some y → wq.cell? ⟨B, O + j, none⟩ = some (.int .u8 (y.toNat : Int)) := fun j y hy => by
          refine i5.cell ?_
          rw [List.getElem?_append_right (by omega), hplen, Nat.add_sub_cancel_left, hx]
          exact hy
        have d0 : wq.cell? ⟨B, O, none⟩ = some (.int .u8 (r0.toNat : Int)) := hcel 0 r0 rfl
        have d1 := hcel 1 r1 rfl
        have d2 := hcel 2 r2 rfl
        have d3 := hcel 3 r3 rfl
        have f0 := i5.free O
        have f1 := i5.free (O + 1)
        have f2 := i5.free (O + 2)
        have f3 := i5.free (O + 3)
        have hen := i4.enc hEB henc'.out
        have e1 := hen.letter l1
        have e2 := hen.letter l2
        have e3 := hen.letter l3
        have e4 := hen.pad
        rw [hx] at i5
        have hs4 := set4 i5 hplen (letter n1) (letter n2) 61 61
        have hb4 := i4.trans (but4 wq B O (.int .u8 ((letter n1).toNat : Int)) (.int .u8 ((letter n2).toNat : Int)) (.int .u8 (61)) (.int .u8 61))
        have henc : enc64 S = out ++ [letter n1, letter n2, 61, 61] := by
          rw [i3, hd, ← hn1, ← hn2, ← hV]; rfl
        have hdr : rest.drop (enc64 S).length = x' := by
          rw [henc, List.length_append, i2]
          have : rest.drop (4 * k + 4) = (rest.drop (4 * k)).drop 4 := by rw [List.drop_drop]
          show rest.drop (4 * k + 4) = x'
          rw [this, ← i7, hx]; rfl
        have hfin := Lib.hid (And.intro hb4 (And.intro hs4 (And.intro henc hdr)))
        clear hcel hen hs4 hb4 henc hdr i1 i2 i3 i4 i5 i6 i7 hplen hx hd hV hn1 hn2 hn3 l1 l2 l3 hL hRl hr hkL hO hRR hat hP0 hM hC hDD hVe hI h3 hroom hscap hdcap hVl han la xl n0
        go_wp2_with fail
        go_end0
        obtain ⟨hb4, hs4, henc, hdr⟩ := hfin.out
        refine ⟨rfl, hb4, ?_⟩
        rw [hdr, henc]
        simpa using hs4
      · obtain rfl := ha2 (by omega)
        obtain ⟨i1, i2, i3, i4, x, i5, i6, i7⟩ := hI.out
        have hL := hL'.out
        have hRl := hR'.out
        obtain ⟨a, b, hd⟩ : ∃ a b, S.drop (3 * k) = [a, b] := by
          have hl : (S.drop (3 * k)).length = L - 3 * k := by rw [List.length_drop, hL]
          rcases hd : S.drop (3 * k) with _ | ⟨a, _ | ⟨b, _ | ⟨c, t⟩⟩⟩
          all_goals (rw [hd] at hl; simp at hl; try omega)
          exact ⟨a, b, rfl⟩
        have hat : ∀ j y, (S.drop (3 * k))[j]? = some y → wq.cell? ⟨Bs, so + 3 * k + j, none⟩ = some (.int .u8 (y.toNat : Int)) := fun j y hy => by
          rw [List.getElem?_drop] at hy
          rw [Nat.add_assoc]
          exact i4.cell hSB (hsrc'.out _ y hy)
        rw [hd] at hat
        have q0 : wq.cell? ⟨Bs, so + 3 * k, none⟩ = some (.int .u8 (a.toNat : Int)) := hat 0 a rfl
        have q1 := hat 1 b rfl
        obtain ⟨V, hV⟩ : ∃ V, v3 a b 0 = V := ⟨_, rfl⟩
        have la := UInt8.toNat_lt a
        have lb := UInt8.toNat_lt b
        obtain ⟨an, han⟩ : ∃ n, a.toNat = n := ⟨_, rfl⟩
        obtain ⟨bn, hbn⟩ : ∃ n, b.toNat = n := ⟨_, rfl⟩
        have hVe : V = an * 65536 + bn * 256 := by rw [← hV, ← han, ← hbn]; unfold v3; simp
        rw [han] at q0 la
        rw [hbn] at q1 lb
        have hVl : V < 16777216 := by omega
        have w0 : IntKind.u64.wrap (an : Int) = (an : Int) := by rw [IntKind.wrap_u64]; omega
        have w1 : IntKind.u64.wrap (bn : Int) = (bn : Int) := by rw [IntKind.wrap_u64]; omega
        have w3 : IntKind.u64.wrap ((an : Int) * 65536) = (an : Int) * 65536 := by rw [IntKind.wrap_u64]; omega
        have w4 : IntKind.u64.wrap ((bn : Int) * 256) = (bn : Int) * 256 := by rw [IntKind.wrap_u64]; omega
        have hor : bits .or .u64 ((an : Int) * 65536) ((bn : Int) * 256) = (V : Int) := by
          rw [or16 _ _ (by omega) (by omega) (by omega) (by omega)]; omega
        have hM : L - 3 * k = 2 := hr
        obtain ⟨O, hO⟩ : ∃ O, o + 4 * k = O := ⟨_, rfl⟩
        obtain ⟨P0, hP0⟩ : ∃ P0, so + 3 * k = P0 := ⟨_, rfl⟩
        obtain ⟨C, hC⟩ : ∃ C, scap - 3 * k = C := ⟨_, rfl⟩
        obtain ⟨RR, hRR⟩ : ∃ RR, R - 4 * k = RR := ⟨_, rfl⟩
        obtain ⟨DD, hDD⟩ : ∃ DD, dcap - 4 * k = DD := ⟨_, rfl⟩
        rw [hP0] at q0 q1
        rw [hO, hP0, hM, hC, hRR, hDD]
        have g2 : 4 < RR := by omega
        have xl : 5 ≤ x.length := by omega
        obtain ⟨r0, r1, r2, r3, x', hx⟩ : ∃ r0 r1 r2 r3 x', x = r0 :: r1 :: r2 :: r3 :: x' := by
          rcases x with _ | ⟨r0, _ | ⟨r1, _ | ⟨r2, _ | ⟨r3, x'⟩⟩⟩⟩ <;> (try (simp at xl; done))
          exact ⟨r0, r1, r2, r3, x', rfl⟩
        have hplen : (pre ++ out).length = O := by rw [List.length_append, hpre'.out, i2]; exact hO
        obtain ⟨n1, hn1⟩ : ∃ n, V / 262144 % 64 = n := ⟨_, rfl⟩
        obtain ⟨n2, hn2⟩ : ∃ n, V / 4096 % 64 = n := ⟨_, rfl⟩
        obtain ⟨n3, hn3⟩ : ∃ n, V / 64 % 64 = n := ⟨_, rfl⟩
        have l1 : n1 < 64 := by omega
        have l2 : n2 < 64 := by omega
        have l3 : n3 < 64 := by omega
        have A1 : bits .and .u64 ((V : Int) / 262144) 63 = (n1 : Int) := by rw [show (V : Int) / 262144 = ((V / 262144 : Nat) : Int) by omega, and63 _ (by omega), hn1]
        have A2 : bits .and .u64 ((V : Int) / 4096) 63 = (n2 : Int) := by rw [show (V : Int) / 4096 = ((V / 4096 : Nat) : Int) by omega, and63 _ (by omega), hn2]
        have A3 : bits .and .u64 ((V : Int) / 64) 63 = (n3 : Int) := by rw [show (V : Int) / 64 = ((V / 64 : Nat) : Int) by omega, and63 _ (by omega), hn3]
        have b1 : (n1 : Int) < 64 := by omega
        have b2 : (n2 : Int) < 64 := by omega
        have b3 : (n3 : Int) < 64 := by omega
        have b5 : (3 : Int) < (RR : Int) := by omega
        have b6 : (0 : Int) < (RR : Int) := by omega
        have b7 : (1 : Int) < (RR : Int) := by omega
        have b8 : (2 : Int) < (RR : Int) := by omega
        have hkeep := Lib.hid (And.intro hd (And.intro hV (And.intro hn1 (And.intro hn2 (And.intro hn3 (And.intro hx (And.intro hplen (And.intro hL (And.intro l1 (And.intro l2 l3))))))))))
        have hrest := Lib.hid (And.intro hr (And.intro hkL (And.intro hO hRR)))
        clear hat hd hV hn1 hn2 hn3 hx hplen hL hO hP0 hM hC hRR hDD hVe i1 i2 i3 i4 i5 i6 i7 l1 l2 l3 h3 hr hkL ha2 hroom hscap hdcap hVl han hbn la lb xl hRl n0
        go_wp2_with fail
        go_quiet (fail)
        have hI2 := Lib.hid (einv_draw hI.out nq)
        generalize wq.drewN nq = wd at hI2 ⊢
        clear hI q0 q1 w0 w1 w3 w4 hor
        obtain ⟨hd, hV, hn1, hn2, hn3, hx, hplen, hL, l1, l2, l3⟩ := hkeep.out
        obtain ⟨hr, hkL, hO, hRR⟩ := hrest.out
        obtain ⟨i1, i2, i3, i4, x1, i5, i6, i7⟩ := hI2.out
        have hRl := hR'.out
        obtain ⟨r0, r1, r2, r3, x', hx⟩ : ∃ r0 r1 r2 r3 x', x1 = r0 :: r1 :: r2 :: r3 :: x' := by
          have xl : 5 ≤ x1.length := by omega
          rcases x1 with _ | ⟨r0, _ | ⟨r1, _ | ⟨r2, _ | ⟨r3, x'⟩⟩⟩⟩ <;> (try (simp at xl; done))
          exact ⟨r0, r1, r2, r3, x', rfl⟩
        have hcel : ∀ j y, (r0 :: r1 :: r2 :: r3 :: x')[j]? = some y → wd.cell? ⟨B, O + j, none⟩ = some (.int .u8 (y.toNat : Int)) := fun j y hy => by
          refine i5.cell ?_
          rw [List.getElem?_append_right (by omega), hplen, Nat.add_sub_cancel_left, hx]
          exact hy
        have d0 : wd.cell? ⟨B, O, none⟩ = some (.int .u8 (r0.toNat : Int)) := hcel 0 r0 rfl
        have d1 := hcel 1 r1 rfl
        have d2 := hcel 2 r2 rfl
        have d3 := hcel 3 r3 rfl
        have f0 := i5.free O
        have f1 := i5.free (O + 1)
        have f2 := i5.free (O + 2)
        have f3 := i5.free (O + 3)
        have hen := i4.enc hEB henc'.out
        have e1 := hen.letter l1
        have e2 := hen.letter l2
        have e3 := hen.letter l3
        have e4 := hen.pad
        rw [hx] at i5
        have hs4 := set4 i5 hplen (letter n1) (letter n2) (letter n3) 61
        have hb4 := i4.trans (but4 wd B O (.int .u8 ((letter n1).toNat : Int)) (.int .u8 ((letter n2).toNat : Int)) (.int .u8 (((letter n3).toNat : Int))) (.int .u8 61))
        have henc : enc64 S = out ++ [letter n1, letter n2, letter n3, 61] := by
          rw [i3, hd, ← hn1, ← hn2, ← hn3, ← hV]; rfl
        have hdr : rest.drop (enc64 S).length = x' := by
          rw [henc, List.length_append, i2]
          have : rest.drop (4 * k + 4) = (rest.drop (4 * k)).drop 4 := by rw [List.drop_drop]
          show rest.drop (4 * k + 4) = x'
          rw [this, ← i7, hx]; rfl
        have hfin := Lib.hid (And.intro hb4 (And.intro hs4 (And.intro henc hdr)))
        clear hcel hen hs4 hb4 henc hdr i1 i2 i3 i4 i5 i6 i7 hplen hx hd hV hn1 hn2 hn3 l1 l2 l3 hL hRl hr hkL hO hRR hI2
        go_wp2_with fail
        go_end0
        obtain ⟨hb4, hs4, henc, hdr⟩ := hfin.out
        refine ⟨rfl, hb4, ?_⟩
        rw [hdr, henc]
        simpa using hs4
end Go.Proofs.YtbjhmmiijebehaaDoor.Own
