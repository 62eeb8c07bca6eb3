/- spec.number9 (printed) and the number of a part, against what the code parses. spec.part9 by hand: the range that a part is, against what the code parses. spec.Parts9 by hand: the ranges of a text's parts up to the first that is none. -/
import Derived.Test.YtajifebphcgcpaaDoorPnumber9x1
import Derived.Test.YtajifebphcgcpaaDoorMB
import Derived.Test.YtajifebphcgcpaaDoorPFnSeqOfx4
import Derived.Test.YtajifebphcgcpaaDoorMC
namespace Go.Proofs.YtajifebphcgcpaaDoor.Own
open Go.RowKit Go.Lib Go.Proofs.YtajifebphcgcpaaDoor.Pnumber9 Go.Proofs.YtajifebphcgcpaaDoorW.PrintWords Go.Proofs.YtajifebphcgcpaaDoorW.PrintLast Go.Proofs.YtajifebphcgcpaaDoorW.PrintMore
set_option linter.unusedVariables false
set_option linter.unusedSimpArgs false

/-- The number that digits are, behind others. -/
def val (acc : Nat) : List UInt8 → Option Nat
  | [] => some acc
  | c :: r => if 48 ≤ c.toNat ∧ c.toNat ≤ 57 then val (acc * 10 + (c.toNat - 48)) r else none
theorem val_ge : ∀ (r : List UInt8) (acc v : Nat), val acc r = some v → acc * 10 ^ r.length ≤ v
  | [], acc, v, h => by rw [val] at h; cases h; simp
  | c :: r, acc, v, h => by
    rw [val] at h
    split at h
    · have := val_ge r _ v h
      rw [List.length_cons, Nat.pow_succ, Nat.mul_comm (10 ^ r.length) 10, ← Nat.mul_assoc]
      exact Nat.le_trans (Nat.mul_le_mul_right _ (by omega)) this
    · cases h
theorem val_le {r : List UInt8} {acc v : Nat} (h : val acc r = some v) : acc ≤ v := by
  have := val_ge r acc v h
  exact Nat.le_trans (Nat.le_mul_of_pos_right _ (Nat.pow_pos (by omega))) this
theorem val_lt : ∀ (r : List UInt8) (acc v : Nat), val acc r = some v → v < (acc + 1) * 10 ^ r.length
  | [], acc, v, h => by rw [val] at h; cases h; simp
  | c :: r, acc, v, h => by
    rw [val] at h
    split at h
    · have := val_lt r _ v h
      rw [List.length_cons, Nat.pow_succ, Nat.mul_comm (10 ^ r.length) 10, ← Nat.mul_assoc]
      exact Nat.lt_of_lt_of_le this (Nat.mul_le_mul_right _ (by omega))
    · cases h
theorem parse_val : ∀ (r : List UInt8) (acc : Nat), acc ≤ 4294967295 → (∀ u, Lib.parseUintM 4294967295 acc r = .ok u → val acc r = some u ∧ u ≤ 4294967295) ∧ (∀ v, val acc r = some v → v ≤ 4294967295 → Lib.parseUintM 4294967295 acc r = .ok v)
  | [], acc, h => ⟨fun u hu => by rw [Lib.parseUintM] at hu; cases hu; exact ⟨rfl, h⟩, fun v hv hle => by rw [val] at hv; cases hv; rfl⟩
  | c :: r, acc, h => by
    rw [Lib.parseUintM, val]
    by_cases hc : 48 ≤ c.toNat ∧ c.toNat ≤ 57
    · rw [if_pos hc, if_pos hc, if_neg (by omega)]
      by_cases hM : 4294967295 < acc * 10 + (c.toNat - 48)
      · rw [if_pos hM]
        refine ⟨fun u hu => (by cases hu), fun v hv hle => ?_⟩
        have := val_le hv
        omega
      · rw [if_neg hM]
        exact parse_val r _ (by omega)
    · rw [if_neg hc, if_neg hc]
      exact ⟨fun u hu => (by cases hu), fun v hv => (by cases hv)⟩
theorem pn_val (s : ByteArray) (h1 : s.data.toList ≠ []) (h0 : s.get! 0 ≠ 48) (hst : s.data.toList ≠ [42]) :
    pn s = (val 0 s.data.toList).bind fun v => if v ≤ 4294967295 then some v else none := by
  have hB : Lib.parseUintB 32 s.data.toList = Lib.parseUintM 4294967295 0 s.data.toList := by unfold Lib.parseUintB; rw [if_neg h1]
  obtain ⟨p1, p2⟩ := parse_val s.data.toList 0 (by omega)
  unfold pn
  rw [hB]
  cases hq : Lib.parseUintM 4294967295 0 s.data.toList with
  | ok u =>
    obtain ⟨a, b⟩ := p1 u hq
    simp only [a, Option.bind_some, if_pos b, if_neg h0]
  | _ =>
    simp only [if_neg hst]
    cases hv : val 0 s.data.toList with
    | none => rfl
    | some v =>
      by_cases hle : v ≤ 4294967295
      · rw [p2 v hv hle] at hq; cases hq
      · simp only [Option.bind_some, if_neg hle]
theorem pn_none (s : ByteArray) (h : s.data.toList = [] ∨ s.get! 0 = 48) : s.data.toList ≠ [42] → pn s = none := by
  intro hst
  unfold pn
  rcases h with h | h
  · have hB : Lib.parseUintB 32 s.data.toList = Lib.parseUintB 32 [] := by rw [h]
    rw [hB]
    show (if s.data.toList = [42] then some 0 else none) = none
    rw [if_neg hst]
  · split
    · rw [if_pos h]
    · rw [if_neg hst]
theorem n9_loop (s : ByteArray) (hs : s.size ≤ 10) : ∀ (d i acc : Nat), s.size - i = d → i ≤ s.size → acc < 10 ^ i → ∃ k, spec_number9.l0 k s (acc : Int) (s.size : Int) (i : Int) =
    some (match val acc (s.data.toList.drop i) with | some v => (((v % 4294967296 : Nat) : Int), decide (v < 4294967296)) | none => (0, false))
  | 0, i, acc, hd, hi, ha => by
    refine ⟨1, ?_⟩
    rw [List.drop_eq_nil_of_le (by rw [← size_list]; omega), val]
    simp only [spec_number9.l0]
    rw [if_neg (by omega)]
    have h10 : acc < 18446744073709551616 := Nat.lt_of_lt_of_le ha (Nat.le_trans (Nat.pow_le_pow_right (by omega) (show i ≤ 10 by omega)) (by decide))
    have e1 : ((acc : Int)) % 4294967296 = ((acc % 4294967296 : Nat) : Int) := by omega
    have e2 : decide ((acc : Int) < 4294967296) = decide (acc < 4294967296) := by rw [Bool.eq_iff_iff, decide_eq_true_eq, decide_eq_true_eq]; omega
    rw [e1, e2]
  | d + 1, i, acc, hd, hi, ha => by
    have hlt : i < s.size := by omega
    have hil : i < s.data.toList.length := by rw [← size_list]; exact hlt
    have hb := bt_nat s i hlt
    rw [List.drop_eq_getElem_cons hil, val]
    obtain ⟨c, hc⟩ : ∃ c, s.data.toList[i] = c := ⟨_, rfl⟩
    rw [hc] at hb ⊢
    by_cases hdg : 48 ≤ c.toNat ∧ c.toNat ≤ 57
    · rw [if_pos hdg]
      have hacc : acc * 10 + (c.toNat - 48) < 10 ^ (i + 1) := by rw [Nat.pow_succ]; omega
      have h10 : 10 ^ (i + 1) ≤ 10000000000 := Nat.pow_le_pow_right (by omega) (show i + 1 ≤ 10 by omega)
      obtain ⟨k, hk⟩ := n9_loop s hs d (i + 1) (acc * 10 + (c.toNat - 48)) (by omega) (by omega) hacc
      refine ⟨k + 1, ?_⟩
      simp only [spec_number9.l0]
      rw [if_pos (by omega), if_pos (by omega), if_pos (by omega), hb, if_neg (by omega), if_neg (by omega)]
      have e1 : IntKind.u64.wrap (IntKind.u64.wrap ((acc : Int) * 10) + (((c.toNat : Int) - 48) % 256)) = ((acc * 10 + (c.toNat - 48) : Nat) : Int) := by
        rw [IntKind.wrap_u64, IntKind.wrap_u64]; omega
      rw [e1, wrap_succ (by omega)]
      exact hk
    · rw [if_neg hdg]
      refine ⟨1, ?_⟩
      simp only [spec_number9.l0]
      rw [if_pos (by omega), if_pos (by omega), if_pos (by omega), hb]
      by_cases h1 : (c.toNat : Int) < 48
      · rw [if_pos h1]
      · rw [if_neg h1, if_pos (by omega)]
theorem get0 (s : ByteArray) (h : 0 < s.size) : ∃ c r, s.data.toList = c :: r ∧ s.get! 0 = c ∧ bt s 0 = (c.toNat : Int) := by
  have hl : 0 < s.data.toList.length := by rw [← size_list]; exact h
  match hq : s.data.toList, hl with
  | c :: r, _ =>
    refine ⟨c, r, rfl, ?_, bt_some s 0 c (by rw [hq]; rfl)⟩
    have := get_list s 0 h
    rw [hq] at this
    simpa using this.symm
/-- What number9 says of a text that is no asterisk is what the code parses. -/
theorem number9_tells (s : ByteArray) (hst : s.data.toList ≠ [42]) : ∃ (k n : Nat) (ok : Bool), spec_number9.f k s = some ((n : Int), ok) ∧ ok = (pn s).isSome ∧ (ok = true → pn s = some n) := by
  by_cases h0 : s.size = 0
  · have hl : s.data.toList = [] := List.eq_nil_of_length_eq_zero (by rw [← size_list]; exact h0)
    refine ⟨1, 0, false, ?_, ?_, fun h => by cases h⟩
    · unfold spec_number9.f
      rw [if_pos (by rw [Lib.toList_data]; exact hl)]
      rfl
    · rw [pn_none s (.inl hl) hst]; rfl
  · obtain ⟨c, r, hl, hg, hb⟩ := get0 s (by omega)
    have hne : s.toList ≠ ([] : List UInt8) := by rw [Lib.toList_data, hl]; simp
    by_cases h48 : c.toNat = 48
    · have hc : c = 48 := by apply UInt8.toNat_inj.1; rw [h48]; rfl
      refine ⟨1, 0, false, ?_, ?_, fun h => by cases h⟩
      · unfold spec_number9.f
        rw [if_neg hne, if_pos (by omega), hb, if_pos (by omega)]
        rfl
      · rw [pn_none s (.inr (by rw [hg, hc])) hst]; rfl
    · have hpn := pn_val s (by rw [hl]; simp) (by rw [hg]; intro e; exact h48 (by rw [e]; rfl)) hst
      by_cases h10 : s.size ≤ 10
      · obtain ⟨k, hk⟩ := n9_loop s h10 s.size 0 0 (by omega) (by omega) (by simp)
        rw [List.drop_zero] at hk
        have hf : spec_number9.f (k + 1) s = spec_number9.l0 k s ((0 : Nat) : Int) (s.size : Int) ((0 : Nat) : Int) := by
          unfold spec_number9.f
          rw [if_neg hne, if_pos (by omega), hb, if_neg (by omega), show decide ((s.size : Int) > 10) = false from decide_eq_false (by omega)]
          simp only [spec_number9.j0]
          rw [if_neg (by decide)]
          rfl
        cases hv : val 0 s.data.toList with
        | none =>
          rw [hv] at hk hpn
          refine ⟨k + 1, 0, false, hf.trans hk, by rw [hpn]; rfl, fun h => by cases h⟩
        | some v =>
          rw [hv] at hk hpn
          refine ⟨k + 1, v % 4294967296, decide (v < 4294967296), hf.trans hk, ?_, fun h => ?_⟩
          · rw [hpn]
            by_cases hle : v ≤ 4294967295
            · simp only [Option.bind_some, if_pos hle, Option.isSome_some]; exact decide_eq_true (by omega)
            · simp only [Option.bind_some, if_neg hle, Option.isSome_none]; exact decide_eq_false (by omega)
          · have hlt := of_decide_eq_true h
            rw [hpn]
            simp only [Option.bind_some, if_pos (show v ≤ 4294967295 by omega)]
            congr 1; omega
      · refine ⟨1, 0, false, ?_, ?_, fun h => by cases h⟩
        · unfold spec_number9.f
          rw [if_neg hne, if_pos (by omega), hb, if_neg (by omega), show decide ((s.size : Int) > 10) = true from decide_eq_true (by omega)]
          rfl
        · rw [hpn]
          cases hv : val 0 s.data.toList with
          | none => rfl
          | some v =>
            have hbig : 4294967295 < v := by
              rw [hl, val] at hv
              split at hv
              · have h2 := val_ge r _ v hv
                have h3 : 10 ^ 10 ≤ 10 ^ r.length := Nat.pow_le_pow_right (by omega) (by rw [size_list, hl, List.length_cons] at h10; omega)
                have h4 : 1 * 10 ^ r.length ≤ (0 * 10 + (c.toNat - 48)) * 10 ^ r.length := Nat.mul_le_mul_right _ (by omega)
                omega
              · cases hv
            simp only [Option.bind_some, if_neg (show ¬ v ≤ 4294967295 by omega)]
            rfl
theorem pn_star {s : ByteArray} (h : s.data.toList = [42]) : pn s = some 0 := by
  unfold pn
  rw [show Lib.parseUintB 32 s.data.toList = Lib.parseUintB 32 [] by rw [h]; rfl]
  show (if s.data.toList = [42] then some 0 else none) = some 0
  rw [if_pos h]
/-- The number of a part, as the reference says it: what the code parses. -/
def OneIs (s : ByteArray) (w : World) (e : Ending) (w' : World) : Prop := ∃ (n : Nat) (ok : Bool), e = .returned (.tuple #[.int .u32 (n : Int), .bool ok]) ∧ ok = (pn s).isSome ∧ (ok = true → pn s = some n) ∧ Below w.heap.size w w'
theorem one9_any (s : ByteArray) (hs : s.size ≤ 1000000) (w : World) : Calls Tryd.prog 43 #[.string s] w (OneIs s w) := by
  by_cases hst : s.data.toList = [42]
  · have hh : s.toList = [42] := by rw [Lib.toList_data]; exact hst
    have hfin : OneIs s w (.returned (.tuple #[.int .u32 0, .bool true])) w := ⟨0, true, rfl, by rw [pn_star hst]; rfl, fun _ => pn_star hst, Below.refl _ _⟩
    have hb : (s.toList == [42]) = true := by rw [hh]; rfl
    replace hfin := Lib.hid hfin
    clear hst hh
    go_enter Tryd.func43, Tryd.ntmps43
    go_wp2_with fail
    go_ret2
    exact hfin.out
  · have hb : (s.toList == [42]) = false := by rw [beq_eq_false_iff_ne, Lib.toList_data]; exact hst
    obtain ⟨k, n, ok, h1, h2, h3⟩ := number9_tells s hst
    have hc := Lib.hid (spec_number9.calls k s (n : Int) ok w h1)
    have h2' := Lib.hid h2
    have h3' := Lib.hid h3
    clear h1 h2 h3 hst
    go_enter Tryd.func43, Tryd.ntmps43
    go_wp2_with fail
    refine (hc.out).mono ?_
    rintro e w1 ⟨rfl, hd⟩
    have hd := Lib.hid hd
    go_wp2_with fail
    go_ret2
    exact ⟨n, ok, rfl, h2'.out, h3'.out, hd.out.below⟩
end Go.Proofs.YtajifebphcgcpaaDoor.Own

namespace Go.Proofs.YtajifebphcgcpaaDoor.Own
open Go.RowKit Go.Lib Sets
set_option linter.unusedVariables false
set_option linter.unusedSimpArgs false

def Cell2i (N : Nat) (x y : Int) (w : World) : Prop := w.heap[N]? = some (.cells #[.int .u32 x, .int .u32 y] 24 (0, 0))
theorem Cell2i.below {N : Nat} {x y : Int} {w w' : World} (h : Cell2i N x y w) (hb : Below w.heap.size w w') : Cell2i N x y w' := (hb.block N (Array.getElem?_eq_some_iff.1 h).1).trans h
theorem Cell2i.c0 {N : Nat} {x y : Int} {w : World} (h : Cell2i N x y w) : w.cell? ⟨N, 0, none⟩ = some (.int .u32 x) := cell_of_row w N 0 _ _ _ h
theorem Cell2i.c1 {N : Nat} {x y : Int} {w : World} (h : Cell2i N x y w) : w.cell? ⟨N, 1, none⟩ = some (.int .u32 y) := cell_of_row w N 1 _ _ _ h
theorem Cell2i.f {N : Nat} {x y : Int} {w : World} (h : Cell2i N x y w) (j : Nat) : w.frozen? ⟨N, j, none⟩ = false := frozen_of_row w N j _ _ h
theorem range9_tells' (a b : Nat) : PFnSeqOf.spec_Range9.f (a : Int) (b : Int) = some (((rng a b).1 : Int), ((rng a b).2 : Int)) := by
  unfold PFnSeqOf.spec_Range9.f rng
  by_cases h1 : a = 0
  · rw [if_pos (by omega), if_pos (.inl h1)]
  · rw [if_neg (by omega)]
    by_cases h2 : b = 0
    · rw [if_pos (by omega), if_neg (by omega)]
    · rw [if_neg (by omega)]
      by_cases h3 : b < a
      · rw [if_pos (by omega), if_pos (.inr ⟨h2, h3⟩)]
      · rw [if_neg (by omega), if_neg (by omega)]
theorem range9_any (a b : Nat) (w : World) : Calls Tryd.prog 7 #[.int .u32 (a : Int), .int .u32 (b : Int)] w fun e w' => e = .returned (.agg #[.int .u32 ((rng a b).1 : Int), .int .u32 ((rng a b).2 : Int)]) ∧ Below w.heap.size w w' :=
  PFnSeqOf.spec_Range9.calls (a : Int) (b : Int) _ _ w (range9_tells' a b)
def PartIs (s : ByteArray) (w : World) (e : Ending) (w' : World) : Prop := ∃ (x y : Nat) (ok : Bool), e = .returned (.tuple #[.agg #[.int .u32 (x : Int), .int .u32 (y : Int)], .bool ok]) ∧ ok = (ps s).isSome ∧ (ok = true → ps s = some (x, y)) ∧ Below w.heap.size w w'

set_option maxHeartbeats 2000000 in
set_option maxRecDepth 100000 in
theorem part9_any (s : ByteArray) (hs : s.size ≤ 1000000) (w : World) :
    Calls Tryd.prog 29 #[.string s] w (PartIs s w) := by
  obtain ⟨W0, hW0⟩ : ∃ W0, w.alloc (.cells #[.int .u32 0, .int .u32 0] 24) = W0 := ⟨_, rfl⟩
  have hb0 := Lib.hid (show Below w.heap.size w W0 by rw [← hW0]; exact (Below.refl _ _).alloc (Nat.le_refl _) _)
  have hC0 := Lib.hid (show Cell2i w.heap.size 0 0 W0 by rw [← hW0]; exact heap_alloc_new _ _)
  go_enter Tryd.func29, Tryd.ntmps29
  go_wp2_with fail
  clear hW0
  go_loop [14] (fun s14 => ∃ j : Nat, j ≤ s.size ∧ s14 = .int .i64 (j : Int) ∧ Hid (NoCol s j)) (fun s14 => s.size - (RowKit.intOf s14).toNat)
  case atStart => exact ⟨0, Nat.zero_le _, rfl, fun j h => absurd h (Nat.not_lt_zero j)⟩
  case round =>
    obtain ⟨j, hj, rfl, hno⟩ := hrel
    rcases Nat.lt_or_ge j s.size with hlt | hge
    · have hget : s[j]'hlt = s.get! j := by simp [ByteArray.get!, getElem!_pos, hlt]; rfl
      by_cases hc : s.get! j = 58
      · have hcol := Lib.hid (colIdx_hit s j hlt hno.out hc)
        have hb58 : (((s[j]'hlt).toNat : Int) != 58) = false := by rw [hget, hc]; rfl
        have h1 := Lib.hid (fun W => one9_any (s.extract 0 j) (by simp; omega) W)
        have h2 := Lib.hid (fun W => one9_any (s.extract (j + 1) s.size) (by simp; omega) W)
        have hps := Lib.hid (show ps s = (match pn (s.extract 0 j) with | none => none | some a => match pn (s.extract (j + 1) s.size) with | none => none | some b => some (rng a b)) by unfold ps; rw [hcol.out, if_neg (by omega), Int.toNat_natCast]; rfl)
        have hr9 := Lib.hid (fun a b W => range9_any a b W)
        have hwr : IntKind.i64.wrap ((j : Int) + 1) = (j : Int) + 1 := by rw [IntKind.wrap_i64]; omega
        clear hget hc hno
        go_wp2_with fail
        refine (h1.out _).mono ?_
        rintro e w1 ⟨n1, ok1, rfl, h11, h12, hb1⟩
        have hC1 := Lib.hid (hC0.out.below hb1)
        have hB1 := Lib.hid (hb0.out.trans (hb1.mono hb0.out.size))
        replace h11 := Lib.hid h11
        replace h12 := Lib.hid h12
        clear hb1
        go_wp2_with fail
        refine (h2.out _).mono ?_
        rintro e w2 ⟨n2, ok2, rfl, h21, h22, hb2⟩
        have hC2 := Lib.hid (hC1.out.below hb2)
        have hB2 := Lib.hid (hB1.out.trans (hb2.mono hB1.out.size))
        replace h21 := Lib.hid h21
        replace h22 := Lib.hid h22
        clear hb2
        go_wp2_with fail
        refine (hr9.out n1 n2 _).mono ?_
        rintro e w3 ⟨rfl, hb3⟩
        have hC3 := hC2.out.below hb3
        have hB3 := Lib.hid (hB2.out.trans (hb3.mono hB2.out.size))
        have hc0 := hC3.c0
        have hc1 := hC3.c1
        have hf0 := hC3.f 0
        have hf1 := hC3.f 1
        obtain ⟨x, y, hxy⟩ : ∃ x y, rng n1 n2 = (x, y) := ⟨_, _, rfl⟩
        have hxy' := Lib.hid hxy
        rw [hxy]
        clear hC3 hb3 hxy
        have hB4 := Lib.hid (show Below w.heap.size w ((w3.setCell ⟨w.heap.size, 0, none⟩ (.int .u32 (x : Int))).setCell ⟨w.heap.size, 1, none⟩ (.int .u32 (y : Int))) from (hB3.out.setCell (Nat.le_refl _) _).setCell (Nat.le_refl _) _)
        have hfin : (ok1 && ok2) = (ps s).isSome ∧ ((ok1 && ok2) = true → ps s = some (x, y)) := by
          rw [hps.out]
          cases ho1 : ok1 with
          | false =>
            have e1 := h11.out
            rw [ho1] at e1
            cases hq : pn (s.extract 0 j) with
            | none => exact ⟨rfl, fun h => by cases h⟩
            | some a => rw [hq] at e1; cases e1
          | true =>
            have e1 := h12.out ho1
            rw [e1]
            cases ho2 : ok2 with
            | false =>
              have e2 := h21.out
              rw [ho2] at e2
              cases hq : pn (s.extract (j + 1) s.size) with
              | none => exact ⟨rfl, fun h => by cases h⟩
              | some a => rw [hq] at e2; cases e2
            | true =>
              have e2 := h22.out ho2
              rw [e2]
              exact ⟨rfl, fun _ => by show some (rng n1 n2) = _; rw [hxy'.out]⟩
        obtain ⟨ok, hok⟩ : ∃ ok, (ok1 && ok2) = ok := ⟨_, rfl⟩
        rw [hok] at hfin
        have hfin' := Lib.hid hfin
        have hokv : ok = if ok1 = true then ok2 else false := by rw [← hok]; cases ok1 <;> rfl
        clear hfin
        cases ok1 with
        | true =>
          have : ok2 = ok := by rw [← hok]; rfl
          subst this
          clear hok hokv
          go_wp2_with fail
          (try simp only [Exit.inBlock, Exit.then])
          refine bodyPost_ret (v := .tuple #[.agg #[.int .u32 (x : Int), .int .u32 (y : Int)], .bool ok2]) ?_ rfl ⟨x, y, ok2, rfl, hfin'.out.1, hfin'.out.2, hB4.out⟩
          rw [results_cell_tmp rfl]
          go_simp
        | false =>
          have : ok = false := by rw [← hok]; rfl
          subst this
          clear hok hokv
          go_wp2_with fail
          (try simp only [Exit.inBlock, Exit.then])
          refine bodyPost_ret (v := .tuple #[.agg #[.int .u32 (x : Int), .int .u32 (y : Int)], .bool false]) ?_ rfl ⟨x, y, false, rfl, hfin'.out.1, hfin'.out.2, hB4.out⟩
          rw [results_cell_tmp rfl]
          go_simp
      · have hno2 := Lib.hid (show NoCol s (j + 1) from fun q hq => by
          rcases Nat.lt_or_ge q j with h | h
          · exact hno.out q h
          · rw [show q = j by omega]; exact hc)
        have hb58 : (((s[j]'hlt).toNat : Int) != 58) = true := by
          rw [hget, bne_iff_ne]
          intro h
          exact hc (by apply UInt8.toNat_inj.1; show _ = 58; omega)
        clear hget hc hno
        go_wp2_with fail
        go_round
        case rel => exact ⟨j + 1, by omega, by go_num, hno2⟩
        case measure => simp [RowKit.intOf]; omega
    · obtain rfl : j = s.size := by omega
      have hcol := Lib.hid (colIdx_none s hno.out)
      have h1 := Lib.hid (fun W => one9_any s hs W)
      have hps := Lib.hid (show ps s = (pn s).map fun n => (n, n) by unfold ps; rw [hcol.out]; rfl)
      clear hno
      go_wp2_with fail
      refine (h1.out _).mono ?_
      rintro e w1 ⟨n, ok, rfl, h11, h12, hb1⟩
      have hC1 := hC0.out.below hb1
      have hB1 := Lib.hid (hb0.out.trans (hb1.mono hb0.out.size))
      have hc0 := hC1.c0
      have hc1 := hC1.c1
      have hf0 := hC1.f 0
      have hf1 := hC1.f 1
      have hfin : ok = (ps s).isSome ∧ (ok = true → ps s = some (n, n)) := by
        rw [hps.out]
        refine ⟨?_, fun h => ?_⟩
        · rw [h11, Option.isSome_map]
        · rw [h12 h]; rfl
      have hfin' := Lib.hid hfin
      have hB4 := Lib.hid (show Below w.heap.size w ((w1.setCell ⟨w.heap.size, 0, none⟩ (.int .u32 (n : Int))).setCell ⟨w.heap.size, 1, none⟩ (.int .u32 (n : Int))) from (hB1.out.setCell (Nat.le_refl _) _).setCell (Nat.le_refl _) _)
      clear hfin h11 h12 hC1 hb1
      go_wp2_with fail
      (try simp only [Exit.inBlock, Exit.then])
      refine bodyPost_ret (v := .tuple #[.agg #[.int .u32 (n : Int), .int .u32 (n : Int)], .bool ok]) ?_ rfl ⟨n, n, ok, rfl, hfin'.out.1, hfin'.out.2, hB4.out⟩
      rw [results_cell_tmp rfl]
      go_simp
end Go.Proofs.YtajifebphcgcpaaDoor.Own

namespace Go.Proofs.YtajifebphcgcpaaDoor.Own
open Go.RowKit Go.Lib Sets
set_option linter.unusedVariables false
set_option linter.unusedSimpArgs false

theorem info_iseq : (Tryd.prog.info? 24).map (fun i => (i.zero, i.size, i.bytes)) = some (some (.agg #[.int .u32 0, .int .u32 0]), 2, 8) := by kernel_rfl
/-- The row of a slice of the reference's ranges. -/
def RowI (w : World) (base : Nat) (v : Value) (l : List Rg) : Prop := w.ownsRow base 24 2 v l.length (flat l)
theorem RowI.nil (w : World) (base : Nat) : RowI w base (.slice none 0 0) [] := World.ownsRow_nil _ _ _ _
theorem RowI.form {w : World} {base : Nat} {v : Value} {l : List Rg} (h : RowI w base v l) : (v = .slice none 0 0 ∧ l = []) ∨ ∃ g cap, v = .slice (some ⟨g, 0, none⟩) l.length cap ∧ base ≤ g ∧ g < w.heap.size ∧ l.length ≤ cap := by
  rcases h.2 with ⟨h1, h0⟩ | ⟨g, cap, cur, hv, hb, hg, hc, _⟩
  · exact .inl ⟨h1, List.eq_nil_of_length_eq_zero h0⟩
  · exact .inr ⟨g, cap, hv, hb, (Array.getElem?_eq_some_iff.1 hg).1, hc⟩
theorem RowI.below {w w' : World} {base : Nat} {v : Value} {l : List Rg} (h : RowI w base v l) (hb : Below w.heap.size w w') : RowI w' base v l   := Go.Proofs.YtajifebphcgcpaaDoorW.PrintWords.own_move h fun k hk => hb.block k (World.ownsRow.lt h k hk).2
theorem RowI.cell {w : World} {base g n cap : Nat} {l : List Rg} (h : RowI w base (.slice (some ⟨g, 0, none⟩) n cap) l) (i : Nat) (hi : i < l.length) :
    w.cell? ⟨g, i * 2, none⟩ = some (.int .u32 ((l.getD i d0).1 : Int)) ∧ w.cell? ⟨g, i * 2 + 1, none⟩ = some (.int .u32 ((l.getD i d0).2 : Int)) := by
  have hn : n = l.length := by
    rcases h.form with ⟨h1, _⟩ | ⟨g', cap', hv, _⟩
    · simp at h1
    · simp only [Value.slice.injEq] at hv; exact hv.2.1
  subst hn
  rw [World.ownsRow.cellAt h (i * 2) (by omega), World.ownsRow.cellAt h (i * 2 + 1) (by omega)]
  exact flat_at l i hi
open PFnSeqOf in
def enc24 (x : Rg) : PFnSeqOf.S24 := ⟨(x.1 : Int), (x.2 : Int)⟩
open Go.Proofs.YtajifebphcgcpaaDoorW.PrintWords in
theorem RowI.reads {w : World} {base : Nat} {v : Value} {l : List Rg} (h : RowI w base v l) (hm : l.length ≤ 1000000) : ∃ A c, v = .slice A (l.map enc24).length c ∧ (l.map enc24).length ≤ c ∧ Kd.C PFnSeqOf.k24 w A (l.map enc24).length (l.map enc24) := by
  rcases h.form with ⟨rfl, rfl⟩ | ⟨g, cap, rfl, _, _, hc⟩
  · exact ⟨none, 0, rfl, Nat.le_refl _, Kd.C_nil _ _⟩
  · refine ⟨_, cap, by rw [List.length_map], by rw [List.length_map]; exact hc, ?_⟩
    refine ⟨rfl, by rw [List.length_map]; omega, fun _ => ⟨_, rfl, fun j p hj => ?_⟩⟩
    have hjl : j < l.length := by
      have := (List.getElem?_eq_some_iff.1 hj).1
      simpa using this
    have hp : p = enc24 (l.getD j d0) := by
      rw [List.getElem?_map, List.getElem?_eq_getElem hjl] at hj
      rw [List.getD_eq_getElem?_getD, List.getElem?_eq_getElem hjl]
      simpa using hj.symm
    subst hp
    obtain ⟨h1, h2⟩ := h.cell j hjl
    refine ⟨_, rfl, PFnSeqOf.k24_mk w _, fun i u hu => ?_⟩
    have hadd : ∀ k, (⟨g, 0, none⟩ : Addr).add k = ⟨g, k, none⟩ := fun k => by unfold Addr.add; split <;> simp_all
    rw [hadd]
    match i, hu with
    | 0, hu => simp at hu; subst hu; exact h1
    | 1, hu => simp at hu; subst hu; exact h2
    | i + 2, hu => simp at hu
theorem cmFrom_all (s : ByteArray) : ∀ (d i : Nat), s.size + 1 - i ≤ d → (cmFrom s d i = -1 → ∀ j, i ≤ j → j < s.size → s.get! j ≠ 44) ∧ (∀ k : Nat, cmFrom s d i = (k : Int) → s.get! k = 44 ∧ ∀ j, i ≤ j → j < k → s.get! j ≠ 44)
  | 0, i, h => ⟨fun _ j h1 h2 => by omega, fun k hk => by rw [cmFrom] at hk; omega⟩
  | d + 1, i, h => by
    rw [cmFrom]
    by_cases hlt : i < s.size
    · rw [if_pos hlt]
      by_cases hc : s.get! i = 44
      · rw [if_pos hc]
        refine ⟨fun h => by omega, fun k hk => ?_⟩
        obtain rfl : i = k := by omega
        exact ⟨hc, fun j h1 h2 => by omega⟩
      · rw [if_neg hc]
        obtain ⟨p1, p2⟩ := cmFrom_all s d (i + 1) (by omega)
        refine ⟨fun hm j h1 h2 => ?_, fun k hk => ⟨(p2 k hk).1, fun j h1 h2 => ?_⟩⟩
        · by_cases e : j = i
          · rw [e]; exact hc
          · exact p1 hm j (by omega) h2
        · by_cases e : j = i
          · rw [e]; exact hc
          · exact (p2 k hk).2 j (by omega) h2
    · rw [if_neg hlt]
      exact ⟨fun _ j h1 h2 => by omega, fun k hk => by omega⟩
theorem cm_none {s : ByteArray} (h : cm s = -1) : ∀ j, j < s.size → s.get! j ≠ 44 := fun j hj => (cmFrom_all s (s.size + 1 + 1) 0 (by omega)).1 h j (Nat.zero_le _) hj
theorem cm_some {s : ByteArray} {k : Nat} (h : cm s = (k : Int)) : s.get! k = 44 ∧ ∀ j, j < k → s.get! j ≠ 44 :=
  ⟨((cmFrom_all s (s.size + 1 + 1) 0 (by omega)).2 k h).1, fun j hj => ((cmFrom_all s (s.size + 1 + 1) 0 (by omega)).2 k h).2 j (Nat.zero_le _) hj⟩
theorem ext_all (s : ByteArray) : s.extract 0 s.size = s := by
  apply ba_ext
  rw [ext_list, List.drop_zero, Nat.sub_zero, List.take_of_length_le (by rw [size_list]; exact Nat.le_refl _)]
theorem splitN_one {n : Nat} {s : ByteArray} (h : cm s = -1) : splitN n s = [s] := by
  cases n with
  | zero => rfl
  | succ n => rw [splitN, if_pos (by rw [h]; decide)]
def PartsIs (s : ByteArray) (w : World) (e : Ending) (w' : World) : Prop := ∃ v, e = .returned (.tuple #[v, .bool (upto (parts s)).2]) ∧ RowI w' w.heap.size v (upto (parts s)).1 ∧ Below w.heap.size w w' ∧ ((upto (parts s)).1 = [] → v = .slice none 0 0)

set_option maxHeartbeats 2000000 in
set_option maxRecDepth 100000 in
theorem parts9_any (s : ByteArray) (hs : s.size ≤ 100000) (w : World) :
    Calls Tryd.prog 15 #[.string s] w (PartsIs s w) := by
  obtain ⟨i0, hi0, hz0, hz1, hz2⟩ := info_parts info_iseq
  go_enter Tryd.func15, Tryd.ntmps15
  go_wp2_with fail
  go_loopw [0, 4] (fun s0 s4 wr => ∃ (n : Nat) (cur : ByteArray) (acc : List Rg) (v : Value), s0 = .string cur ∧ s4 = v ∧ cur.size ≤ n ∧ cur.size ≤ 100000 ∧ acc.length + n ≤ s.size ∧ Hid (upto (parts s) = (acc ++ (upto (splitN n cur)).1, (upto (splitN n cur)).2)) ∧ Hid (RowI wr w.heap.size v acc) ∧ Hid (Below w.heap.size w wr) ∧ Hid (acc = [] → v = .slice none 0 0)) (fun s0 _ _ => match s0 with | .string t => t.size | _ => 0)
  case atStart => exact ⟨s.size, s, [], .slice none 0 0, rfl, rfl, Nat.le_refl _, hs, by simp, rfl, RowI.nil _ _, Below.refl _ _, fun _ => rfl⟩
  case round =>
    obtain ⟨wx, hwx⟩ : ∃ wx : World, wx = wr := ⟨_, rfl⟩
    rw [← hwx] at hrel ⊢
    clear hwx
    obtain ⟨n, cur, acc, v, rfl, rfl, hcn, hcs, han, hR, hown, hb, hnil⟩ := hrel
    have hal : acc.length ≤ 100000 := by omega
    obtain ⟨k, hk, hno, hp⟩ : ∃ (k : Nat), k ≤ cur.size ∧ (∀ j, j < k → cur.get! j ≠ 44) ∧ ((cm cur = -1 ∧ k = cur.size) ∨ (cm cur = (k : Int) ∧ k < cur.size ∧ cur.get! k = 44)) := by
      rcases cm_cases cur with h | ⟨k, h, hlt⟩
      · exact ⟨cur.size, Nat.le_refl _, cm_none h, .inl ⟨h, rfl⟩⟩
      · exact ⟨k, Nat.le_of_lt hlt, (cm_some h).2, .inr ⟨h, hlt, (cm_some h).1⟩⟩
    have hno' := Lib.hid hno
    have hp' := Lib.hid hp
    have hpart := Lib.hid (fun W => part9_any (cur.extract 0 k) (by simp; omega) W)
    clear hno hp
    go_wp2_with fail
    go_loop [5] (fun s5 => ∃ j : Nat, s5 = .int .i64 (j : Int) ∧ j ≤ k) (fun s5 => k - (RowKit.intOf s5).toNat)
    case atStart => exact ⟨0, rfl, Nat.zero_le _⟩
    case round =>
      obtain ⟨j, rfl, hj⟩ := hrel
      rcases Nat.lt_or_ge j k with hjk | hjk
      · have hlt : j < cur.size := by omega
        have hb44 : (((cur[j]'hlt).toNat : Int) != 44) = true := by
          have hget : cur[j]'hlt = cur.get! j := by simp [ByteArray.get!, getElem!_pos, hlt]; rfl
          rw [hget, bne_iff_ne]
          intro h
          exact hno'.out j hjk (by apply UInt8.toNat_inj.1; show _ = 44; omega)
        go_wp2_with fail
        go_round
        case rel => exact ⟨j + 1, by go_num, by omega⟩
        case measure => simp [RowKit.intOf]; omega
      · obtain rfl : j = k := by omega
        clear hjk
        have hsplit : ∃ rest, splitN n cur = cur.extract 0 j :: rest ∧ ((cm cur = -1 ∧ j = cur.size ∧ rest = []) ∨ (cm cur = (j : Int) ∧ j < cur.size ∧ cur.get! j = 44 ∧ ∃ n', n = n' + 1 ∧ rest = splitN n' (cur.extract (j + 1) cur.size))) := by
          rcases hp'.out with ⟨h1, h2⟩ | ⟨h1, h2, h3⟩
          · exact ⟨[], by rw [splitN_one h1, h2, ext_all], .inl ⟨h1, h2, rfl⟩⟩
          · obtain ⟨n', rfl⟩ : ∃ n', n = n' + 1 := ⟨n - 1, by omega⟩
            exact ⟨_, by rw [splitN, if_neg (by rw [h1]; omega), h1, Int.toNat_natCast], .inr ⟨h1, h2, h3, n', rfl, rfl⟩⟩
        obtain ⟨rest, hsp, hcase⟩ := hsplit
        have hR2 := hR.out
        rw [hsp, upto] at hR2
        replace hR2 := Lib.hid hR2
        replace hcase := Lib.hid hcase
        clear hsp
        have htest : decide ((j : Int) < (cur.size : Int)) = false ∨ (decide ((j : Int) < (cur.size : Int)) = true ∧ ∃ hlt : j < cur.size, (((cur[j]'hlt).toNat : Int) != 44) = false) := by
          rcases hcase.out with ⟨h1, h2, _⟩ | ⟨h1, h2, h3, _⟩
          · exact .inl (decide_eq_false (by omega))
          · refine .inr ⟨decide_eq_true (by omega), h2, ?_⟩
            have hget : cur[j]'h2 = cur.get! j := by simp [ByteArray.get!, getElem!_pos, h2]; rfl
            rw [hget, h3]; rfl
        rcases htest with hd1 | ⟨hd1, hlt, hd2⟩
        all_goals
          have hd1n : decide (j < cur.size) = decide ((j : Int) < (cur.size : Int)) := by rw [Bool.eq_iff_iff, decide_eq_true_eq, decide_eq_true_eq]; omega
          rw [hd1] at hd1n
          go_wp2_with fail
          refine (hpart.out _).mono ?_
          rintro e w2 ⟨x, y, ok, rfl, h1, h2, hb2⟩
          have hB2 := Lib.hid (hb.out.trans (hb2.mono hb.out.size))
          have hO2 := Lib.hid (hown.out.below hb2)
          have hws : w.heap.size ≤ w2.heap.size := hB2.out.size
          replace h1 := Lib.hid h1
          replace h2 := Lib.hid h2
          clear hb2
          cases ok with
          | false =>
            have hfin : PartsIs s w (.returned (.tuple #[u4, .bool false])) (w2.alloc (.cells #[.int .u32 (x : Int), .int .u32 (y : Int)] 24)) := by
              have hq : ps (cur.extract 0 j) = none := by
                cases hq : ps (cur.extract 0 j) with
                | none => rfl
                | some r => have := h1.out; rw [hq] at this; cases this
              have h3 := hR2.out
              rw [hq] at h3
              refine ⟨u4, by rw [h3], ?_, hB2.out.alloc hws _, fun e => ?_⟩
              · rw [h3]
                show RowI _ _ _ (acc ++ [])
                rw [List.append_nil]
                exact hO2.out.below ((Below.refl _ _).alloc (Nat.le_refl _) _)
              · rw [h3] at e
                exact hnil.out (List.append_eq_nil_iff.1 e).1
            replace hfin := Lib.hid hfin
            clear h1 h2 hws
            go_wp2_with fail
            go_ret2
            exact hfin.out
          | true =>
            have hown1 := Lib.hid ((hO2.out.alloc (.cells #[.int .u32 (x : Int), .int .u32 (y : Int)] 24)).alloc (.cells #[.int .u32 (x : Int), .int .u32 (y : Int)] 24))
            have hnw := Lib.hid (two_new (w2.alloc (.cells #[.int .u32 (x : Int), .int .u32 (y : Int)] 24)) (w2.heap.size + 1) (by simp) (.int .u32 (x : Int)) (.int .u32 (y : Int)) 24)
            have hbA := Lib.hid ((hB2.out.alloc hws (.cells #[.int .u32 (x : Int), .int .u32 (y : Int)] 24)).alloc (show w.heap.size ≤ (w2.alloc (.cells #[.int .u32 (x : Int), .int .u32 (y : Int)] 24)).heap.size by simp; omega) (.cells #[.int .u32 (x : Int), .int .u32 (y : Int)] 24))
            have hmine := Lib.hid (fun k hk => (World.ownsRow.lt hO2.out k hk).1)
            have hq := h2.out rfl
            have h3 := hR2.out
            rw [hq] at h3
            replace h3 := Lib.hid h3
            clear hq h1 h2
            rcases hcase.out with ⟨c1, c2, c3⟩ | ⟨c1, c2, c3, n', c4, c5⟩
            · first
              | (exfalso; have := of_decide_eq_true hd1; omega)
              | (have he1 : ((j : Int) == (cur.size : Int)) = true := by rw [beq_iff_eq]; omega
                 have he2 : (j == cur.size) = true := by rw [beq_iff_eq]; omega
                 have hfin : ∀ (g2 cap2 : Nat) (W : World), RowI W w.heap.size (.slice (some ⟨g2, 0, none⟩) (acc.length + 1) cap2) (acc ++ [(x, y)]) → Below w.heap.size w W → PartsIs s w (.returned (.tuple #[.slice (some ⟨g2, 0, none⟩) (acc.length + 1) cap2, .bool true])) W := fun g2 cap2 W h4 h5 => by
                   have h6 := h3.out
                   rw [c3] at h6
                   exact ⟨_, by rw [h6]; rfl, by rw [h6]; exact h4, h5, fun e => by (rw [h6] at e; simp [upto] at e)⟩
                 replace hfin := Lib.hid hfin
                 clear c1 c2 c3 h3
                 go_wp2_with (at_builtin; refine wpList_append_lies _ rfl (.tmp 30) (.tmp 32) 26 rfl w.heap.size 24 i0 (.agg #[.int .u32 0, .int .u32 0]) 2 8 Tryd.underlying26 hi0 hz0 hz1 hz2 rfl (by decide) u4 acc.length (flat acc) rfl hown1.out ⟨w2.heap.size + 1, 0, none⟩ 1 1 [.int .u32 (x : Int), .int .u32 (y : Int)] rfl rfl hnw.out (two_one' x y) (by decide) (by unfold maxLen; omega) (by omega) (by simp; omega) _ rfl ?_; intro g2 cap2 w3 hown3 hgrow3 hat3 hlt3)
                 have hrow := Lib.hid (show RowI w3 w.heap.size (.slice (some ⟨g2, 0, none⟩) (acc.length + 1) cap2) (acc ++ [(x, y)]) by
                   unfold RowI
                   rw [List.length_append, flat_app]
                   exact hown3)
                 have hb3 := Lib.hid (Below.grown hbA.out hgrow3 (by simp; omega) (fun k e => hmine.out k e))
                 clear hown3 hgrow3 hat3 hlt3
                 go_ret2
                 exact hfin.out _ _ _ hrow.out hb3.out)
            · first
              | (exfalso; have := of_decide_eq_false hd1; omega)
              | (have he1 : ((j : Int) == (cur.size : Int)) = false := by rw [beq_eq_false_iff_ne]; omega
                 have he2 : (j == cur.size) = false := by rw [beq_eq_false_iff_ne]; omega
                 have hR3 := Lib.hid (show upto (parts s) = ((acc ++ [(x, y)]) ++ (upto (splitN n' (cur.extract (j + 1) cur.size))).1, (upto (splitN n' (cur.extract (j + 1) cur.size))).2) by
                   rw [h3.out, c5, List.append_assoc]; rfl)
                 have hsz : (cur.extract (j + 1) cur.size).size = cur.size - (j + 1) := by simp
                 have hwr : IntKind.i64.wrap ((j : Int) + 1) = (j : Int) + 1 := by rw [IntKind.wrap_i64]; omega
                 replace c4 := Lib.hid c4
                 clear c1 c3 c5 h3 hR2 hR
                 go_wp2_with (at_builtin; refine wpList_append_lies _ rfl (.tmp 30) (.tmp 32) 26 rfl w.heap.size 24 i0 (.agg #[.int .u32 0, .int .u32 0]) 2 8 Tryd.underlying26 hi0 hz0 hz1 hz2 rfl (by decide) u4 acc.length (flat acc) rfl hown1.out ⟨w2.heap.size + 1, 0, none⟩ 1 1 [.int .u32 (x : Int), .int .u32 (y : Int)] rfl rfl hnw.out (two_one' x y) (by decide) (by unfold maxLen; omega) (by omega) (by simp; omega) _ rfl ?_; intro g2 cap2 w3 hown3 hgrow3 hat3 hlt3)
                 have hrow := Lib.hid (show RowI w3 w.heap.size (.slice (some ⟨g2, 0, none⟩) (acc.length + 1) cap2) (acc ++ [(x, y)]) by
                   unfold RowI
                   rw [List.length_append, flat_app]
                   exact hown3)
                 have hb3 := Lib.hid (Below.grown hbA.out hgrow3 (by simp; omega) (fun k e => hmine.out k e))
                 have hc4 := c4.out
                 clear hown3 hgrow3 hat3 hlt3 hwr
                 go_roundw
                 case rel => exact ⟨n', cur.extract (j + 1) cur.size, acc ++ [(x, y)], _, rfl, rfl, by omega, by omega, by simp; omega, hR3, hrow, hb3, Lib.hid (fun e => by simp at e)⟩
                 case measure => simp; omega)
end Go.Proofs.YtajifebphcgcpaaDoor.Own
