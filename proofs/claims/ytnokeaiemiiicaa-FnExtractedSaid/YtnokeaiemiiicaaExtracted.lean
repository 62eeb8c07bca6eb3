/- Extracted by hand: ExtractPartial, the closure that calls it, and tried (a deferred recover that finds nothing): a section without a partial gives all bytes, one with a partial so many from a place on. -/
import Derived.Test.YtnokeaiemiiicaaBytes
import Derived.Test.YtnokeaiemiiicaaPlain
import Derived.WalkSpells
import Derived.WalkLawsBesides
import Derived.Tactics
import Derived.Tactics2
import Derived.Defers
import Derived.Recover
import Derived.Laws.Pointers
import Derived.WalkSmall
namespace Go.Proofs.Ytnokeaiemiiicaa.Own
open Go.RowKit
set_option linter.unusedVariables false
set_option linter.unusedSimpArgs false

theorem catch_idle (p : Addr) (w : World) :
    CallsD Try.prog 37 #[.pointer (some p)] .returning w fun e u' w' => e = .returned (.tuple #[]) ∧ u' = .returning ∧ w' = w := by
  refine callsD_of_wpS Try.func37 rfl fun c₀ cs hu => ?_
  apply wpS_seq
  apply wpS_region
  simp [wpOpsS, go_sem, recoverD, hu, Try.ntmps37, Exit.thenS]
  refine wpS_cond (t := false) (by simp [Act.eval, Array.replicate]) ?_
  simp only [Bool.false_eq_true, if_false]
  refine wpS_of_wp (wp_skip ?_)
  cases c₀
  simp_all [bodyPostS, results, Try.results37]

set_option maxHeartbeats 400000 in
theorem ep_whole (q : Nat) (a : Option Addr) (n c : Nat) (w : World) (hq : w.cell? ⟨q, 5, none⟩ = some (.slice none 0 0)) :
    Calls Try.prog 30 #[.pointer (some ⟨q, 0, none⟩), .slice a n c] w fun e w' => e = .returned (.slice a n c) ∧ w = w' := by
  go_enter Try.func30, Try.ntmps30
  go_wp2
  go_ret
  exact ⟨rfl, rfl⟩

/-- A part of a row of bytes: as long as that; it begins at f, but where it is empty. -/
def PartPost (B f k : Nat) (w : World) (e : Ending) (w' : World) : Prop := ∃ off c, e = .returned (.slice (some ⟨B, off, none⟩) k c) ∧ (k = 0 ∨ off = f) ∧ w = w'

set_option maxHeartbeats 400000 in
theorem ep_none (q p B n c : Nat) (f m : Int) (w : World) (hq : w.cell? ⟨q, 5, none⟩ = some (.slice (some ⟨p, 0, none⟩) 2 2)) (h0 : w.cell? ⟨p, 0, none⟩ = some (.int .i64 f)) (h1 : w.cell? ⟨p, 1, none⟩ = some (.int .i64 m))
    (f0 : 0 ≤ f) (f1 : f ≤ 1000000) (m0 : 0 ≤ m) (m1 : m ≤ 1000000) (hn : (n : Int) < f) :
    Calls Try.prog 30 #[.pointer (some ⟨q, 0, none⟩), .slice (some ⟨B, 0, none⟩) n c] w fun e w' => e = .returned (.slice none 0 0) ∧ w = w' := by
  go_enter Try.func30, Try.ntmps30
  go_wp2
  go_ret
  exact ⟨rfl, rfl⟩

set_option maxHeartbeats 400000 in
theorem ep_part (q p B n c : Nat) (f m : Int) (w : World) (hq : w.cell? ⟨q, 5, none⟩ = some (.slice (some ⟨p, 0, none⟩) 2 2)) (h0 : w.cell? ⟨p, 0, none⟩ = some (.int .i64 f)) (h1 : w.cell? ⟨p, 1, none⟩ = some (.int .i64 m))
    (f0 : 0 ≤ f) (f1 : f ≤ 1000000) (m0 : 0 ≤ m) (m1 : m ≤ 1000000) (hn : f ≤ (n : Int)) (hc : n ≤ c) (hnm : (n : Int) ≤ 1000) :
    Calls Try.prog 30 #[.pointer (some ⟨q, 0, none⟩), .slice (some ⟨B, 0, none⟩) n c] w (PartPost B f.toNat (min n (f + m).toNat - f.toNat) w) := by
  by_cases hm : (n : Int) < f + m
  · have hk := Lib.hid (show min n (f + m).toNat - f.toNat = n - f.toNat by omega)
    rw [hk.out]
    clear hk
    go_enter Try.func30, Try.ntmps30
    go_wp2
    all_goals
      go_ret
      exact ⟨_, _, rfl, by omega, rfl⟩
  · have hk := Lib.hid (show min n (f + m).toNat - f.toNat = (f + m).toNat - f.toNat by omega)
    rw [hk.out]
    clear hk
    go_enter Try.func30, Try.ntmps30
    go_wp2
    all_goals
      go_ret
      exact ⟨_, _, rfl, by omega, rfl⟩

/-- What the closure leaves: the text in the variable that it captured; what lies below that is as it was. -/
def ClosPost (b4 : Nat) (r : ByteArray) (w : World) (e : Ending) (w' : World) : Prop :=
  e = .returned (.tuple #[]) ∧ ∃ W', Below w.heap.size w W' ∧ w' = W'.setCell ⟨b4, 0, none⟩ (.string r)
def TriedPost (b4 : Nat) (r : ByteArray) (w : World) (e : Ending) (w' : World) : Prop :=
  e = .returned (.bool true) ∧ w'.cell? ⟨b4, 0, none⟩ = some (.string r) ∧ w'.frozen? ⟨b4, 0, none⟩ = false ∧ Below b4 w w'

/-- What is extracted. -/
def exPart (s : ByteArray) (f m : Int) : ByteArray := if (s.size : Int) < f then ByteArray.empty else s.extract f.toNat (min s.size (f + m).toNat)
def exText (s : ByteArray) (x : Option (Int × Int)) : ByteArray := match x with | none => s | some (f, m) => exPart s f m

/-- A part of a row of bytes as a text. -/
theorem Row8.part {P : Program} {e : TypeId} {w : World} {B : Nat} {s : ByteArray} (h : Row8 e w B s.data.toList) (src dst : TypeId) (hs : P.underlying src = some (.slice e)) (he : P.underlying e = some (.int .u8)) (hd : P.underlying dst = some .string) (f k off cap : Nat) (hk : k = 0 ∨ off = f) (hfk : f + k ≤ s.size) :
    (convert src dst (.slice (some ⟨B, off, none⟩) k cap)).run P w = .ok (.string (s.extract f (f + k))) w := by
  have hl : (s.data.toList.drop f).take k = (s.extract f (f + k)).data.toList := by rw [ext_list]; congr 1; omega
  have := run_convert_bytes_arg (P := P) w src e hs he B off k cap (((s.data.toList.drop f).take k).map fun c => (c.toNat : Int)) (by simp; rw [size_list] at hfk; simp at hfk; omega) (fun i hi => by
    obtain rfl : off = f := by omega
    have hi' : off + i < s.data.toList.length := by rw [← size_list]; omega
    rw [h.cell (List.getElem?_eq_getElem hi')]
    have hb : ((s.data.toList.drop off).take k)[i]? = some (s.data.toList[off + i]'hi') := by
      rw [List.getElem?_take_of_lt hi, List.getElem?_drop, List.getElem?_eq_getElem hi']
    simp only [List.getD_eq_getElem?_getD, List.getElem?_map, hb]
    rfl) dst hd
  rw [this]
  have e2 : strOfNums (((s.data.toList.drop f).take k).map fun c => (c.toNat : Int)) = s.extract f (f + k) := by
    apply ba_ext
    rw [strOfNums_data, ← hl]
    simp [Function.comp_def]
  rw [e2]

set_option maxHeartbeats 400000 in
theorem clos_whole (q b6 b3 b4 : Nat) (s old : ByteArray) (w : World) (c6 : w.cell? ⟨b6, 0, none⟩ = some (.pointer (some ⟨q, 0, none⟩))) (c3 : w.cell? ⟨b3, 0, none⟩ = some (.string s)) (c4 : w.cell? ⟨b4, 0, none⟩ = some (.string old)) (f4 : w.frozen? ⟨b4, 0, none⟩ = false)
    (hq : w.cell? ⟨q, 5, none⟩ = some (.slice none 0 0)) :
    Calls Try.prog 29 #[.pointer (some ⟨b6, 0, none⟩), .pointer (some ⟨b3, 0, none⟩), .pointer (some ⟨b4, 0, none⟩)] w (ClosPost b4 s w) := by
  have lt : ∀ {b o : Nat} {v : Value}, w.cell? ⟨b, o, none⟩ = some v → b < w.heap.size := fun {b o v} h => by
    rcases Nat.lt_or_ge b w.heap.size with h' | h'
    · exact h'
    · simp [World.cell?, Array.getElem?_eq_none h'] at h
  have l4 := lt c4
  obtain ⟨wb, hwb⟩ : ∃ wb, wb = Lib.bytesWorld w 5 s := ⟨_, rfl⟩
  have hconv : (convert 9 42 (.string s)).run Try.prog w = .ok (.slice (some ⟨w.heap.size, 0, none⟩) s.size (grownCap w s.size 0 5)) wb := by
    rw [hwb]; exact Lib.run_convert_string_bytes (P := Try.prog) w 9 42 5 s Try.underlying9 Try.underlying42 Try.underlying5
  have hbw : Below w.heap.size w wb := by rw [hwb]; exact below_conv _ _ _
  have hrow : Row8 5 wb w.heap.size s.data.toList := by rw [hwb]; exact Row8.of_conv _ _ _
  have d4 : wb.cell? ⟨b4, 0, none⟩ = some (.string old) := (hbw.cell (p := ⟨b4, 0, none⟩) l4).trans c4
  have g4 : wb.frozen? ⟨b4, 0, none⟩ = false := (hbw.frozen (p := ⟨b4, 0, none⟩) l4).trans f4
  have hep := Lib.hid (ep_whole q (some ⟨w.heap.size, 0, none⟩) s.size (grownCap w s.size 0 5) wb ((hbw.cell (p := ⟨q, 5, none⟩) (lt hq)).trans hq))
  have hback := hrow.string (P := Try.prog) 42 9 Try.underlying42 Try.underlying5 Try.underlying9 s.size (grownCap w s.size 0 5) (size_list s)
  rw [Lib.mk_data] at hback
  have hbw' := Lib.hid hbw
  clear hbw hrow hwb lt
  go_enter Try.func29, Try.ntmps29
  go_wp2_with (go_at_call 30; refine hep.out.mono ?_; rintro e w2 ⟨rfl, rfl⟩)
  go_end0
  exact ⟨rfl, _, hbw'.out, rfl⟩

set_option maxHeartbeats 400000 in
theorem clos_none (q b6 b3 b4 : Nat) (s old : ByteArray) (p : Nat) (f m : Int) (w : World) (c6 : w.cell? ⟨b6, 0, none⟩ = some (.pointer (some ⟨q, 0, none⟩))) (c3 : w.cell? ⟨b3, 0, none⟩ = some (.string s)) (c4 : w.cell? ⟨b4, 0, none⟩ = some (.string old)) (f4 : w.frozen? ⟨b4, 0, none⟩ = false)
    (hq : w.cell? ⟨q, 5, none⟩ = some (.slice (some ⟨p, 0, none⟩) 2 2)) (h0 : w.cell? ⟨p, 0, none⟩ = some (.int .i64 f)) (h1 : w.cell? ⟨p, 1, none⟩ = some (.int .i64 m))
    (f0 : 0 ≤ f) (f1 : f ≤ 1000000) (m0 : 0 ≤ m) (m1 : m ≤ 1000000) (hn : (s.size : Int) < f) (hnm : (s.size : Int) ≤ 1000) :
    Calls Try.prog 29 #[.pointer (some ⟨b6, 0, none⟩), .pointer (some ⟨b3, 0, none⟩), .pointer (some ⟨b4, 0, none⟩)] w (ClosPost b4 ByteArray.empty w) := by
  have lt : ∀ {b o : Nat} {v : Value}, w.cell? ⟨b, o, none⟩ = some v → b < w.heap.size := fun {b o v} h => by
    rcases Nat.lt_or_ge b w.heap.size with h' | h'
    · exact h'
    · simp [World.cell?, Array.getElem?_eq_none h'] at h
  have l4 := lt c4
  obtain ⟨wb, hwb⟩ : ∃ wb, wb = Lib.bytesWorld w 5 s := ⟨_, rfl⟩
  have hconv : (convert 9 42 (.string s)).run Try.prog w = .ok (.slice (some ⟨w.heap.size, 0, none⟩) s.size (grownCap w s.size 0 5)) wb := by
    rw [hwb]; exact Lib.run_convert_string_bytes (P := Try.prog) w 9 42 5 s Try.underlying9 Try.underlying42 Try.underlying5
  have hbw : Below w.heap.size w wb := by rw [hwb]; exact below_conv _ _ _
  have hrow : Row8 5 wb w.heap.size s.data.toList := by rw [hwb]; exact Row8.of_conv _ _ _
  have d4 : wb.cell? ⟨b4, 0, none⟩ = some (.string old) := (hbw.cell (p := ⟨b4, 0, none⟩) l4).trans c4
  have g4 : wb.frozen? ⟨b4, 0, none⟩ = false := (hbw.frozen (p := ⟨b4, 0, none⟩) l4).trans f4
  have hep := Lib.hid (ep_none q p w.heap.size s.size (grownCap w s.size 0 5) f m wb ((hbw.cell (p := ⟨q, 5, none⟩) (lt hq)).trans hq) ((hbw.cell (p := ⟨p, 0, none⟩) (lt h0)).trans h0) ((hbw.cell (p := ⟨p, 1, none⟩) (lt h1)).trans h1) f0 f1 m0 m1 hn)
  have hback := run_convert_bytes_nil (P := Try.prog) wb 42 5 Try.underlying42 Try.underlying5 0 0 9 Try.underlying9
  have hbw' := Lib.hid hbw
  clear hbw hrow hwb lt
  go_enter Try.func29, Try.ntmps29
  go_wp2_with (go_at_call 30; refine hep.out.mono ?_; rintro e w2 ⟨rfl, rfl⟩)
  go_end0
  exact ⟨rfl, _, hbw'.out, rfl⟩

set_option maxHeartbeats 400000 in
theorem clos_part (q b6 b3 b4 : Nat) (s old : ByteArray) (p : Nat) (f m : Int) (w : World) (c6 : w.cell? ⟨b6, 0, none⟩ = some (.pointer (some ⟨q, 0, none⟩))) (c3 : w.cell? ⟨b3, 0, none⟩ = some (.string s)) (c4 : w.cell? ⟨b4, 0, none⟩ = some (.string old)) (f4 : w.frozen? ⟨b4, 0, none⟩ = false)
    (hq : w.cell? ⟨q, 5, none⟩ = some (.slice (some ⟨p, 0, none⟩) 2 2)) (h0 : w.cell? ⟨p, 0, none⟩ = some (.int .i64 f)) (h1 : w.cell? ⟨p, 1, none⟩ = some (.int .i64 m))
    (f0 : 0 ≤ f) (f1 : f ≤ 1000000) (m0 : 0 ≤ m) (m1 : m ≤ 1000000) (hn : f ≤ (s.size : Int)) (hnm : (s.size : Int) ≤ 1000) :
    Calls Try.prog 29 #[.pointer (some ⟨b6, 0, none⟩), .pointer (some ⟨b3, 0, none⟩), .pointer (some ⟨b4, 0, none⟩)] w (ClosPost b4 (s.extract f.toNat (min s.size (f + m).toNat)) w) := by
  have lt : ∀ {b o : Nat} {v : Value}, w.cell? ⟨b, o, none⟩ = some v → b < w.heap.size := fun {b o v} h => by
    rcases Nat.lt_or_ge b w.heap.size with h' | h'
    · exact h'
    · simp [World.cell?, Array.getElem?_eq_none h'] at h
  have l4 := lt c4
  obtain ⟨wb, hwb⟩ : ∃ wb, wb = Lib.bytesWorld w 5 s := ⟨_, rfl⟩
  have hconv : (convert 9 42 (.string s)).run Try.prog w = .ok (.slice (some ⟨w.heap.size, 0, none⟩) s.size (grownCap w s.size 0 5)) wb := by
    rw [hwb]; exact Lib.run_convert_string_bytes (P := Try.prog) w 9 42 5 s Try.underlying9 Try.underlying42 Try.underlying5
  have hbw : Below w.heap.size w wb := by rw [hwb]; exact below_conv _ _ _
  have hrow : Row8 5 wb w.heap.size s.data.toList := by rw [hwb]; exact Row8.of_conv _ _ _
  have d4 : wb.cell? ⟨b4, 0, none⟩ = some (.string old) := (hbw.cell (p := ⟨b4, 0, none⟩) l4).trans c4
  have g4 : wb.frozen? ⟨b4, 0, none⟩ = false := (hbw.frozen (p := ⟨b4, 0, none⟩) l4).trans f4
  have hcap : s.size ≤ grownCap w s.size 0 5 := grownCap_ge _ _ _ _
  have hep := Lib.hid (ep_part q p w.heap.size s.size (grownCap w s.size 0 5) f m wb ((hbw.cell (p := ⟨q, 5, none⟩) (lt hq)).trans hq) ((hbw.cell (p := ⟨p, 0, none⟩) (lt h0)).trans h0) ((hbw.cell (p := ⟨p, 1, none⟩) (lt h1)).trans h1) f0 f1 m0 m1 hn hcap hnm)
  have hback : ∀ off c, (min s.size (f + m).toNat - f.toNat = 0 ∨ off = f.toNat) → (convert 42 9 (.slice (some ⟨w.heap.size, off, none⟩) (min s.size (f + m).toNat - f.toNat) c)).run Try.prog wb = .ok (.string (s.extract f.toNat (min s.size (f + m).toNat))) wb := fun off c hk => by
    have := hrow.part (P := Try.prog) 42 9 Try.underlying42 Try.underlying5 Try.underlying9 f.toNat (min s.size (f + m).toNat - f.toNat) off c hk (by omega)
    rw [this, show f.toNat + (min s.size (f + m).toNat - f.toNat) = min s.size (f + m).toNat by omega]
  have hback' := Lib.hid hback
  clear hback
  generalize s.extract f.toNat (min s.size (f + m).toNat) = r at *
  generalize min s.size (f + m).toNat - f.toNat = k at *
  have hbw' := Lib.hid hbw
  clear hbw hrow hwb lt
  go_enter Try.func29, Try.ntmps29
  go_wp2_with (go_at_call 30; refine hep.out.mono ?_; rintro e w2 ⟨off, c, rfl, hk, rfl⟩; have hb2 := hback'.out off c hk)
  go_end0
  exact ⟨rfl, _, hbw'.out, rfl⟩

set_option maxHeartbeats 400000 in
theorem tried_any (b6 b3 b4 : Nat) (r : ByteArray) (w : World) (h4 : b4 < w.heap.size) (f4 : w.frozen? ⟨b4, 0, none⟩ = false) (hc4 : (w.cell? ⟨b4, 0, none⟩).isSome = true)
    (hcl : Calls Try.prog 29 #[.pointer (some ⟨b6, 0, none⟩), .pointer (some ⟨b3, 0, none⟩), .pointer (some ⟨b4, 0, none⟩)] (w.alloc (.cells #[.bool false] 4)) (ClosPost b4 r (w.alloc (.cells #[.bool false] 4)))) :
    Calls Try.prog 28 #[.func (Fn.func 29) #[] #[.pointer (some ⟨b6, 0, none⟩), .pointer (some ⟨b3, 0, none⟩), .pointer (some ⟨b4, 0, none⟩)]] w (TriedPost b4 r w) := by
  have hmf : ∀ (fn : Fn) (first cap : Array Value) (w : World), (Instr.makeFunc fn first cap).run Try.prog w = .ok (.func fn first cap) w := fun _ _ _ _ => rfl
  have Hcl := Lib.hid hcl
  clear hcl
  have z1 : (w.alloc (.cells #[.bool false] 4)).cell? ⟨w.heap.size, 0, none⟩ = some (.bool false) := by simp [go_sem]
  have z2 : (w.alloc (.cells #[.bool false] 4)).frozen? ⟨w.heap.size, 0, none⟩ = false := by simp [go_sem]
  have z3 : (w.alloc (.cells #[.bool false] 4)).frozen? ⟨b4, 0, none⟩ = false := ((Below.refl w.heap.size w).alloc (Nat.le_refl _) _).frozen (p := ⟨b4, 0, none⟩) h4 |>.trans f4
  have z4 : ((w.alloc (.cells #[.bool false] 4)).cell? ⟨b4, 0, none⟩).isSome = true := by rw [((Below.refl w.heap.size w).alloc (Nat.le_refl _) _).cell (p := ⟨b4, 0, none⟩) h4]; exact hc4
  have Z1 := Lib.hid z1
  have Z2 := Lib.hid z2
  have Z3 := Lib.hid z3
  have Z4 := Lib.hid z4
  have hsz : (w.alloc (.cells #[.bool false] 4)).heap.size = w.heap.size + 1 := by simp
  have Hsz := Lib.hid hsz
  clear z1 z2 z3 z4 hsz
  go_enter_defers Try.func28, Try.ntmps28
  go_wp2_with (go_at_call 29; refine Hcl.out.mono ?_; rintro e w2 ⟨rfl, W', hb, rfl⟩; have y1 := (hb.cell (p := ⟨w.heap.size, 0, none⟩) (by rw [Hsz.out]; exact Nat.lt_succ_self _)).trans Z1.out; have y2 := (hb.frozen (p := ⟨w.heap.size, 0, none⟩) (by rw [Hsz.out]; exact Nat.lt_succ_self _)).trans Z2.out; have hb' := Lib.hid hb; clear hb)
  refine leaves_cons (f := 37) (args := #[.pointer (some ⟨w.heap.size, 0, none⟩)]) (by simp) (by simp [go_sem]) ?_
  refine (catch_idle ⟨w.heap.size, 0, none⟩ _).mono ?_
  rintro e u' w'' ⟨rfl, rfl, rfl⟩
  simp [Leaves, settle, results, Try.results28, go_sem, y1, y2]
  have hne : ¬ w.heap.size = b4 := by omega
  have hne' : ¬ b4 = w.heap.size := by omega
  have x3 := (hb'.out.frozen (p := ⟨b4, 0, none⟩) (by rw [Hsz.out]; show b4 < w.heap.size + 1; omega)).trans Z3.out
  have x4 : (W'.cell? ⟨b4, 0, none⟩).isSome = true := by rw [hb'.out.cell (p := ⟨b4, 0, none⟩) (by rw [Hsz.out]; show b4 < w.heap.size + 1; omega)]; exact Z4.out
  obtain ⟨v4, hv4⟩ := Option.isSome_iff_exists.1 x4
  refine ⟨rfl, by simp [go_sem, hv4, hne, hne'], by simp [go_sem, x3], ?_⟩
  exact (((((Below.refl b4 w).alloc (by omega) _).trans (hb'.out.mono (by rw [Hsz.out]; omega))).setCell (Nat.le_refl _) _).setCell (show b4 ≤ w.heap.size by omega) _)

/-- The world in which tried is called: six new blocks. -/
def exWorld (w : World) (s : ByteArray) (x : Value) : World :=
  (((((w.alloc (.cells #[.slice none 0 0, .string ⟨#[]⟩, .slice none 0 0, .bool false, .bool false, x] 31)).alloc (.cells #[.string s] 9)).alloc (.cells #[.string ⟨#[]⟩] 9)).alloc (.cells #[.slice none 0 0, .string ⟨#[]⟩, .slice none 0 0, .bool false, .bool false, x] 31)).alloc (.cells #[.string ⟨#[]⟩, .slice none 0 0, .slice none 0 0, .bool false, .bool false, x, .string ⟨#[]⟩] 73)).alloc (.cells #[.pointer (some ⟨w.heap.size + 1 + 1 + 1 + 1, 0, none⟩)] 53)
theorem exWorld_below (w : World) (s : ByteArray) (x : Value) : Below w.heap.size w (exWorld w s x) := by
  unfold exWorld
  repeat (first | exact Below.refl _ _ | refine Below.alloc ?_ (by simp <;> omega) _)
theorem exWorld_cells (w : World) (s : ByteArray) (x : Value) : (w.heap.size + 1 + 1 < (exWorld w s x).heap.size) ∧ ((exWorld w s x).frozen? ⟨w.heap.size + 1 + 1, 0, none⟩ = false) ∧ (((exWorld w s x).cell? ⟨w.heap.size + 1 + 1, 0, none⟩).isSome = true) := by
  unfold exWorld
  refine ⟨by simp <;> omega, by simp [go_sem], by simp [go_sem]⟩
theorem exWorld_more (w : World) (s : ByteArray) (x : Value) (o : Obj) : (((exWorld w s x).alloc o).cell? ⟨w.heap.size + 1 + 1 + 1 + 1 + 1, 0, none⟩ = some (.pointer (some ⟨w.heap.size + 1 + 1 + 1 + 1, 0, none⟩))) ∧ (((exWorld w s x).alloc o).cell? ⟨w.heap.size + 1, 0, none⟩ = some (.string s)) ∧
    (((exWorld w s x).alloc o).cell? ⟨w.heap.size + 1 + 1, 0, none⟩ = some (.string ⟨#[]⟩)) ∧ (((exWorld w s x).alloc o).frozen? ⟨w.heap.size + 1 + 1, 0, none⟩ = false) ∧ (((exWorld w s x).alloc o).cell? ⟨w.heap.size + 1 + 1 + 1 + 1, 5, none⟩ = some x) := by
  unfold exWorld
  refine ⟨by simp [go_sem], by simp [go_sem], by simp [go_sem], by simp [go_sem], by simp [go_sem]⟩
theorem calls_at {P : Program} {n : Nat} {args : Array Value} {w w' : World} {Q : Ending → World → Prop} (h : w' = w) (k : Calls P n args w Q) : Calls P n args w' Q := h ▸ k

set_option maxHeartbeats 800000 in
theorem ex_whole (s : ByteArray) (w : World) :
    Calls Try.prog 13 #[.agg #[.slice none 0 0, .string ⟨#[]⟩, .slice none 0 0, .bool false, .bool false, .slice none 0 0], .string s] w fun e w' => e = .returned (.tuple #[.string s, .bool true]) ∧ Below w.heap.size w w' := by
  have hmf : ∀ (fn : Fn) (first cap : Array Value) (w : World), (Instr.makeFunc fn first cap).run Try.prog w = .ok (.func fn first cap) w := fun _ _ _ _ => rfl
  obtain ⟨m1, m2, m3, m4, m5⟩ := exWorld_more w s (.slice none 0 0) (.cells #[.bool false] 4)
  have HCL := Lib.hid (clos_whole (w.heap.size + 1 + 1 + 1 + 1) (w.heap.size + 1 + 1 + 1 + 1 + 1) (w.heap.size + 1) (w.heap.size + 1 + 1) s ⟨#[]⟩ _ m1 m2 m3 m4 m5)
  clear m1 m2 m3 m4 m5
  go_enter Try.func13, Try.ntmps13
  go_wp2_with (first | (go_at_call 27; go_in))
  obtain ⟨W0, hW0⟩ : ∃ W0, W0 = exWorld w s (.slice none 0 0) := ⟨_, rfl⟩
  have hB0 : Below w.heap.size w W0 := by rw [hW0]; exact exWorld_below w s _
  have hc := Lib.hid (exWorld_cells w s (.slice none 0 0))
  refine calls_at hW0.symm ?_
  refine (tried_any (w.heap.size + 1 + 1 + 1 + 1 + 1) (w.heap.size + 1) (w.heap.size + 1 + 1) s W0 (by rw [hW0]; exact hc.out.1) (by rw [hW0]; exact hc.out.2.1) (by rw [hW0]; exact hc.out.2.2) (by rw [hW0]; exact HCL.out)).mono ?_
  rintro e w2 ⟨rfl, c4, f4, hb⟩
  go_wp2
  refine bodyPost_ret (v := .tuple #[.string s, .bool true]) (by simp [results, Try.results13, go_sem, c4, f4]) rfl ⟨rfl, ?_⟩
  exact (hB0.trans (hb.mono (by omega))).setCell (show w.heap.size ≤ w.heap.size + 1 + 1 by omega) _

set_option maxHeartbeats 800000 in
theorem ex_part (s : ByteArray) (p : Nat) (f m : Int) (w : World) (hp : p < w.heap.size) (h0 : w.cell? ⟨p, 0, none⟩ = some (.int .i64 f)) (h1 : w.cell? ⟨p, 1, none⟩ = some (.int .i64 m)) (f0 : 0 ≤ f) (f1 : f ≤ 1000000) (m0 : 0 ≤ m) (m1' : m ≤ 1000000) (hnm : (s.size : Int) ≤ 1000) :
    Calls Try.prog 13 #[.agg #[.slice none 0 0, .string ⟨#[]⟩, .slice none 0 0, .bool false, .bool false, .slice (some ⟨p, 0, none⟩) 2 2], .string s] w fun e w' => e = .returned (.tuple #[.string (exPart s f m), .bool true]) ∧ Below w.heap.size w w' := by
  have hmf : ∀ (fn : Fn) (first cap : Array Value) (w : World), (Instr.makeFunc fn first cap).run Try.prog w = .ok (.func fn first cap) w := fun _ _ _ _ => rfl
  obtain ⟨m1, m2, m3, m4, m5⟩ := exWorld_more w s (.slice (some ⟨p, 0, none⟩) 2 2) (.cells #[.bool false] 4)
  have hB1 := (exWorld_below w s (.slice (some ⟨p, 0, none⟩) 2 2)).alloc (exWorld_below w s _).size (.cells #[.bool false] 4)
  have e0 := (hB1.cell (p := ⟨p, 0, none⟩) hp).trans h0
  have e1 := (hB1.cell (p := ⟨p, 1, none⟩) hp).trans h1
  have HCL : Hid (Calls Try.prog 29 #[.pointer (some ⟨w.heap.size + 1 + 1 + 1 + 1 + 1, 0, none⟩), .pointer (some ⟨w.heap.size + 1, 0, none⟩), .pointer (some ⟨w.heap.size + 1 + 1, 0, none⟩)] ((exWorld w s (.slice (some ⟨p, 0, none⟩) 2 2)).alloc (.cells #[.bool false] 4)) (ClosPost (w.heap.size + 1 + 1) (exPart s f m) ((exWorld w s (.slice (some ⟨p, 0, none⟩) 2 2)).alloc (.cells #[.bool false] 4)))) := by
    unfold exPart
    by_cases hn : (s.size : Int) < f
    · rw [if_pos hn]
      exact Lib.hid (clos_none (w.heap.size + 1 + 1 + 1 + 1) (w.heap.size + 1 + 1 + 1 + 1 + 1) (w.heap.size + 1) (w.heap.size + 1 + 1) s ⟨#[]⟩ p f m _ m1 m2 m3 m4 m5 e0 e1 f0 f1 m0 m1' hn hnm)
    · rw [if_neg hn]
      exact Lib.hid (clos_part (w.heap.size + 1 + 1 + 1 + 1) (w.heap.size + 1 + 1 + 1 + 1 + 1) (w.heap.size + 1) (w.heap.size + 1 + 1) s ⟨#[]⟩ p f m _ m1 m2 m3 m4 m5 e0 e1 f0 f1 m0 m1' (by omega) hnm)
  clear m1 m2 m3 m4 m5 hB1 e0 e1
  generalize exPart s f m = r at *
  go_enter Try.func13, Try.ntmps13
  go_wp2_with (first | (go_at_call 27; go_in))
  obtain ⟨W0, hW0⟩ : ∃ W0, W0 = exWorld w s (.slice (some ⟨p, 0, none⟩) 2 2) := ⟨_, rfl⟩
  have hB0 : Below w.heap.size w W0 := by rw [hW0]; exact exWorld_below w s _
  have hc := Lib.hid (exWorld_cells w s (.slice (some ⟨p, 0, none⟩) 2 2))
  refine calls_at hW0.symm ?_
  refine (tried_any (w.heap.size + 1 + 1 + 1 + 1 + 1) (w.heap.size + 1) (w.heap.size + 1 + 1) r W0 (by rw [hW0]; exact hc.out.1) (by rw [hW0]; exact hc.out.2.1) (by rw [hW0]; exact hc.out.2.2) (by rw [hW0]; exact HCL.out)).mono ?_
  rintro e w2 ⟨rfl, c4, f4, hb⟩
  go_wp2
  refine bodyPost_ret (v := .tuple #[.string r, .bool true]) (by simp [results, Try.results13, go_sem, c4, f4]) rfl ⟨rfl, ?_⟩
  exact (hB0.trans (hb.mono (by omega))).setCell (show w.heap.size ≤ w.heap.size + 1 + 1 by omega) _


set_option maxHeartbeats 800000 in
theorem fe_long (s : ByteArray) (f m : Int) (wh : Bool) (w : World) (hs : s.size ≤ 140737488351232) (h : (2147483647 : Int) < (s.size : Int)) :
    Calls Try.prog 5 #[.string s, .int .u32 f, .int .u32 m, .bool wh] w fun e w' => e = .returned (.bool true) ∧ Below w.heap.size w w' := by
  go_enter Try.func5, Try.ntmps5
  go_wp2
  go_ret
  exact ⟨rfl, Below.refl _ _⟩

set_option maxHeartbeats 800000 in
theorem fe_out (s : ByteArray) (f m : Int) (wh : Bool) (w : World) (hs : s.size ≤ 140737488351232) (h0 : ¬ (2147483647 : Int) < (s.size : Int)) (h : (1000 : Int) < (s.size : Int) ∨ 1000000 < f ∨ 1000000 < m) :
    Calls Try.prog 5 #[.string s, .int .u32 f, .int .u32 m, .bool wh] w fun e w' => e = .returned (.bool true) ∧ Below w.heap.size w w' := by
  by_cases c1 : (1000 : Int) < (s.size : Int)
  · go_enter Try.func5, Try.ntmps5
    go_wp2
    go_ret
    exact ⟨rfl, Below.refl _ _⟩
  by_cases c2 : 1000000 < f
  · go_enter Try.func5, Try.ntmps5
    go_wp2
    go_ret
    exact ⟨rfl, Below.refl _ _⟩
  have c3 : 1000000 < m := by omega
  go_enter Try.func5, Try.ntmps5
  go_wp2
  go_ret
  exact ⟨rfl, Below.refl _ _⟩

set_option maxHeartbeats 1000000 in
theorem fe_long_part (s : ByteArray) (f m : Int) (w : World) (f0 : 0 ≤ f) (m0 : 0 ≤ m) (h1 : (s.size : Int) ≤ 1000) (h2 : f ≤ 1000000) (h3 : m ≤ 1000000) (h4 : f < (s.size : Int)) (h5 : (s.size : Int) ≤ f + m) :
    Calls Try.prog 5 #[.string s, .int .u32 f, .int .u32 m, .bool false] w fun e w' => e = .returned (.bool true) ∧ Below w.heap.size w w' := by
  obtain ⟨W0, hW0⟩ : ∃ W0, W0 = (w.alloc (.cells #[.int .i64 f, .int .i64 m] 3)).alloc (.cells #[.slice none 0 0, .string ⟨#[]⟩, .slice none 0 0, .bool false, .bool false, .slice (some ⟨w.heap.size, 0, none⟩) 2 2] 31) := ⟨_, rfl⟩
  have hB0 : Below w.heap.size w W0 := by rw [hW0]; exact ((Below.refl _ _).alloc (Nat.le_refl _) _).alloc (by simp) _
  have hcon := ex_part s w.heap.size f m W0 (by rw [hW0]; simp; omega) (by rw [hW0]; simp [go_sem]) (by rw [hW0]; simp [go_sem]) f0 h2 m0 h3 h1
  have hr : exPart s f m = s.extract f.toNat s.size := by unfold exPart; rw [if_neg (by omega), show min s.size (f + m).toNat = s.size by omega]
  rw [hr] at hcon
  replace hcon := Lib.hid hcon
  clear hr
  have hB0' := Lib.hid hB0
  have hW0' := Lib.hid hW0
  clear hB0 hW0
  go_enter Try.func5, Try.ntmps5
  go_wp2_with (first | (go_at_call 13; refine calls_at hW0'.out.symm ?_; refine hcon.out.mono ?_; rintro e w2 ⟨rfl, hb⟩))
  all_goals
    go_ret
    exact ⟨rfl, hB0'.out.trans (hb.mono hB0'.out.size)⟩

set_option maxHeartbeats 1000000 in
theorem fe_short_part (s : ByteArray) (f m : Int) (w : World) (f0 : 0 ≤ f) (m0 : 0 ≤ m) (h1 : (s.size : Int) ≤ 1000) (h2 : f ≤ 1000000) (h3 : m ≤ 1000000) (h4 : f < (s.size : Int)) (h5 : f + m < (s.size : Int)) :
    Calls Try.prog 5 #[.string s, .int .u32 f, .int .u32 m, .bool false] w fun e w' => e = .returned (.bool true) ∧ Below w.heap.size w w' := by
  obtain ⟨W0, hW0⟩ : ∃ W0, W0 = (w.alloc (.cells #[.int .i64 f, .int .i64 m] 3)).alloc (.cells #[.slice none 0 0, .string ⟨#[]⟩, .slice none 0 0, .bool false, .bool false, .slice (some ⟨w.heap.size, 0, none⟩) 2 2] 31) := ⟨_, rfl⟩
  have hB0 : Below w.heap.size w W0 := by rw [hW0]; exact ((Below.refl _ _).alloc (Nat.le_refl _) _).alloc (by simp) _
  have hcon := ex_part s w.heap.size f m W0 (by rw [hW0]; simp; omega) (by rw [hW0]; simp [go_sem]) (by rw [hW0]; simp [go_sem]) f0 h2 m0 h3 h1
  have hr : exPart s f m = s.extract f.toNat (f + m).toNat := by unfold exPart; rw [if_neg (by omega), show min s.size (f + m).toNat = (f + m).toNat by omega]
  rw [hr] at hcon
  replace hcon := Lib.hid hcon
  clear hr
  have hB0' := Lib.hid hB0
  have hW0' := Lib.hid hW0
  clear hB0 hW0
  go_enter Try.func5, Try.ntmps5
  go_wp2_with (first | (go_at_call 13; refine calls_at hW0'.out.symm ?_; refine hcon.out.mono ?_; rintro e w2 ⟨rfl, hb⟩))
  all_goals
    go_ret
    exact ⟨rfl, hB0'.out.trans (hb.mono hB0'.out.size)⟩

set_option maxHeartbeats 1000000 in
theorem fe_behind (s : ByteArray) (f m : Int) (w : World) (f0 : 0 ≤ f) (m0 : 0 ≤ m) (h1 : (s.size : Int) ≤ 1000) (h2 : f ≤ 1000000) (h3 : m ≤ 1000000) (h4 : ¬ f < (s.size : Int)) :
    Calls Try.prog 5 #[.string s, .int .u32 f, .int .u32 m, .bool false] w fun e w' => e = .returned (.bool true) ∧ Below w.heap.size w w' := by
  obtain ⟨W0, hW0⟩ : ∃ W0, W0 = (w.alloc (.cells #[.int .i64 f, .int .i64 m] 3)).alloc (.cells #[.slice none 0 0, .string ⟨#[]⟩, .slice none 0 0, .bool false, .bool false, .slice (some ⟨w.heap.size, 0, none⟩) 2 2] 31) := ⟨_, rfl⟩
  have hB0 : Below w.heap.size w W0 := by rw [hW0]; exact ((Below.refl _ _).alloc (Nat.le_refl _) _).alloc (by simp) _
  have hcon := ex_part s w.heap.size f m W0 (by rw [hW0]; simp; omega) (by rw [hW0]; simp [go_sem]) (by rw [hW0]; simp [go_sem]) f0 h2 m0 h3 h1
  have hr : exPart s f m = (⟨#[]⟩ : ByteArray) := by
    unfold exPart
    by_cases h : (s.size : Int) < f
    · rw [if_pos h]; rfl
    · rw [if_neg h]
      apply ba_ext
      rw [ext_list, List.drop_of_length_le (by rw [← size_list]; omega)]
      simp
  rw [hr] at hcon
  replace hcon := Lib.hid hcon
  clear hr
  have hB0' := Lib.hid hB0
  have hW0' := Lib.hid hW0
  clear hB0 hW0
  go_enter Try.func5, Try.ntmps5
  go_wp2_with (first | (go_at_call 13; refine calls_at hW0'.out.symm ?_; refine hcon.out.mono ?_; rintro e w2 ⟨rfl, hb⟩))
  all_goals
    go_ret
    exact ⟨rfl, hB0'.out.trans (hb.mono hB0'.out.size)⟩

set_option maxHeartbeats 1000000 in
theorem fe_whole_a (s : ByteArray) (f m : Int) (w : World) (f0 : 0 ≤ f) (m0 : 0 ≤ m) (h1 : (s.size : Int) ≤ 1000) (h2 : f ≤ 1000000) (h3 : m ≤ 1000000) (h4 : f < (s.size : Int)) (h5 : (s.size : Int) ≤ f + m) :
    Calls Try.prog 5 #[.string s, .int .u32 f, .int .u32 m, .bool true] w fun e w' => e = .returned (.bool true) ∧ Below w.heap.size w w' := by
  obtain ⟨W0, hW0⟩ : ∃ W0, W0 = ((w.alloc (.cells #[.int .i64 f, .int .i64 m] 3)).alloc (.cells #[.slice none 0 0, .string ⟨#[]⟩, .slice none 0 0, .bool false, .bool false, .slice none 0 0] 31)) := ⟨_, rfl⟩
  have hB0 : Below w.heap.size w W0 := by rw [hW0]; exact ((Below.refl _ _).alloc (Nat.le_refl _) _).alloc (by simp) _
  have hcon := Lib.hid (ex_whole s W0)
  have hB0' := Lib.hid hB0
  have hW0' := Lib.hid hW0
  clear hB0 hW0
  go_enter Try.func5, Try.ntmps5
  go_wp2_with (first | (go_at_call 13; refine calls_at hW0'.out.symm ?_; refine hcon.out.mono ?_; rintro e w2 ⟨rfl, hb⟩))
  all_goals
    go_ret
    exact ⟨rfl, hB0'.out.trans (hb.mono hB0'.out.size)⟩

set_option maxHeartbeats 1000000 in
theorem fe_whole_b (s : ByteArray) (f m : Int) (w : World) (f0 : 0 ≤ f) (m0 : 0 ≤ m) (h1 : (s.size : Int) ≤ 1000) (h2 : f ≤ 1000000) (h3 : m ≤ 1000000) (h4 : f < (s.size : Int)) (h5 : f + m < (s.size : Int)) :
    Calls Try.prog 5 #[.string s, .int .u32 f, .int .u32 m, .bool true] w fun e w' => e = .returned (.bool true) ∧ Below w.heap.size w w' := by
  obtain ⟨W0, hW0⟩ : ∃ W0, W0 = ((w.alloc (.cells #[.int .i64 f, .int .i64 m] 3)).alloc (.cells #[.slice none 0 0, .string ⟨#[]⟩, .slice none 0 0, .bool false, .bool false, .slice none 0 0] 31)) := ⟨_, rfl⟩
  have hB0 : Below w.heap.size w W0 := by rw [hW0]; exact ((Below.refl _ _).alloc (Nat.le_refl _) _).alloc (by simp) _
  have hcon := Lib.hid (ex_whole s W0)
  have hB0' := Lib.hid hB0
  have hW0' := Lib.hid hW0
  clear hB0 hW0
  go_enter Try.func5, Try.ntmps5
  go_wp2_with (first | (go_at_call 13; refine calls_at hW0'.out.symm ?_; refine hcon.out.mono ?_; rintro e w2 ⟨rfl, hb⟩))
  all_goals
    go_ret
    exact ⟨rfl, hB0'.out.trans (hb.mono hB0'.out.size)⟩

set_option maxHeartbeats 1000000 in
theorem fe_whole_c (s : ByteArray) (f m : Int) (w : World) (f0 : 0 ≤ f) (m0 : 0 ≤ m) (h1 : (s.size : Int) ≤ 1000) (h2 : f ≤ 1000000) (h3 : m ≤ 1000000) (h4 : ¬ f < (s.size : Int)) :
    Calls Try.prog 5 #[.string s, .int .u32 f, .int .u32 m, .bool true] w fun e w' => e = .returned (.bool true) ∧ Below w.heap.size w w' := by
  obtain ⟨W0, hW0⟩ : ∃ W0, W0 = ((w.alloc (.cells #[.int .i64 f, .int .i64 m] 3)).alloc (.cells #[.slice none 0 0, .string ⟨#[]⟩, .slice none 0 0, .bool false, .bool false, .slice none 0 0] 31)) := ⟨_, rfl⟩
  have hB0 : Below w.heap.size w W0 := by rw [hW0]; exact ((Below.refl _ _).alloc (Nat.le_refl _) _).alloc (by simp) _
  have hcon := Lib.hid (ex_whole s W0)
  have hB0' := Lib.hid hB0
  have hW0' := Lib.hid hW0
  clear hB0 hW0
  go_enter Try.func5, Try.ntmps5
  go_wp2_with (first | (go_at_call 13; refine calls_at hW0'.out.symm ?_; refine hcon.out.mono ?_; rintro e w2 ⟨rfl, hb⟩))
  all_goals
    go_ret
    exact ⟨rfl, hB0'.out.trans (hb.mono hB0'.out.size)⟩


theorem fe_all (s : ByteArray) (f m : Int) (wh : Bool) (w : World) (hs : s.size ≤ 140737488351232) (f0 : 0 ≤ f) (m0 : 0 ≤ m) :
    Calls Try.prog 5 #[.string s, .int .u32 f, .int .u32 m, .bool wh] w fun e w' => e = .returned (.bool true) ∧ Below w.heap.size w w' := by
  by_cases c0 : (2147483647 : Int) < (s.size : Int)
  · exact fe_long s f m wh w hs c0
  by_cases c1 : (1000 : Int) < (s.size : Int) ∨ 1000000 < f ∨ 1000000 < m
  · exact fe_out s f m wh w hs c0 c1
  have h1 : (s.size : Int) ≤ 1000 := by omega
  have h2 : f ≤ 1000000 := by omega
  have h3 : m ≤ 1000000 := by omega
  by_cases h4 : f < (s.size : Int)
  · by_cases h5 : f + m < (s.size : Int)
    · cases wh with
      | true => exact fe_whole_b s f m w f0 m0 h1 h2 h3 h4 h5
      | false => exact fe_short_part s f m w f0 m0 h1 h2 h3 h4 h5
    · cases wh with
      | true => exact fe_whole_a s f m w f0 m0 h1 h2 h3 h4 (by omega)
      | false => exact fe_long_part s f m w f0 m0 h1 h2 h3 h4 (by omega)
  · cases wh with
    | true => exact fe_whole_c s f m w f0 m0 h1 h2 h3 h4
    | false => exact fe_behind s f m w f0 m0 h1 h2 h3 h4
end Go.Proofs.Ytnokeaiemiiicaa.Own
