/- imap.CanonicalFlag, CanonicalMailboxName, impl.FlagOf, impl.MailboxOf, spec.Known9 and spec.Flag9 by hand, over the shelf's EqualFold and ToLower, at ASCII. -/
import Derived.Test.YtnokeaiemiiicaaDoorShelf
import Derived.Test.YtnokeaiemiiicaaDoorCanonP
import Derived.Test.YtnokeaiemiiicaaDoorLow9
import Derived.Test.YtnokeaiemiiicaaDoorWMore
import Derived.WalkKit
import Derived.BigCall
import Derived.BigGuard
import Derived.Outline
namespace Go.Proofs.YtnokeaiemiiicaaDoor.Own
open Go.RowKit Go.Lib Go.Proofs.YtnokeaiemiiicaaDoorW.PrintWords Go.Proofs.YtnokeaiemiiicaaDoorW.PrintLast Go.Proofs.YtnokeaiemiiicaaDoorW.PrintMore
set_option linter.unusedVariables false
set_option linter.unusedSimpArgs false

/-- The flags' variable reads as the program lays it. -/
def EnvC (w : World) : Prop := ∃ A c, 6 ≤ c ∧ w.cell? ⟨0, 0, none⟩ = some (.slice A 6 c) ∧ Kd.C Kd.string w A 6 flagsL
theorem EnvC.all {w : World} (h : EnvC w) : ∀ W, Below w.heap.size w W → EnvC W := fun W hb => by
  obtain ⟨A, c, hc, h1, h2⟩ := h
  exact ⟨A, c, hc, (hb.cell (World.block_lt_of_cell? w _ h1)).trans h1, Kd.C_below h2 hb⟩
theorem asc_of (l : List UInt8) (h : (l.all fun b => decide (b.toNat < 128)) = true) : Asc l := fun j b hj => of_decide_eq_true (List.all_eq_true.1 h b (List.mem_of_getElem? hj))
theorem flagsL_at (k : Nat) (hk : k < 6) : ∃ f, flagsL[k]? = some f ∧ rdOf ByteArray.empty flagsL (k : Int) = f ∧ flagsL.drop k = f :: flagsL.drop (k + 1) ∧ Asc f.data.toList ∧ f.size ≤ 20 := by
  match k, hk with
  | 0, _ => exact ⟨seenB, rfl, rfl, rfl, asc_of _ (by decide), by decide⟩
  | 1, _ => exact ⟨answB, rfl, rfl, rfl, asc_of _ (by decide), by decide⟩
  | 2, _ => exact ⟨flagB, rfl, rfl, rfl, asc_of _ (by decide), by decide⟩
  | 3, _ => exact ⟨deleB, rfl, rfl, rfl, asc_of _ (by decide), by decide⟩
  | 4, _ => exact ⟨drafB, rfl, rfl, rfl, asc_of _ (by decide), by decide⟩
  | 5, _ => exact ⟨receB, rfl, rfl, rfl, asc_of _ (by decide), by decide⟩
set_option maxHeartbeats 1000000 in
theorem canonFlag_any (s : ByteArray) (w : World) (hs : s.size ≤ 1000000) (ha : Asc s.data.toList) (henv : EnvC w) :
    Calls Tryd.prog 38 #[.string s] w fun e w' => e = .returned (.string (canonL flagsL s)) ∧ Below w.heap.size w w' := by
  obtain ⟨A, c, hc, h1, h2⟩ := henv
  obtain ⟨ad, rfl, _⟩ := Kd.at_string h2 0 (by omega) (by omega)
  have hat : ∀ k : Nat, k < 6 → w.cell? (ad.add k) = some (.string (rdOf ByteArray.empty flagsL (k : Int))) := fun k hk => by
    obtain ⟨ad', e, h⟩ := Kd.at_string h2 (k : Int) (by omega) (by omega)
    cases e
    exact h
  have hat' := Lib.hid hat
  have hlow := Lib.hid (Tryd.strings_ToLower_ascii s w (by omega) ha)
  have ha' := Lib.hid ha
  clear hat ha h2
  go_enter Tryd.func38, Tryd.ntmps38
  go_wp2
  go_loop [7] (fun i => ∃ k : Nat, k ≤ 6 ∧ i = .int .i64 k ∧ Hid (canonL (flagsL.drop k) s = canonL flagsL s)) (fun i => 6 - (intOf i).toNat)
  case atStart => exact ⟨0, by omega, rfl, Lib.hid rfl⟩
  case round =>
    obtain ⟨k, hk, rfl, hres⟩ := hrel
    by_cases hlt : k < 6
    · have hcell := hat'.out k hlt
      obtain ⟨f, hf1, hf2, hf3, hf4, hf5⟩ := flagsL_at k hlt
      rw [hf2] at hcell
      have hf3' := Lib.hid hf3
      have hf4' := Lib.hid hf4
      clear hf1 hf2 hf3 hf4
      cases hq : equalFold f.data.toList s.data.toList with
      | true =>
        have hq' := Lib.hid hq
        have hfin : Hid (canonL flagsL s = f) := Lib.hid (by rw [← hres.out, hf3'.out]; show (if equalFold f.data.toList s.data.toList = true then f else _) = f; rw [if_pos hq])
        have hcall := Lib.hid (show ∀ W, Calls Tryd.prog 55 #[.string f, .string s] W fun e w' => e = .returned (.bool true) ∧ w' = W from fun W => by have := Tryd.strings_EqualFold f s W (by omega) hf4'.out ha'.out; rw [hq] at this; exact this)
        clear hq
        go_wp2_with (go_at_call 55; refine (hcall.out _).mono ?_; rintro e w' ⟨rfl, rfl⟩)
        go_ret
        rw [hfin.out]
        exact ⟨rfl, Below.refl _ _⟩
      | false =>
        have hres2 : Hid (canonL (flagsL.drop (k + 1)) s = canonL flagsL s) := Lib.hid (by rw [← hres.out, hf3'.out]; show _ = (if equalFold f.data.toList s.data.toList = true then f else _); rw [if_neg (by rw [hq]; decide)])
        have hcall := Lib.hid (show ∀ W, Calls Tryd.prog 55 #[.string f, .string s] W fun e w' => e = .returned (.bool false) ∧ w' = W from fun W => by have := Tryd.strings_EqualFold f s W (by omega) hf4'.out ha'.out; rw [hq] at this; exact this)
        clear hq
        go_wp2_with (go_at_call 55; refine (hcall.out _).mono ?_; rintro e w' ⟨rfl, rfl⟩)
        go_round
        case rel => exact ⟨k + 1, by omega, by go_num, hres2⟩
        case measure => simp [intOf]; omega
    · have hfin : Hid (canonL flagsL s = ⟨(toLowerA s.data.toList).toArray⟩) := Lib.hid (by
        rw [← hres.out, show k = 6 by omega]; rfl)
      go_wp2_with (go_at_call 56; refine hlow.out.mono ?_; rintro e w' ⟨rfl, hb⟩)
      go_ret
      rw [hfin.out]
      exact ⟨rfl, hb⟩

theorem flagOf_any (s : ByteArray) (w : World) (hs : s.size ≤ 1000000) (ha : Asc s.data.toList) (henv : EnvC w) :
    Calls Tryd.prog 19 #[.string s] w fun e w' => e = .returned (.string (canonL flagsL s)) ∧ Below w.heap.size w w' := by
  have hc := Lib.hid (canonFlag_any s w hs ha henv)
  clear henv ha
  go_enter Tryd.func19, Tryd.ntmps19
  go_wp2_with (go_at_call 38; refine hc.out.mono ?_; rintro e w' ⟨rfl, hb⟩)
  go_ret
  exact ⟨rfl, hb⟩
theorem boxName_any (s : ByteArray) (w : World) (hs : s.size ≤ 1000000) (ha : Asc s.data.toList) :
    Calls Tryd.prog 41 #[.string s] w fun e w' => e = .returned (.string (boxL s)) ∧ w = w' := by
  have hin : Asc inboxB.data.toList := asc_of _ (by decide)
  have hcall0 := Tryd.strings_EqualFold s inboxB w (by omega) ha hin
  have hc := Lib.hid hcall0
  unfold boxL
  clear hcall0 ha hin
  cases hq : equalFold s.data.toList inboxB.data.toList with
  | true =>
    have hcall := Lib.hid (show Calls Tryd.prog 55 #[.string s, .string inboxB] w fun e w' => e = .returned (.bool true) ∧ w' = w from by have := hc.out; rw [hq] at this; exact this)
    clear hq
    rw [if_pos rfl]
    unfold inboxB
    unfold inboxB at hcall
    go_enter Tryd.func41, Tryd.ntmps41
    go_wp2_with (go_at_call 55; refine hcall.out.mono ?_; rintro e w' ⟨rfl, rfl⟩)
    go_ret
    exact ⟨rfl, rfl⟩
  | false =>
    have hcall := Lib.hid (show Calls Tryd.prog 55 #[.string s, .string inboxB] w fun e w' => e = .returned (.bool false) ∧ w' = w from by have := hc.out; rw [hq] at this; exact this)
    clear hq
    rw [if_neg (by decide)]
    unfold inboxB at hcall
    go_enter Tryd.func41, Tryd.ntmps41
    go_wp2_with (go_at_call 55; refine hcall.out.mono ?_; rintro e w' ⟨rfl, rfl⟩)
    go_ret
    exact ⟨rfl, rfl⟩
theorem boxOf_any (s : ByteArray) (w : World) (hs : s.size ≤ 1000000) (ha : Asc s.data.toList) :
    Calls Tryd.prog 21 #[.string s] w fun e w' => e = .returned (.string (boxL s)) ∧ w = w' := by
  have hc := Lib.hid (boxName_any s w hs ha)
  clear ha
  go_enter Tryd.func21, Tryd.ntmps21
  go_wp2_with (go_at_call 41; refine hc.out.mono ?_; rintro e w' ⟨rfl, rfl⟩)
  go_ret
  exact ⟨rfl, rfl⟩

def knownCells : Array Value := #[.string answB, .string ⟨#[65, 78, 83, 87, 69, 82, 69, 68]⟩, .string deleB, .string ⟨#[68, 69, 76, 69, 84, 69, 68]⟩, .string drafB, .string ⟨#[68, 82, 65, 70, 84]⟩, .string flagB, .string ⟨#[70, 76, 65, 71, 71, 69, 68]⟩, .string receB, .string ⟨#[82, 69, 67, 69, 78, 84]⟩, .string seenB, .string ⟨#[83, 69, 69, 78]⟩]
theorem known_any (w : World) :
    Calls Tryd.prog 39 #[] w fun e w' => e = .returned (.slice (some ⟨w.heap.size, 0, none⟩) 6 6) ∧ w' = w.alloc (.cells knownCells 57) := by
  go_enter Tryd.func39, Tryd.ntmps39
  go_wp2
  go_ret
  exact ⟨rfl, rfl⟩
end Go.Proofs.YtnokeaiemiiicaaDoor.Own
