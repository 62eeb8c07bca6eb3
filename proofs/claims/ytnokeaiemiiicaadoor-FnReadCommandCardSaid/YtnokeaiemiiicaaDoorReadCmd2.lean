/- gosmtp.ParseCmd and impl.ReadCommand by hand; the callees of FnReadCommand in the print's form. -/
import Derived.Test.YtnokeaiemiiicaaDoorReadCmd
import Derived.Test.YtnokeaiemiiicaaDoorUpper
namespace Go.Proofs.YtnokeaiemiiicaaDoor.Own
open Go.RowKit Go.Lib
set_option linter.unusedVariables false
set_option linter.unusedSimpArgs false

def cmdL (s : ByteArray) : Option (ByteArray × ByteArray) :=
  if isStart s = true then some (startB, ⟨#[]⟩)
  else if s.size = 0 then some (⟨#[]⟩, ⟨#[]⟩)
  else if s.size < 4 then none
  else if s.size = 4 then some (up s, ⟨#[]⟩)
  else if s.size = 5 then none
  else if s.data.toList[4]? = some 32 then some (up (s.extract 0 4), trimB (s.extract 5 s.size)) else none
theorem parseCmd_any (s : ByteArray) (w : World) (hp : Prt s) (henv : EnvR w) :
    Calls Tryd.prog 60 #[.string s] w (Cmd (cmdL s) w) := by
  unfold cmdL
  by_cases hst : isStart s = true
  · rw [if_pos hst]; exact pc_start s w hp hst
  have hst' : isStart s = false := by simpa using hst
  rw [if_neg hst]
  by_cases h0 : s.size = 0
  · rw [if_pos h0]; exact pc_zero s w hp hst' h0
  rw [if_neg h0]
  by_cases h3 : s.size < 4
  · rw [if_pos h3]; exact pc_short s w hp hst' (by omega) h3
  rw [if_neg h3]
  by_cases h4 : s.size = 4
  · rw [if_pos h4]; exact pc_four s w hp hst' h4
  rw [if_neg h4]
  by_cases h5 : s.size = 5
  · rw [if_pos h5]; exact pc_five s w hp hst' h5
  rw [if_neg h5]
  have h6 : 5 < s.size := by omega
  have e4 : s.data.toList[4]? = some (s[4]'(by omega)) := List.getElem?_eq_getElem (by rw [← size_list]; omega)
  by_cases hc : s.data.toList[4]? = some 32
  · rw [if_pos hc]
    refine pc_args s w hp hst' h6 ?_ henv
    rw [e4] at hc
    rw [Option.some.inj hc]
    rfl
  · rw [if_neg hc]
    refine pc_noblank s w hp hst' h6 (fun e => hc ?_)
    rw [e4]
    congr 1
    exact UInt8.toNat_inj.1 e
theorem cmdD_any (s : ByteArray) (w : World) (hp : Prt s) (henv : EnvR w) :
    Calls Tryd.prog 49 #[.string s] w (Cmd (cmdL s) w) := by
  have hc := Lib.hid (parseCmd_any s w hp henv)
  clear hp henv
  go_enter Tryd.func49, Tryd.ntmps49
  go_wp2_with fail
  refine hc.out.mono ?_
  rintro e w1 ⟨a, b, v, rfl, h1, h2, hb⟩
  have hb := Lib.hid hb
  have h1 := Lib.hid h1
  have h2 := Lib.hid h2
  go_wp2
  go_ret3
  exact ⟨a, b, v, rfl, h1.out, h2.out, hb.out⟩
def impl_ReadCommand.f (s : ByteArray) : Option (ByteArray × ByteArray × Bool) :=
  if s.size ≤ 1000000 ∧ (s.data.toList.all fun c => decide (32 ≤ c.toNat ∧ c.toNat < 127)) = true then some (match cmdL s with | some (a, b) => (a, b, true) | none => (⟨#[]⟩, ⟨#[]⟩, false)) else none
theorem prt_of {s : ByteArray} (h : s.size ≤ 1000000 ∧ (s.data.toList.all fun c => decide (32 ≤ c.toNat ∧ c.toNat < 127)) = true) : Prt s :=
  ⟨h.1, fun c hc => (of_decide_eq_true (List.all_eq_true.1 h.2 c hc)).1, fun c hc => (of_decide_eq_true (List.all_eq_true.1 h.2 c hc)).2⟩
theorem readCmd_yes (s : ByteArray) (w : World) (hp : Prt s) (henv : EnvR w) (a b : ByteArray) (hr : cmdL s = some (a, b)) :
    Calls Tryd.prog 28 #[.string s] w fun e w' => e = .returned (.tuple #[.string a, .string b, .bool true]) ∧ Below w.heap.size w w' := by
  have hc := Lib.hid (cmdD_any s w hp henv)
  have hr' := Lib.hid hr
  clear hp henv hr
  go_enter Tryd.func28, Tryd.ntmps28
  go_wp2_with fail
  refine hc.out.mono ?_
  rintro e w1 ⟨a', b', v, rfl, h1, h2, hb⟩
  obtain ⟨he, rfl⟩ := h1 _ hr'.out
  obtain ⟨rfl, rfl⟩ := Prod.mk.inj he
  have hb := Lib.hid hb
  clear h1 h2 he
  go_wp2
  go_ret3
  exact ⟨rfl, hb.out⟩
theorem readCmd_no (s : ByteArray) (w : World) (hp : Prt s) (henv : EnvR w) (hr : cmdL s = none) :
    Calls Tryd.prog 28 #[.string s] w fun e w' => e = .returned (.tuple #[.string ⟨#[]⟩, .string ⟨#[]⟩, .bool false]) ∧ Below w.heap.size w w' := by
  have hc := Lib.hid (cmdD_any s w hp henv)
  have hr' := Lib.hid hr
  clear hp henv hr
  go_enter Tryd.func28, Tryd.ntmps28
  go_wp2_with fail
  refine hc.out.mono ?_
  rintro e w1 ⟨a', b', v, rfl, h1, h2, hb⟩
  obtain ⟨T, x, rfl⟩ := h2 hr'.out
  have hb := Lib.hid hb
  clear h1 h2
  go_wp2
  go_ret3
  exact ⟨rfl, hb.out⟩
theorem impl_ReadCommand.calls (a0 : ByteArray) (r1 r2 : ByteArray) (r3 : Bool) (w : World) (h : impl_ReadCommand.f a0 = some (r1, r2, r3)) (henv : EnvR w) :
    Calls Tryd.prog 28 #[.string a0] w fun e w' => e = .returned (.tuple #[.string r1, .string r2, .bool r3]) ∧ Below w.heap.size w w' := by
  unfold impl_ReadCommand.f at h
  by_cases hs : a0.size ≤ 1000000 ∧ (a0.data.toList.all fun c => decide (32 ≤ c.toNat ∧ c.toNat < 127)) = true
  · rw [if_pos hs] at h
    have h := Option.some.inj h
    cases hc : cmdL a0 with
    | none =>
      rw [hc] at h
      simp only [Prod.mk.injEq] at h
      obtain ⟨rfl, rfl, rfl⟩ := h
      exact readCmd_no a0 w (prt_of hs) henv hc
    | some x =>
      obtain ⟨a, b⟩ := x
      rw [hc] at h
      simp only [Prod.mk.injEq] at h
      obtain ⟨rfl, rfl, rfl⟩ := h
      exact readCmd_yes a0 w (prt_of hs) henv a b hc
  · rw [if_neg hs] at h; cases h
end Go.Proofs.YtnokeaiemiiicaaDoor.Own
