/- The reference's functions and the code's readers, called with plain lists: what the laws FnReadRcpt and FnReadMail need. A listed table of the library's that reads as its datum. What the row lists of the library's table of blanks, as FnReadRcpt and FnReadMail ask it. -/
import Derived.Test.YtldiamldbpobgaaGreatDoorMH
import Derived.Test.YtldiamldbpobgaaGreatDoorMI
import Derived.Test.YtldiamldbpobgaaGreatDoorRows
import Derived.Lib.LaidU8
import Derived.Lib.AppendIntMem
import Derived.KernelRfl
namespace Go.Proofs.YtldiamldbpobgaaGreatDoor.Own
open Go.RowKit Go.Lib Go.Proofs.YtldiamldbpobgaaGreatDoorW.PrintWords Go.Proofs.YtldiamldbpobgaaGreatDoorW.PrintLast
set_option linter.unusedVariables false
set_option linter.unusedSimpArgs false

/-- The row of the reference's parameters. -/
def SRow (w : World) (v : Value) (l : List PParams.S36) : Prop := ∃ A c, v = .slice A l.length c ∧ ∀ (j : Nat) x, l[j]? = some x → ∃ ad : Addr, A = some ad ∧ w.cell? (ad.add (j * 3)) = some (.string x.f0) ∧ w.cell? ⟨(ad.add (j * 3)).block, (ad.add (j * 3)).off + 1, none⟩ = some (.string x.f1)
theorem SRow.below {w W : World} {v : Value} {l : List PParams.S36} (h : SRow w v l) (hb : Below w.heap.size w W) : SRow W v l := by
  obtain ⟨A, c, hv, hc⟩ := h
  refine ⟨A, c, hv, fun j x hj => ?_⟩
  obtain ⟨ad, hA, h0, h1⟩ := hc j x hj
  exact ⟨ad, hA, (hb.cell (World.block_lt_of_cell? w _ h0)).trans h0, (hb.cell (World.block_lt_of_cell? w _ h1)).trans h1⟩
theorem prn_any (l : List UInt8) (hl : l.length ≤ 300) (w : World) : ∃ b, Calls Tryz.prog 5 #[.string ⟨l.toArray⟩] w (fun e w' => e = .returned (.bool b) ∧ Below w.heap.size w w') ∧ (b = true → ∀ c ∈ l, prC c = true) := by
  obtain ⟨b, hb, hp⟩ := print_tells ⟨l.toArray⟩ (by show l.length ≤ _; omega) l.length 0 (by show 0 + l.length = l.length; omega)
  refine ⟨b, (PPrintable16.spec_Printable16.calls _ _ b w hb).mono ?_, fun hb1 c hc => ?_⟩
  · rintro e w' ⟨rfl, hd⟩
    exact ⟨rfl, hd.below⟩
  · obtain ⟨j, hj⟩ := List.getElem?_of_mem hc
    exact hp hb1 j c (Nat.zero_le _) hj
theorem beh_any (l pre : List UInt8) (hl : l.length ≤ 300) (hp : ∀ c ∈ l, prC c = true) (hpl : pre.length ≤ 10) (hpre : ∀ p ∈ pre, ∀ y, foldEq y p = (upB y == p)) (w : World) :
    Calls Tryz.prog 6 #[.string ⟨l.toArray⟩, .string ⟨pre.toArray⟩] w fun e w' => e = .returned (.tuple #[.string (behR l pre).1, .bool (behR l pre).2]) ∧ Below w.heap.size w w' := by
  obtain ⟨k, hk⟩ := behind_tells l pre hl hp hpl hpre
  exact PBehind.spec_Behind.calls k _ _ _ _ w hk
theorem pth_any (l : List UInt8) (hl : l.length ≤ 1000) : ∃ r : PR, Good l r ∧ ∀ w : World, Calls Tryz.prog 8 #[.string ⟨l.toArray⟩] w fun e w' => e = .returned (.tuple #[.string r.1, .string r.2.1, .bool r.2.2]) ∧ Below w.heap.size w w' := by
  obtain ⟨r, ⟨n, hr⟩, hg⟩ := path_tells ⟨l.toArray⟩ hl
  exact ⟨r, hg, fun w => PPath.spec_Path.calls n _ _ _ _ w (hr n (Nat.le_refl _))⟩
theorem prm_any (l : List UInt8) (hl : l.length ≤ 1000) (hp : ∀ c ∈ l, prC c = true) : ∃ r : List PParams.S36 × Bool, POk r (argsF (Lib.fields l) []) ∧ ∀ w : World, Calls Tryz.prog 9 #[.string ⟨l.toArray⟩] w fun e w' => ∃ v, e = .returned (.tuple #[v, .bool r.2]) ∧ SRow w' v r.1 ∧ Below w.heap.size w w' := by
  obtain ⟨r, ⟨n, hr⟩, hok⟩ := params_tells ⟨l.toArray⟩ hl hp
  refine ⟨r, hok, fun w => (PParams.spec_Params.calls n _ r.1 r.2 w (hr n (Nat.le_refl _))).mono ?_⟩
  rintro e w' ⟨v, rfl, hR, hb⟩
  refine ⟨v, rfl, ?_, hb⟩
  obtain ⟨A, c, hv, hc, hC⟩ := Kd.R_reads hR
  refine ⟨A, c, hv, fun j x hj => ?_⟩
  have hj1 : j < r.1.length := (List.getElem?_eq_some_iff.1 hj).1
  obtain ⟨ad, hA, h0, h1, _⟩ := PParams.at_T36 hC (j : Int) (by omega) (by omega)
  rw [rdT r.1 j x hj, Int.toNat_natCast] at h0 h1
  exact ⟨ad, hA, h0, h1⟩
theorem PRow.opened {w : World} {v : Value} {got : List KV} (h : PRow w v got) : ∃ B c, v = .slice B got.length c ∧ ∀ (j : Nat) p, got[j]? = some p → ∃ g, B = some ⟨g, 0, none⟩ ∧ w.cell? ⟨g, j * 2, none⟩ = some (.string ⟨p.1.toArray⟩) ∧ w.cell? ⟨g, j * 2 + 1, none⟩ = some (.string ⟨p.2.toArray⟩) := by
  rcases h with ⟨rfl, rfl⟩ | ⟨g, cap, rfl, hc⟩
  · exact ⟨none, 0, rfl, fun j p hj => by simp at hj⟩
  · exact ⟨_, cap, rfl, fun j p hj => ⟨g, rfl, hc j p hj⟩⟩
/-- What the row lists: the library's table of blanks. -/
def EnvX (w : World) : Prop := Lib.TabIs Tryz.prog w "strings.asciiSpace" .u8 Lib.asciiSpaceTab
theorem EnvX.below {w w' : World} (h : EnvX w) (hb : Below w.heap.size w w') : EnvX w' := tab_move h hb
/-! ### Lists -/
theorem trim_len (l : List UInt8) : (Lib.trimSpace l).length ≤ l.length := by
  unfold Lib.trimSpace
  have h1 := (List.dropWhile_sublist (p := isSp) (l := l)).length_le
  have h2 := (List.dropWhile_sublist (p := isSp) (l := (l.dropWhile isSp).reverse)).length_le
  simp only [List.length_reverse] at h2 ⊢
  omega
theorem trim_sub (l : List UInt8) : ∀ c ∈ Lib.trimSpace l, c ∈ l := by
  intro c hc
  unfold Lib.trimSpace at hc
  have h1 := (List.dropWhile_sublist _).subset (List.mem_reverse.1 hc)
  exact (List.dropWhile_sublist _).subset (List.mem_reverse.1 h1)
theorem cut_sub {l pre a : List UInt8} (h : cutF l pre = some a) : a.length ≤ l.length ∧ ∀ c ∈ a, c ∈ l := by
  unfold cutF at h
  split at h
  · cases h
  · split at h
    · obtain rfl := Option.some.inj h
      exact ⟨by simp, fun c hc => List.mem_of_mem_drop hc⟩
    · cases h
theorem prC_asci {l : List UInt8} (h : ∀ c ∈ l, prC c = true) : Asci l := fun c hc => by
  have := of_decide_eq_true (h c hc)
  omega
theorem one_path : PathIs (Lib.trimSpace [60, 97, 64, 98, 62]) [97, 64, 98] [] := by
  refine ⟨[97, 64, 98, 62], [97], [98], by decide, ⟨Or.inr ⟨[98, 62], rfl, rfl, ?_⟩, by decide, by decide, ?_⟩, rfl, by decide⟩
  · intro c hc; rw [List.mem_singleton.1 hc]; decide
  · intro c hc; rw [List.mem_singleton.1 hc]; decide
theorem one_rcpt (w : World) (htab : Lib.TabIs Tryz.prog w "strings.asciiSpace" .u8 Lib.asciiSpaceTab) :
    Calls Tryz.prog 7 #[.string ⟨#[84, 79, 58, 60, 97, 64, 98, 62]⟩] w fun e w' => (∃ m v, e = .returned (.tuple #[m, v, .bool true])) ∧ Below w.heap.size w w' := by
  refine (rcptI_yes w [84, 79, 58, 60, 97, 64, 98, 62] [60, 97, 64, 98, 62] [97, 64, 98] [] (by decide) (by intro c hc; revert c; decide) (by decide +kernel) one_path (by decide) (by decide) (by intro c hc; revert c; decide) (by decide) (by intro c hc; cases hc) htab).mono ?_
  rintro e w' ⟨hb, v, got, rfl, _, _⟩
  exact ⟨⟨_, v, rfl⟩, hb⟩
theorem one_mail (w : World) (htab : Lib.TabIs Tryz.prog w "strings.asciiSpace" .u8 Lib.asciiSpaceTab) :
    Calls Tryz.prog 10 #[.string ⟨#[70, 82, 79, 77, 58, 60, 97, 64, 98, 62]⟩] w fun e w' => (∃ m v, e = .returned (.tuple #[m, v, .bool true])) ∧ Below w.heap.size w w' := by
  refine (mailI_yes w [70, 82, 79, 77, 58, 60, 97, 64, 98, 62] [60, 97, 64, 98, 62] [97, 64, 98] [] (by decide) (by intro c hc; revert c; decide) (by decide +kernel) (Or.inl one_path) (by decide) (by decide) (by intro c hc; revert c; decide) (by decide) (by intro c hc; cases hc) htab).mono ?_
  rintro e w' ⟨hb, v, got, rfl, _, _⟩
  exact ⟨⟨_, v, rfl⟩, hb⟩
/-- What was read holds each of the reference's parameters. -/
theorem got_has {got al : List KV} {l : List PParams.S36} (h1 : got.Perm al) (h2 : (l.map kvS).Perm al) : got.length = l.length ∧ ∀ x ∈ l, kvS x ∈ got := by
  have h := h1.trans h2.symm
  refine ⟨by rw [h.length_eq, List.length_map], fun x hx => h.symm.subset (List.mem_map_of_mem hx)⟩
end Go.Proofs.YtldiamldbpobgaaGreatDoor.Own

namespace Go.Proofs.YtldiamldbpobgaaGreatDoor.Own
open Go.RowKit Go.Lib
theorem tab_reads {P : Program} {W : World} {name : String} {k : IntKind} {zs : List Int} {g : Nat} {t e : TypeId} {n : Nat}
    (hg : P.globalNamed name = some g) (hty : (P.globals[g]?).map (·.type) = some t) (ht : P.underlying t = some (.array n e)) (he : P.underlying e = some (.int k)) (hce : P.cellsOf e = 1) (hct : P.cellsOf t = n)
    (h : VarReads P W name (tabData k zs)) : TabIs P W name k zs := by
  obtain ⟨g', t', cs, fuel, p, hg', hty', hv, hd⟩ := h
  obtain rfl := Option.some.inj (hg.symm.trans hg')
  obtain rfl := Option.some.inj (hty.symm.trans hty')
  have := cells_of_tab ht he hce hct hd
  unfold TabIs
  rw [hv, ← this]
end Go.Proofs.YtldiamldbpobgaaGreatDoor.Own

namespace Go.Proofs.YtldiamldbpobgaaGreatDoor.Own
open Go.RowKit Go.Lib
theorem space_data : (Rows.laid_strings_asciiSpace : DataW Unit) = tabData .u8 asciiSpaceTab := by kernel_rfl
theorem envX_of_reads {W : World} (h : VarReads Tryz.prog W "strings.asciiSpace" Rows.laid_strings_asciiSpace) : EnvX W := by
  rw [space_data] at h
  exact tab_reads (g := 0) (t := 64) (e := 5) (n := 256) (by kernel_rfl) (by kernel_rfl) (by kernel_rfl) (by kernel_rfl) (by kernel_rfl) (by kernel_rfl) h
end Go.Proofs.YtldiamldbpobgaaGreatDoor.Own
