/- impl.params by hand: a map of texts as pairs, in some order. impl.ReadRcpt and impl.ReadMail by hand. (Written by wip/gen_impl.py.) -/
import Derived.Test.YtldiamldbpobgaaGreatDoorME
import Derived.Test.YtldiamldbpobgaaGreatDoorMD
import Derived.Deep.AppendLies
namespace Go.Proofs.YtldiamldbpobgaaGreatDoor.Own
open Go.Shelf Go.RowKit Go.Lib Go.Sort Go.Maps Go.WideMaps
set_option linter.unusedVariables false
set_option linter.unusedSimpArgs false

/-- The step of a range over a map of texts by texts. -/
theorem wpList_next_ss (w : World) {ops : Array Oper} {rest : List Oper} {o : Oper} {a : Act} {Q : Exit → Act → World → Prop} (hg : o.guard = none) (it : Operand) (hop : o.op = Op.next it false)
    (b r n : Nat) (D : DataW Unit) (left : Lit → Bool) (cnt : Nat) (hit : a.eval it = .pointer (some ⟨r, 0, none⟩)) (h : w.ranges Tryz.prog 9 (plainElem Tryz.prog 9) b r n D left cnt)
    (hDone : (∀ kl, left kl = false) → wpList Tryz.prog ops Q rest (a.put o.dst (.tuple #[.bool false])) w)
    (hMore : ∀ (x c : List UInt8) (w' : World) (cnt' : Nat), left (.string x) = true → (∀ zd, D.atKey (.string x) zd = .lit (.string c)) → w'.ranges Tryz.prog 9 (plainElem Tryz.prog 9) b r n D (fun z => left z && !z.sameKey (.string x)) cnt' → cnt' < cnt →
      w.grownBy w' (some r) → (Instr.entry (.pointer (some ⟨r, 0, none⟩))).run Tryz.prog w' = .ok (.tuple #[.string ⟨x.toArray⟩, .string ⟨c.toArray⟩]) w' → wpList Tryz.prog ops Q rest (a.put o.dst (.tuple #[.bool true, .string ⟨x.toArray⟩, .string ⟨c.toArray⟩])) w') :
    wpList Tryz.prog ops Q (o :: rest) a w :=
  wpList_next_ranges w hg it hop 9 skey (plainElem Tryz.prog 9) encStr encStr (fun key kl hkey => by obtain ⟨x, hx, _⟩ := Maps.keyOf_str Tryz.underlying9 hkey; exact ⟨x, hx⟩) (fun v y hv => by obtain ⟨c, rfl, _⟩ := plainElem_string_inv Tryz.underlying9 hv; exact ⟨c.data.toList, rfl⟩)
    b r n D left cnt hit h (fun _ hl => hDone hl) (fun x c kl y w' cnt' hkey hlk hv hat hrg hlt hgr hsz hen => by
      obtain ⟨x', ex, rfl, hwx⟩ := Maps.keyOf_str Tryz.underlying9 hkey
      obtain rfl : x = x' := encStr_inj ex
      obtain ⟨c', ec, rfl, hwc⟩ := plainElem_string_inv Tryz.underlying9 hv
      have hc : c'.data.toList = c := by
        have := congrArg (fun v => match v with | Value.string s => s.data.toList | _ => []) ec
        simpa [encStr] using this.symm
      rw [hc] at hat
      exact hMore x c w' cnt' hlk hat hrg hlt hgr hen)
theorem info_prm : (Tryz.prog.info? 34).map (fun i => (i.zero, i.size, i.bytes)) = some (some (.agg #[.string ⟨#[]⟩, .string ⟨#[]⟩]), 2, 32) := by kernel_rfl
def PrmIs (w : World) (al : List KV) (e : Ending) (w' : World) : Prop := Below w.heap.size w w' ∧ ∃ v got, e = .returned v ∧ got.Perm al ∧ PRow w' v got
theorem gb_set (W : World) (b : Nat) (v : Value) : W.grownBy (W.setCell ⟨b, 0, none⟩ v) (some b) :=
  ⟨rfl, rfl, rfl, by simp [World.setCell], fun i hi hn => by
    have : b ≠ i := fun h => hn (by rw [h])
    simp [World.setCell, Array.getElem?_modify, this]⟩
theorem two_row (W : World) (p q : Value) (t : TypeId) : ∀ j u, [p, q][j]? = some u → (W.alloc (.cells #[p, q] t)).cell? ((⟨W.heap.size, 0, none⟩ : Addr).add j) = some u := by
  intro j u hj
  rw [addr_add, cell_of_row _ _ j _ _ _ (heap_alloc_new W _)]
  simpa using hj
def Vinv (w wr : World) (b r n s : Nat) (D : DataW Unit) : Prop :=
  ∃ left cnt got v, wr.ranges Tryz.prog 9 (plainElem Tryz.prog 9) b r n D left cnt ∧ One wr s 25 v ∧ wr.ownsRow (s + 2) 34 2 v got.length (cellsP got) ∧ Below w.heap.size w wr ∧ Gotten D left got ∧ got.length + cnt ≤ n ∧ s + 2 ≤ wr.heap.size
set_option maxHeartbeats 4000000 in
set_option maxRecDepth 100000 in
theorem params_any (w : World) (b n : Nat) (D : DataW Unit) (al : List KV) (hown : w.ownsMap Tryz.prog 9 (plainElem Tryz.prog 9) b n D) (hrep : Rep D al) (hn : n ≤ 1000) :
    Calls Tryz.prog 14 #[.map (some b)] w (PrmIs w al) := by
  have hown1 : (w.alloc (.cells #[.slice none 0 0] 25)).ownsMap Tryz.prog 9 (plainElem Tryz.prog 9) b n D := own_below hown ((Below.refl _ w).alloc (Nat.le_refl _) _)
  have hone := One.new w 25 (.slice none 0 0)
  have hb1 : Below w.heap.size w (w.alloc (.cells #[.slice none 0 0] 25)) := (Below.refl _ w).alloc (Nat.le_refl _) _
  have hsz := hown.size_le
  go_enter Tryz.func14, Tryz.ntmps14
  go_wp2_with (at_range; refine wpList_range_own _ rfl _ 38 rfl 9 9 skey Tryz.underlying38 (plainElem Tryz.prog 9) b n D rfl hown1 ?_; intro w0 hrg0 hg0 hs0)
  go_frame
  have hz1 : (w.alloc (.cells #[.slice none 0 0] 25)).heap.size = w.heap.size + 1 := by simp
  rw [hz1] at hrg0 hs0 ⊢
  have hI : Vinv w w0 b (w.heap.size + 1) n w.heap.size D := by
    refine ⟨_, _, [], .slice none 0 0, hrg0, ?_, World.ownsRow_nil _ _ _ _, ?_, ⟨Collected.start D, fun p hp => by cases hp⟩, by simpa using hsz, by rw [hs0]; omega⟩
    · exact (hg0.block w.heap.size (by rw [hz1]; omega) (by simp)).trans hone
    · exact hb1.trans ⟨hg0.os, hg0.tape, hg0.output, hg0.size, fun k hk => hg0.block k (by rw [hz1]; omega) (by simp)⟩
  obtain ⟨i0, hi0, hy0, hy1, hy2⟩ := info_parts info_prm
  obtain ⟨r, hr⟩ : ∃ r, r = w.heap.size + 1 := ⟨_, rfl⟩
  obtain ⟨s, hs⟩ : ∃ s, s = w.heap.size := ⟨_, rfl⟩
  rw [← hr, ← hs] at hI
  rw [← hr, ← hs]
  have hrs : r = s + 1 := by omega
  have hrs' := Lib.hid hrs
  have hs' := Lib.hid hs
  have hrep' := Lib.hid hrep
  have hown' := Lib.hid hown
  clear hrg0 hs0 hg0 hone hb1 hown1 hz1 hr hs hrs hrep hsz hown
  go_loopw [4, 5] (fun _ _ wr => Vinv w wr b r n s D) (fun _ _ wr => wr.rangeLeft b r)
  case atStart => exact hI
  case round =>
    obtain ⟨wx, hwx⟩ : ∃ wx : World, wx = wr := ⟨_, rfl⟩
    rw [← hwx] at hrel ⊢
    clear hwx
    obtain ⟨left, cnt, got, v, hrg, hone, hrow, hb, hgot, hlen, hz⟩ := hrel
    have hlt_s : s < wx.heap.size := hone.lt
    go_wp2_with (at_next; refine wpList_next_ss _ rfl _ rfl b r n D left cnt rfl hrg ?_ ?_)
    · intro hl0
      have hperm := Lib.hid (gotten_perm hgot hrg.owns hrep'.out hl0)
      have hsr := Lib.hid (srt_any wx s (s + 2) v got hone hrow (by omega) hz (by omega))
      have hmf : ∀ (fn : Fn) (first cap : Array Value) (w : World), (Instr.makeFunc fn first cap).run Tryz.prog w = .ok (.func fn first cap) w := fun _ _ _ _ => rfl
      have q := hone.cell
      have hb' := Lib.hid hb
      clear hgot hrg hrow hb hlen hz hl0
      go_wp2_with (go_at_call 24; refine hsr.out.mono ?_; rintro e w2 ⟨rfl, hb2, hone2, got', hp', hpr'⟩; have q2 := hone2.cell)
      go_ret
      exact ⟨hb'.out.trans (hb2.mono (by rw [← hs'.out]; omega)), v, got', rfl, hp'.trans hperm.out, hpr'⟩
    · intro x c w1 cnt1 hlx hat hrg1 hlt hg1 hen
      have hvb : ∀ k, v.ownBlock = some k → s + 2 ≤ k := fun k hk => (hrow.lt k hk).1
      have hrs2 := hrs'.out
      have hbs : b < s := by rw [hs'.out]; exact hown'.out.lt
      have hone1 : One w1 s 25 v := (hg1.block s hlt_s (by simp; omega)).trans hone
      have hrow1 := hrow.kept (row := some r) hg1 (.inr (fun h0 => by have := hvb r h0; omega))
      have hz1 : s + 2 ≤ w1.heap.size := Nat.le_trans hz hg1.size
      have hrow2 := Lib.hid (hrow1.alloc (.cells #[.string ⟨x.toArray⟩, .string ⟨c.toArray⟩] 34))
      have hnw := Lib.hid (two_row w1 (.string ⟨x.toArray⟩) (.string ⟨c.toArray⟩) 34)
      have hrg2 := Lib.hid (hrg1.alloc (.cells #[.string ⟨x.toArray⟩, .string ⟨c.toArray⟩] 34))
      have hone2 : Hid (One (w1.alloc (.cells #[.string ⟨x.toArray⟩, .string ⟨c.toArray⟩] 34)) s 25 v) := Lib.hid (One.below hone1 ((Below.refl _ w1).alloc (Nat.le_refl _) _) (by omega))
      have q1 := hone1.cell
      have hgot2 := Lib.hid (gotten_step hgot x c hlx hat)
      have hb1 : Hid (Below w.heap.size w (w1.alloc (.cells #[.string ⟨x.toArray⟩, .string ⟨c.toArray⟩] 34))) := Lib.hid (by
        have h1 : Below w.heap.size w w1 := hb.trans ⟨hg1.os, hg1.tape, hg1.output, hg1.size, fun k hk => hg1.block k (by rw [← hs'.out] at hk; omega) (by rw [← hs'.out] at hk; simp; omega)⟩
        exact h1.alloc h1.size _)
      have hgl : got.length ≤ 1000 := by omega
      have hlen' : Hid (got.length + 1 + cnt1 ≤ n) := Lib.hid (by omega)
      have hleft := Lib.hid (show cnt1 < wx.rangeLeft b r by rw [hrg.left_eq]; exact hlt)
      have hz1' := Lib.hid hz1
      have hvb' := Lib.hid hvb
      have hbs' := Lib.hid hbs
      clear hrow1 hrow hrg hrg1 hgot hb hlen hlx hat hlt hg1 hvb hz hrs2 hone hone1 hz1
      go_wp2_with (at_builtin; refine wpList_append_lies _ rfl (.tmp 13) (.tmp 17) 25 rfl (s + 2) 34 i0 (.agg #[.string ⟨#[]⟩, .string ⟨#[]⟩]) 2 32 Tryz.underlying25 hi0 hy0 hy1 hy2 rfl (by decide) v got.length (cellsP got) rfl hrow2.out ⟨w1.heap.size, 0, none⟩ 1 1 [.string ⟨x.toArray⟩, .string ⟨c.toArray⟩] rfl rfl hnw.out (by intro u hu; simp at hu; rcases hu with rfl | rfl <;> rfl) (by decide) (by unfold maxLen; omega) (by omega) (by have := hz1'.out; simp; omega) _ rfl ?_; intro g2 cap2 w2 hown2 hgrow2 hat2 hlt2; have hone3 : One w2 s 25 v := (hgrow2.block s hone2.out.lt (fun h0 => by have := hvb'.out s h0.symm; omega)).trans hone2.out; have q2 := hone3.cell; have f2 := hone3.free)
      have hgb2 : s + 2 ≤ g2 := (hown2.lt g2 rfl).1
      have hgs := gb_set w2 s (.slice (some ⟨g2, 0, none⟩) (got.length + 1) cap2)
      have hnb : ∀ k, k < s + 2 → some k ≠ v.ownBlock := fun k hk h0 => by have := hvb'.out k h0.symm; omega
      have hrg3 := hrg2.out.kept hgrow2 (hnb b (by have := hbs'.out; omega)) (hnb r (by have := hrs'.out; omega))
      have hrg4 := hrg3.kept hgs (by have := hbs'.out; simp; omega) (by have := hrs'.out; simp; omega)
      have hown3 := hown2.kept (row := some s) hgs (.inr (by show some g2 ≠ some s; simp; omega))
      have hb2 : Below w.heap.size w w2 := hb1.out.grown hgrow2 hb1.out.size (fun k e => by have := hvb'.out k e; have := hs'.out; omega)
      have hb3 : Below w.heap.size w (w2.setCell ⟨s, 0, none⟩ (.slice (some ⟨g2, 0, none⟩) (got.length + 1) cap2)) := hb2.trans ⟨hgs.os, hgs.tape, hgs.output, hgs.size, fun k hk => hgs.block k (Nat.lt_of_lt_of_le hk hb2.size) (by rw [← hs'.out] at hk; simp; omega)⟩
      refine ⟨⟨_, cnt1, got ++ [(x, c)], _, hrg4, hone3.set _, ?_, hb3, hgot2.out, by have := hlen'.out; simp; omega, ?_⟩, ?_⟩
      · rw [List.length_append, cellsP_app]
        exact hown3
      · exact Nat.le_trans (Nat.le_trans hz1'.out (by simp)) (Nat.le_trans hgrow2.size hgs.size)
      · rw [hrg4.left_eq]; exact hleft.out
end Go.Proofs.YtldiamldbpobgaaGreatDoor.Own

namespace Go.Proofs.YtldiamldbpobgaaGreatDoor.Own
open Go.Shelf Go.RowKit Go.Lib Go.Sort Go.Maps Go.WideMaps
set_option linter.unusedVariables false
set_option linter.unusedSimpArgs false

def ImplIs (w : World) (mb : List UInt8) (r : Option (List KV)) (e : Ending) (w' : World) : Prop := Below w.heap.size w w' ∧ match r with
  | some al => ∃ v got, e = .returned (.tuple #[.string ⟨mb.toArray⟩, v, .bool true]) ∧ got.Perm al ∧ PRow w' v got
  | none => e = .returned (.tuple #[.string ⟨#[]⟩, .slice none 0 0, .bool false])
set_option maxHeartbeats 1000000 in
theorem rcptI_no (w : World) (l : List UInt8) (hl : l.length ≤ 500) (ha : Asci l) (hc : cutF l toL = none) :
    Calls Tryz.prog 7 #[.string ⟨l.toArray⟩] w (ImplIs w [] none) := by
  have hr := Lib.hid (rcpt_no w l hl ha hc)
  go_enter Tryz.func7, Tryz.ntmps7
  go_wp2_with (go_at_call 13; refine hr.out.mono ?_; rintro e w1 ⟨hb, t, v, rfl⟩)
  go_ret3
  exact ⟨hb, rfl⟩
set_option maxHeartbeats 4000000 in
theorem rcptI_yes (w : World) (l a mb rest : List UInt8) (hl : l.length ≤ 500) (ha : Asci l) (hc : cutF l toL = some a) (hp : PathIs (Lib.trimSpace a) mb rest) (hal : (Lib.trimSpace a).length ≤ 500) (haa : a.length ≤ 500) (hasc : Asci a) (hrl : rest.length ≤ 500) (hra : Asci rest)
    (htab : Lib.TabIs Tryz.prog w "strings.asciiSpace" .u8 Lib.asciiSpaceTab) :
    Calls Tryz.prog 7 #[.string ⟨l.toArray⟩] w (ImplIs w mb (argsF (Lib.fields rest) [])) := by
  have hr := Lib.hid (rcpt_yes w l a mb rest hl ha hc hp hal haa hasc hrl hra htab)
  clear hc hp htab
  go_enter Tryz.func7, Tryz.ntmps7
  go_wp2_with fail
  refine hr.out.mono ?_
  rintro e w1 ⟨hb, hR⟩
  have hb' := Lib.hid hb
  rcases hx : argsF (Lib.fields rest) [] with _ | al
  · rw [hx] at hR
    obtain ⟨m, t, v, rfl⟩ := hR
    have hfin : Hid (ImplIs w mb (argsF (Lib.fields rest) []) (.returned (.tuple #[.string ⟨#[]⟩, .slice none 0 0, .bool false])) w1) := Lib.hid (by
      rw [hx]
      exact ⟨hb, rfl⟩)
    clear hx hr hb
    go_wp2_with fail
    go_ret3
    exact hfin.out
  · rw [hx] at hR
    obtain ⟨b, n, D, rfl, hown, hrep, hn⟩ := hR
    have hpm := Lib.hid (params_any w1 b n D al hown hrep hn)
    have hx' := Lib.hid hx
    clear hx hr hb hown hrep
    go_wp2_with (go_at_call 14; refine hpm.out.mono ?_; rintro e w2 ⟨hb2, v, got, rfl, hperm, hrow⟩)
    go_ret3
    refine ⟨hb'.out.trans (hb2.mono hb'.out.size), ?_⟩
    rw [hx'.out]
    exact ⟨v, got, rfl, hperm, hrow⟩
set_option maxHeartbeats 1000000 in
theorem mailI_no (w : World) (l : List UInt8) (hl : l.length ≤ 500) (ha : Asci l) (hc : cutF l fromL = none) :
    Calls Tryz.prog 10 #[.string ⟨l.toArray⟩] w (ImplIs w [] none) := by
  have hr := Lib.hid (mail_no w l hl ha hc)
  go_enter Tryz.func10, Tryz.ntmps10
  go_wp2_with (go_at_call 18; refine hr.out.mono ?_; rintro e w1 ⟨hb, t, v, rfl⟩)
  go_ret3
  exact ⟨hb, rfl⟩
set_option maxHeartbeats 4000000 in
theorem mailI_yes (w : World) (l a mb rest : List UInt8) (hl : l.length ≤ 500) (ha : Asci l) (hc : cutF l fromL = some a) (hp : RPathIs (Lib.trimSpace a) mb rest) (hal : (Lib.trimSpace a).length ≤ 500) (haa : a.length ≤ 500) (hasc : Asci a) (hrl : rest.length ≤ 500) (hra : Asci rest)
    (htab : Lib.TabIs Tryz.prog w "strings.asciiSpace" .u8 Lib.asciiSpaceTab) :
    Calls Tryz.prog 10 #[.string ⟨l.toArray⟩] w (ImplIs w mb (argsF (Lib.fields rest) [])) := by
  have hr := Lib.hid (mail_yes w l a mb rest hl ha hc hp hal haa hasc hrl hra htab)
  clear hc hp htab
  go_enter Tryz.func10, Tryz.ntmps10
  go_wp2_with fail
  refine hr.out.mono ?_
  rintro e w1 ⟨hb, hR⟩
  have hb' := Lib.hid hb
  rcases hx : argsF (Lib.fields rest) [] with _ | al
  · rw [hx] at hR
    obtain ⟨m, t, v, rfl⟩ := hR
    have hfin : Hid (ImplIs w mb (argsF (Lib.fields rest) []) (.returned (.tuple #[.string ⟨#[]⟩, .slice none 0 0, .bool false])) w1) := Lib.hid (by
      rw [hx]
      exact ⟨hb, rfl⟩)
    clear hx hr hb
    go_wp2_with fail
    go_ret3
    exact hfin.out
  · rw [hx] at hR
    obtain ⟨b, n, D, rfl, hown, hrep, hn⟩ := hR
    have hpm := Lib.hid (params_any w1 b n D al hown hrep hn)
    have hx' := Lib.hid hx
    clear hx hr hb hown hrep
    go_wp2_with (go_at_call 14; refine hpm.out.mono ?_; rintro e w2 ⟨hb2, v, got, rfl, hperm, hrow⟩)
    go_ret3
    refine ⟨hb'.out.trans (hb2.mono hb'.out.size), ?_⟩
    rw [hx'.out]
    exact ⟨v, got, rfl, hperm, hrow⟩
end Go.Proofs.YtldiamldbpobgaaGreatDoor.Own
