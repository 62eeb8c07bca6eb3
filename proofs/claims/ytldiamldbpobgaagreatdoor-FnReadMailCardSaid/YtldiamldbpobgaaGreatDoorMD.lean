/- gosmtp.parseArgs by hand: the words of a text, as keys with values. gosmtp.ReadRcpt and gosmtp.ReadMail by hand, of lines whose path is one, or whose first word is none. (Written by wip/gen_read.py.) -/
import Derived.Test.YtldiamldbpobgaaGreatDoorMB
import Derived.Test.YtldiamldbpobgaaGreatDoorMC
import Derived.KernelRfl
namespace Go.Proofs.YtldiamldbpobgaaGreatDoor.Own
open Go.RowKit Go.Lib Go.Maps Go.WideMaps
set_option linter.unusedVariables false
set_option linter.unusedSimpArgs false

/-- A word's key, in capitals, and its value; none if it has two signs of equality. -/
def kvOf (wd : List UInt8) : Option KV := match parts ⟨wd.toArray⟩ with
  | [k] => some (Lib.toUpperA k.data.toList, [])
  | [k, v] => some (Lib.toUpperA k.data.toList, v.data.toList)
  | _ => none
def argsF : List (List UInt8) → List KV → Option (List KV)
  | [], al => some al
  | wd :: t, al => match kvOf wd with | none => none | some p => argsF t (putA al p)
def ArgsIs (w : World) (r : Option (List KV)) (e : Ending) (w' : World) : Prop := Below w.heap.size w w' ∧ match r with
  | some al => ∃ b n D, e = .returned (.tuple #[.map (some b), .nilIface]) ∧ w'.ownsMap Tryz.prog 9 (plainElem Tryz.prog 9) b n D ∧ Rep D al ∧ n ≤ 1000
  | none => ∃ t v, e = .returned (.tuple #[.map none, .iface t v])
theorem skey : Keyed Tryz.prog 9 := string_keyed Tryz.underlying9
theorem tab_move {w w' : World} {zs : List Int} (h : Lib.TabIs Tryz.prog w "strings.asciiSpace" .u8 zs) (hb : Below w.heap.size w w') : Lib.TabIs Tryz.prog w' "strings.asciiSpace" .u8 zs := by
  have hgn : Tryz.prog.globalNamed "strings.asciiSpace" = some 0 := by kernel_rfl
  unfold Lib.TabIs World.var? at h ⊢
  rw [hgn] at h ⊢
  simp only [Option.bind_some] at h ⊢
  have hlt : 0 < w.heap.size := by
    rcases Nat.lt_or_ge 0 w.heap.size with h' | h'
    · exact h'
    · rw [Array.getElem?_eq_none h'] at h; cases h
  rw [hb.block 0 hlt]
  exact h
theorem own_below {w w' : World} {b n : Nat} {D : DataW Unit} (h : w.ownsMap Tryz.prog 9 (plainElem Tryz.prog 9) b n D) (hb : Below w.heap.size w w') : w'.ownsMap Tryz.prog 9 (plainElem Tryz.prog 9) b n D :=
  h.kept (row := none) ⟨hb.os, hb.tape, hb.output, hb.size, fun k hk _ => hb.block k hk⟩ (by simp)
theorem fieldsGo_sub : ∀ (l cur : List UInt8) (wd : List UInt8), wd ∈ Lib.fieldsGo cur l → (∀ c ∈ wd, c ∈ cur ∨ c ∈ l) ∧ wd.length ≤ cur.length + l.length
  | [], cur, wd, h => by
    unfold Lib.fieldsGo at h
    split at h
    · cases h
    · rw [List.mem_singleton.1 h]
      exact ⟨fun c hc => Or.inl hc, by simp⟩
  | b :: l, cur, wd, h => by
    unfold Lib.fieldsGo at h
    split at h
    · split at h
      · have ih := fieldsGo_sub l [] wd h
        exact ⟨fun c hc => Or.inr (by rcases ih.1 c hc with h1 | h1; cases h1; exact List.mem_cons_of_mem _ h1), by have := ih.2; simp at this ⊢; omega⟩
      · rcases List.mem_cons.1 h with rfl | h
        · exact ⟨fun c hc => Or.inl hc, by simp⟩
        · have ih := fieldsGo_sub l [] wd h
          exact ⟨fun c hc => Or.inr (by rcases ih.1 c hc with h1 | h1; cases h1; exact List.mem_cons_of_mem _ h1), by have := ih.2; simp at this ⊢; omega⟩
    · have ih := fieldsGo_sub l (cur ++ [b]) wd h
      refine ⟨fun c hc => ?_, by have := ih.2; simp at this ⊢; omega⟩
      rcases ih.1 c hc with h1 | h1
      · rcases List.mem_append.1 h1 with h2 | h2
        · exact Or.inl h2
        · exact Or.inr (by rw [List.mem_singleton.1 h2]; simp)
      · exact Or.inr (List.mem_cons_of_mem _ h1)
theorem fields_sub (l : List UInt8) : ∀ wd ∈ Lib.fields l, (∀ c ∈ wd, c ∈ l) ∧ wd.length ≤ l.length := fun wd h => by
  have := fieldsGo_sub l [] wd h
  exact ⟨fun c hc => (this.1 c hc).elim (fun h => by cases h) id, by simpa using this.2⟩
theorem cntF_le : ∀ (l : List UInt8) (ws : Bool), Lib.cntF ws l ≤ l.length
  | [], ws => by simp [Lib.cntF]
  | b :: l, ws => by
    have := cntF_le l (Lib.isSp b)
    rw [Lib.cntF, List.length_cons]
    split <;> omega
theorem fields_len (l : List UInt8) : (Lib.fields l).length ≤ l.length := by
  rw [Lib.fields_length]
  exact cntF_le l true
theorem splitN_sub : ∀ (n : Nat) (s : ByteArray) (x : ByteArray), x ∈ splitN n s → x.size ≤ s.size ∧ ∀ c ∈ x.data.toList, c ∈ s.data.toList
  | 0, s, x, h => by
    rw [splitN] at h
    rw [List.mem_singleton.1 h]
    exact ⟨Nat.le_refl _, fun c hc => hc⟩
  | n + 1, s, x, h => by
    rw [splitN] at h
    split at h
    · rw [List.mem_singleton.1 h]
      exact ⟨Nat.le_refl _, fun c hc => hc⟩
    · have hsub : ∀ i j c, c ∈ (s.extract i j).data.toList → c ∈ s.data.toList := fun i j c hc => by
        rw [ByteArray.data_extract, Array.toList_extract, List.extract_eq_take_drop] at hc
        exact List.mem_of_mem_drop (List.mem_of_mem_take hc)
      rcases List.mem_cons.1 h with rfl | h
      · exact ⟨by simp; omega, hsub _ _⟩
      · have ih := splitN_sub n _ x h
        exact ⟨Nat.le_trans ih.1 (by simp), fun c hc => hsub _ _ c (ih.2 c hc)⟩
theorem splitN_ne : ∀ (n : Nat) (s : ByteArray), splitN n s ≠ []
  | 0, s => by rw [splitN]; simp
  | n + 1, s => by
    rw [splitN]
    split <;> simp
theorem split_cells (S : ByteArray) (hs : S.size ≤ 1000000) (w : World) : Calls Tryz.prog 37 #[.string S, .string ⟨#[61]⟩] w fun e w' =>
    ∃ g cap, e = .returned (.slice (some ⟨g, 0, none⟩) (parts S).length cap) ∧ (∀ W, Below w'.heap.size w' W → ∀ j x, (parts S)[j]? = some x → W.cell? ⟨g, j, none⟩ = some (.string x)) ∧ Below w.heap.size w w' := by
  refine (split_any S hs w).mono ?_
  rintro e w' ⟨g, cap, rfl, hown, hb⟩
  refine ⟨g, cap, rfl, fun W hW j x hj => ?_, hb⟩
  have h1 := hown.cells (g := g) rfl j (.string x) (by rw [List.getElem?_map, hj]; rfl)
  have hadd : (⟨g, 0, none⟩ : Addr).add j = ⟨g, j, none⟩ := by unfold Addr.add; split <;> simp_all
  rw [hadd] at h1
  exact (hW.cell (World.block_lt_of_cell? w' _ h1)).trans h1
theorem kv_key (k : List UInt8) (h : k.length ≤ 500) : keyOf Tryz.prog 9 (.string ⟨(Lib.toUpperA k).toArray⟩) = some (.string (Lib.toUpperA k)) :=
  keyOf_string_mk Tryz.underlying9 (by show (Lib.toUpperA k).length ≤ _; simp [Lib.toUpperA]; unfold maxLen; omega)
def Ginv (w wr : World) (b g : Nat) (ws : List (List UInt8)) (r : Option (List KV)) (i : Nat) : Prop :=
  i ≤ ws.length ∧ ∃ al D, wr.ownsMap Tryz.prog 9 (plainElem Tryz.prog 9) b i D ∧ Rep D al ∧ argsF (ws.drop i) al = r ∧ Below w.heap.size w wr ∧ ∀ j x, ws[j]? = some x → wr.cell? ⟨g, j, none⟩ = some (.string ⟨x.toArray⟩)
theorem gstep {w wx w3 w4 : World} {b g i : Nat} {ws : List (List UInt8)} {r : Option (List KV)} {wd : List UInt8} {al : List KV} {D : DataW Unit} {p : KV} (hb : b = w.heap.size) (hgb : g ≠ b) (hbx : Below w.heap.size w wx) (h13 : Below wx.heap.size wx w3) (hg : w3.grownBy w4 (some b))
    (hi : i < ws.length) (hcell : ∀ j x, ws[j]? = some x → wx.cell? ⟨g, j, none⟩ = some (.string ⟨x.toArray⟩)) (hown : w4.ownsMap Tryz.prog 9 (plainElem Tryz.prog 9) b (i + 1) (D.put (.string p.1) (.lit (.string p.2)))) (hrep : Rep D al)
    (hrest : argsF (wd :: ws.drop (i + 1)) al = r) (hkv : kvOf wd = some p) : Ginv w w4 b g ws r (i + 1) := by
  have hb3 : Below w.heap.size w w3 := hbx.trans (h13.mono hbx.size)
  refine ⟨hi, putA al p, _, hown, rep_put hrep p.1 p.2, ?_, hb3.grown hg hb3.size (fun j hj => by cases hj; omega), fun j x hj => ?_⟩
  · rw [argsF, hkv] at hrest
    exact hrest
  · have h1 := hcell j x hj
    have h2 := (h13.cell (World.block_lt_of_cell? wx _ h1)).trans h1
    exact hg.cell h2 (by simpa using hgb)
theorem sum_i (i : Nat) : ((i : Int) + 1) = ((i + 1 : Nat) : Int) := rfl
set_option maxHeartbeats 4000000 in
set_option maxRecDepth 100000 in
theorem args_any (w : World) (l : List UInt8) (hl : l.length ≤ 500) (ha : Asci l) (htab : Lib.TabIs Tryz.prog w "strings.asciiSpace" .u8 Lib.asciiSpaceTab) :
    Calls Tryz.prog 23 #[.string ⟨l.toArray⟩] w (ArgsIs w (argsF (Lib.fields l) [])) := by
  have hown0 := World.ownsMap_made (H := Unit) w Tryz.prog 9 (plainElem Tryz.prog 9)
  have hb0 : Below w.heap.size w (w.alloc (.map #[] 0)) := (Below.refl _ w).alloc (Nat.le_refl _) _
  have htab1 : Lib.TabIs Tryz.prog (w.alloc (.map #[] 0)) "strings.asciiSpace" .u8 Lib.asciiSpaceTab := tab_move htab hb0
  have hmk : ∀ w : World, (Instr.makeMap 38 none).run Tryz.prog w = .ok (.map (some w.heap.size)) (w.alloc (.map #[] 0)) := fun w => rfl
  have hF := Lib.hid (Tryz.strings_Fields (⟨l.toArray⟩ : ByteArray) (w.alloc (.map #[] 0)) (by show l.length < _; omega) (Asci.at ha) htab1)
  go_enter Tryz.func23, Tryz.ntmps23
  go_wp2_with (go_at_call 36; refine hF.out.mono ?_; rintro e w1 ⟨rfl, rfl⟩)
  have hF1 := fields_sub l
  have hFl := fields_len l
  have hI : Ginv w ((w.alloc (Obj.map #[] 0)).alloc (Obj.cells ((Lib.fields l).map fun l => Value.string ⟨l.toArray⟩).toArray 9)) w.heap.size (w.heap.size + 1) (Lib.fields l) (argsF (Lib.fields l) []) 0 := by
    refine ⟨Nat.zero_le _, [], .map [], own_below hown0 ((Below.refl _ _).alloc (Nat.le_refl _) _), rep_nil, rfl, hb0.alloc (by simp) _, fun j x hj => ?_⟩
    have hsz : (w.alloc (Obj.map #[] 0)).heap.size = w.heap.size + 1 := by simp
    have h1 := heap_alloc_new (w.alloc (Obj.map #[] 0)) (Obj.cells ((Lib.fields l).map fun l => Value.string ⟨l.toArray⟩).toArray 9)
    rw [hsz] at h1
    rw [cell_of_row _ _ j _ _ _ h1]
    simp [hj]
  obtain ⟨WI, hWI⟩ : ∃ W : World, W = ((w.alloc (Obj.map #[] 0)).alloc (Obj.cells ((Lib.fields l).map fun l => Value.string ⟨l.toArray⟩).toArray 9)) := ⟨_, rfl⟩
  rw [← hWI] at hI ⊢
  obtain ⟨ws, hws⟩ : ∃ ws, ws = Lib.fields l := ⟨_, rfl⟩
  rw [← hws] at hI hF1 hFl ⊢
  obtain ⟨r, hr⟩ : ∃ r, r = argsF ws [] := ⟨_, rfl⟩
  rw [← hr] at hI
  have hr' := Lib.hid hr
  have hws' := Lib.hid hws
  have hF1' := Lib.hid hF1
  have ha' := Lib.hid ha
  obtain ⟨g, hg⟩ : ∃ g, g = w.heap.size + 1 := ⟨_, rfl⟩
  obtain ⟨b, hb⟩ : ∃ b, b = w.heap.size := ⟨_, rfl⟩
  rw [← hg, ← hb] at hI
  rw [← hg, ← hb]
  have hgb : g ≠ b := by omega
  have hb' := Lib.hid hb
  clear hWI hF hown0 hb0 hmk htab htab1 hr hF1 ha hb hg hws
  go_loopw [6, 7, 12] (fun _ _ s12 wr => ∃ i : Nat, s12 = .int .i64 (i : Int) ∧ Ginv w wr b g ws r i) (fun _ _ s12 _ => ws.length - (intOf s12).toNat)
  case atStart => exact ⟨0, rfl, hI⟩
  case round =>
    obtain ⟨wx, hwx⟩ : ∃ wx : World, wx = wr := ⟨_, rfl⟩
    rw [← hwx] at hrel ⊢
    clear hwx
    obtain ⟨i, rfl, hi, al, D, hown, hrep, hrest, hbx, hcell⟩ := hrel
    rcases Nat.lt_or_ge i ws.length with hlt | hge
    · obtain ⟨wd, hwd⟩ : ∃ wd, ws[i]? = some wd := ⟨_, List.getElem?_eq_getElem hlt⟩
      have hdrop : ws.drop i = wd :: ws.drop (i + 1) := by
        rw [List.drop_eq_getElem_cons hlt]
        congr 1
        have := List.getElem?_eq_getElem hlt
        rw [this] at hwd
        exact Option.some.inj hwd
      rw [hdrop] at hrest
      obtain ⟨hs1, hs2⟩ := hF1'.out wd (List.mem_of_getElem? hwd)
      have hc := hcell i wd hwd
      obtain ⟨S, hS⟩ : ∃ S : ByteArray, S = ⟨wd.toArray⟩ := ⟨_, rfl⟩
      rw [← hS] at hc
      have hsp := Lib.hid (split_cells S (by rw [hS]; show wd.length ≤ _; omega) wx)
      have hltI : (i : Int) < (ws.length : Int) := by omega
      have hi0 : (0 : Int) ≤ (i : Int) := by omega
      have hwi : IntKind.i64.wrap ((i : Int) + 1) = ((i + 1 : Nat) : Int) := by rw [IntKind.wrap_i64]; omega
      have hcell' := Lib.hid hcell
      have hown' := Lib.hid hown
      have hrep' := Lib.hid hrep
      have hrest' := Lib.hid hrest
      have hbx' := Lib.hid hbx
      have hdrop' := Lib.hid hdrop
      have hS' := Lib.hid hS
      have hpsub : Hid (∀ x ∈ parts S, x.size ≤ 500 ∧ ∀ (j : Nat) (c : UInt8), x.data.toList[j]? = some c → c.toNat < 128) := Lib.hid (fun x hx => by
        have h1 := splitN_sub _ _ x hx
        have hz : S.size = wd.length := by rw [hS]; rfl
        refine ⟨by omega, fun j c hc2 => ha'.out c (hs1 c ?_)⟩
        have h2 := h1.2 c (List.mem_of_getElem? hc2)
        rw [hS] at h2
        exact h2)
      clear hcell hown hrep hrest hbx hS hs1
      rcases hpt : parts S with _ | ⟨k, _ | ⟨v, _ | ⟨x, rest⟩⟩⟩
      · exact absurd hpt (splitN_ne _ _)
      · -- a key alone
        have hkv : Hid (kvOf wd = some (Lib.toUpperA k.data.toList, [])) := Lib.hid (by unfold kvOf; rw [← hS'.out, hpt])
        rw [hpt] at hsp hpsub
        obtain ⟨hk1, hk2⟩ := hpsub.out k (by simp)
        have hup := Lib.hid (fun W => Tryz.strings_ToUpper_ascii k W (by omega) hk2)
        obtain ⟨K, hK⟩ : ∃ K : ByteArray, K = ⟨(Lib.toUpperA k.data.toList).toArray⟩ := ⟨_, rfl⟩
        have hkey := kv_key k.data.toList (by simpa using hk1)
        rw [← hK] at hup hkey
        have hkey' := Lib.hid hkey
        have hel : plainElem (H := Unit) Tryz.prog 9 (.string ⟨#[]⟩) = some (.lit (.string []), []) := plainElem_string Tryz.underlying9 (by show 0 ≤ _; omega)
        have hel' := Lib.hid hel
        clear hpt hk2 hkey hel hK
        go_wp2_with (first | (go_at_call 37; refine hsp.out.mono ?_; rintro e w2 ⟨g2, cap, rfl, hc2, hb2⟩; have q0 := hc2 w2 (Below.refl _ _) 0 k rfl) | (go_at_call 38; refine (hup.out _).mono ?_; rintro e w3 ⟨rfl, hb3⟩) | (at_mapUpdate; refine wpList_mapUpdate_own _ rfl _ _ _ 38 rfl 9 9 skey Tryz.underlying38 (plainElem Tryz.prog 9) b i D rfl (own_below (own_below hown'.out hb2) hb3) (by unfold maxLen; omega) _ _ _ rfl rfl hkey'.out _ [] hel'.out ?_; intro w4 hown4 hg4))
        have hw4 := gstep hb'.out hgb hbx'.out (hb2.trans (hb3.mono hb2.size)) hg4 hlt hcell'.out hown4 hrep'.out hrest'.out hkv.out
        exact ⟨⟨i + 1, rfl, hw4⟩, by simp [intOf]; omega⟩
      · -- a key and a value
        have hkv : Hid (kvOf wd = some (Lib.toUpperA k.data.toList, v.data.toList)) := Lib.hid (by unfold kvOf; rw [← hS'.out, hpt])
        rw [hpt] at hsp hpsub
        obtain ⟨hk1, hk2⟩ := hpsub.out k (by simp)
        obtain ⟨hv1, hv2⟩ := hpsub.out v (by simp)
        have hup := Lib.hid (fun W => Tryz.strings_ToUpper_ascii k W (by omega) hk2)
        obtain ⟨K, hK⟩ : ∃ K : ByteArray, K = ⟨(Lib.toUpperA k.data.toList).toArray⟩ := ⟨_, rfl⟩
        have hkey := kv_key k.data.toList (by simpa using hk1)
        rw [← hK] at hup hkey
        have hkey' := Lib.hid hkey
        have hel : plainElem (H := Unit) Tryz.prog 9 (.string v) = some (.lit (.string v.data.toList), []) := plainElem_string Tryz.underlying9 (by unfold maxLen; omega)
        have hel' := Lib.hid hel
        clear hpt hk2 hkey hel hK hv2
        go_wp2_with (go_at_call 37; refine hsp.out.mono ?_; rintro e w2 ⟨g2, cap, rfl, hc2, hb2⟩; have q0 := hc2 w2.drew ⟨rfl, rfl, rfl, Nat.le_refl _, fun _ _ => rfl⟩ 0 k rfl; have q1 := hc2 w2.drew ⟨rfl, rfl, rfl, Nat.le_refl _, fun _ _ => rfl⟩ 1 v rfl; have p0 := hc2 w2 (Below.refl _ _) 0 k rfl; have p1 := hc2 w2 (Below.refl _ _) 1 v rfl)
        go_region_with (go_at_call 38; refine (hup.out _).mono ?_; rintro e w3 ⟨rfl, hb3⟩; have hb3' : Below w2.heap.size w2 w3 := ⟨hb3.os, hb3.tape, hb3.output, hb3.size, hb3.block⟩; have r0 := hc2 w3 hb3' 0 k rfl; have r1 := hc2 w3 hb3' 1 v rfl; obtain ⟨w4, hrun4, hown4, hg4⟩ := (own_below (own_below hown'.out hb2) hb3').update skey Tryz.underlying38 (by unfold maxLen; omega) hkey'.out hel'.out)
        all_goals
          go_wp2
          exact ⟨⟨i + 1, rfl, gstep hb'.out hgb hbx'.out (hb2.trans (hb3'.mono hb2.size)) hg4 hlt hcell'.out hown4 hrep'.out hrest'.out hkv.out⟩, by simp [intOf]; omega⟩
      · -- more
        have hkv : Hid (kvOf wd = none) := Lib.hid (by unfold kvOf; rw [← hS'.out, hpt])
        rw [hpt] at hsp
        obtain ⟨n, hn⟩ : ∃ n, n = (k :: v :: x :: rest).length := ⟨_, rfl⟩
        rw [← hn] at hsp
        have hn3 : 3 ≤ n := by rw [hn]; simp
        have hn2 : ((n : Int) == 2) = false := by rw [beq_eq_false_iff_ne]; omega
        have hn1 : ((n : Int) == 1) = false := by rw [beq_eq_false_iff_ne]; omega
        have hres : Hid (∀ W t u, Below w.heap.size w W → ArgsIs w (argsF ws []) (.returned (.tuple #[.map none, .iface t u])) W) := Lib.hid (by
          intro W t u hW
          have h1 := hrest'.out
          rw [argsF, hkv.out] at h1
          rw [← hr'.out, ← h1]
          exact ⟨hW, t, u, rfl⟩)
        clear hpt hn hn3 hpsub
        go_wp2_with (go_at_call 37; refine hsp.out.mono ?_; rintro e w2 ⟨g2, cap, rfl, hc2, hb2⟩)
        go_wp2
        go_ret2
        refine hres.out _ _ _ ?_
        have h2 := hbx'.out.trans (hb2.mono hbx'.out.size)
        exact h2.alloc h2.size _
    · have hie : i = ws.length := by omega
      subst hie
      rw [List.drop_of_length_le (Nat.le_refl _)] at hrest
      have hlt' : ¬ ((ws.length : Int) < (ws.length : Int)) := by omega
      have hres : Hid (ArgsIs w r (.returned (.tuple #[.map (some b), .nilIface])) wx) := Lib.hid (by
        refine ⟨hbx, ?_⟩
        rw [← hrest]
        exact ⟨b, ws.length, D, rfl, hown, hrep, by omega⟩)
      rw [hr'.out, hws'.out] at hres
      clear hrest hown hrep hbx hcell
      go_wp2
      go_ret2
      exact hres.out
end Go.Proofs.YtldiamldbpobgaaGreatDoor.Own

namespace Go.Proofs.YtldiamldbpobgaaGreatDoor.Own
open Go.RowKit Go.Lib Go.Maps Go.WideMaps
set_option linter.unusedVariables false
set_option linter.unusedSimpArgs false

theorem bytes_below (w : World) (e : TypeId) (s : ByteArray) : Below w.heap.size w (Lib.bytesWorld w e s) :=
  ⟨rfl, rfl, rfl, by rw [Lib.bytesWorld_size]; omega, fun k hk => Lib.bytesWorld_at_old w e s k hk⟩
/-- What a call hands back behind a path: the mailbox, the map of parameters, or an error. -/
def ReadIs (w : World) (mb : List UInt8) (r : Option (List KV)) (e : Ending) (w' : World) : Prop := Below w.heap.size w w' ∧ match r with
  | some al => ∃ b n D, e = .returned (.tuple #[.string ⟨mb.toArray⟩, .map (some b), .nilIface]) ∧ w'.ownsMap Tryz.prog 9 (plainElem Tryz.prog 9) b n D ∧ Rep D al ∧ n ≤ 1000
  | none => ∃ m t v, e = .returned (.tuple #[.string ⟨mb.toArray⟩, m, .iface t v])
def toL : List UInt8 := [84, 79, 58]
def fromL : List UInt8 := [70, 82, 79, 77, 58]
theorem toL_asc : Asci toL := by intro c hc; simp [toL] at hc; rcases hc with rfl | rfl | rfl <;> decide
theorem fromL_asc : Asci fromL := by intro c hc; simp [fromL] at hc; rcases hc with rfl | rfl | rfl | rfl | rfl <;> decide
/-- l is a path and what is behind it. -/
def PathIs (l mb rest : List UInt8) : Prop := ∃ l' loc dom, l = 60 :: l' ∧ MbIs l' loc dom rest ∧ mb = loc ++ 64 :: dom ∧ loc.length + dom.length ≤ 80000
def RPathIs (l mb rest : List UInt8) : Prop := PathIs l mb rest ∨ (l = 60 :: 62 :: rest ∧ mb = [])
theorem path_is (w : World) (p : Nat) (l mb rest : List UInt8) (h : Par w p l) (hl : l.length ≤ 40000) (hp : PathIs l mb rest) :
    Calls Tryz.prog 22 #[.pointer (some ⟨p, 0, none⟩)] w fun e w' => e = .returned (.tuple #[.string ⟨mb.toArray⟩, .nilIface]) ∧ But p w w' ∧ Par w' p rest := by
  obtain ⟨l', loc, dom, rfl, hm, rfl, hll⟩ := hp
  exact path_any w p l' loc dom rest h (by simp at hl; omega) hll hm
theorem rpath_is (w : World) (p : Nat) (l mb rest : List UInt8) (h : Par w p l) (hl : l.length ≤ 40000) (hp : RPathIs l mb rest) :
    Calls Tryz.prog 26 #[.pointer (some ⟨p, 0, none⟩)] w fun e w' => e = .returned (.tuple #[.string ⟨mb.toArray⟩, .nilIface]) ∧ But p w w' ∧ Par w' p rest := by
  rcases hp with ⟨l', loc, dom, rfl, hm, rfl, hll⟩ | ⟨rfl, rfl⟩
  · exact rpath_some w p l' loc dom rest h (by simp at hl; omega) hll hm
  · exact rpath_none w p rest h
set_option maxHeartbeats 1000000 in
theorem rcpt_no (w : World) (l : List UInt8) (hl : l.length ≤ 500) (ha : Asci l) (hc : cutF l toL = none) :
    Calls Tryz.prog 13 #[.string ⟨l.toArray⟩] w fun e w' => Below w.heap.size w w' ∧ ∃ t v, e = .returned (.tuple #[.string ⟨#[]⟩, .map none, .iface t v]) := by
  have hf := Lib.hid (fold_any w l toL (by omega) (by decide) ha toL_asc)
  rw [hc] at hf
  go_enter Tryz.func13, Tryz.ntmps13
  go_wp2_with (first | (go_at_call 19; refine hf.out.mono ?_; rintro e w1 ⟨rfl, rfl⟩) | (go_at_call 20; refine (errSyn_any w).mono ?_; rintro e w2 ⟨⟨t, v, rfl⟩, hb⟩))
  go_ret3
  exact ⟨hb, t, v, rfl⟩
set_option maxHeartbeats 4000000 in
set_option maxRecDepth 100000 in
theorem rcpt_yes (w : World) (l a mb rest : List UInt8) (hl : l.length ≤ 500) (ha : Asci l) (hc : cutF l toL = some a) (hp : PathIs (Lib.trimSpace a) mb rest) (hal : (Lib.trimSpace a).length ≤ 500) (haa : a.length ≤ 500) (hasc : Asci a) (hrl : rest.length ≤ 500) (hra : Asci rest)
    (htab : Lib.TabIs Tryz.prog w "strings.asciiSpace" .u8 Lib.asciiSpaceTab) :
    Calls Tryz.prog 13 #[.string ⟨l.toArray⟩] w (ReadIs w mb (argsF (Lib.fields rest) [])) := by
  have hf := Lib.hid (fold_any w l toL (by omega) (by decide) ha toL_asc)
  rw [hc] at hf
  have ht := Lib.hid (Tryz.strings_TrimSpace (⟨a.toArray⟩ : ByteArray) w (by show a.length ≤ _; omega) (Asci.at hasc) htab)
  have hb1 := bytes_below w 5 (⟨a.toArray⟩ : ByteArray)
  obtain ⟨W1, hW1⟩ : ∃ W : World, W = Lib.bytesWorld w 5 (⟨a.toArray⟩ : ByteArray) := ⟨_, rfl⟩
  rw [← hW1] at ht hb1
  obtain ⟨T, hT⟩ : ∃ T : ByteArray, T = ⟨(Lib.trimSpace (⟨a.toArray⟩ : ByteArray).data.toList).toArray⟩ := ⟨_, rfl⟩
  have hone : Par (W1.alloc (.cells #[.string T] 49)) W1.heap.size (Lib.trimSpace a) := by
    rw [hT]
    exact One.new W1 _ _
  have hpth := Lib.hid (path_is _ W1.heap.size (Lib.trimSpace a) mb rest hone (by omega) hp)
  have hb2 : Below w.heap.size w (W1.alloc (.cells #[.string T] 49)) := hb1.alloc hb1.size _
  have hp1 : w.heap.size ≤ W1.heap.size := hb1.size
  have hargs := Lib.hid (fun W (hW : Below w.heap.size w W) => args_any W rest hrl hra (tab_move htab hW))
  rw [← hT] at ht
  clear hW1 hT hone hp hc htab
  go_enter Tryz.func13, Tryz.ntmps13
  go_wp2_with (first | (go_at_call 19; refine hf.out.mono ?_; rintro e w1 ⟨rfl, rfl⟩) | (go_at_call 21; refine ht.out.mono ?_; rintro e w2 ⟨rfl, rfl⟩) | (go_at_call 22; refine hpth.out.mono ?_; rintro e w3 ⟨rfl, hb3, hp3⟩; have q3 := One.cell hp3; have hb3' := hb3.below hb2 hp1 (Nat.le_refl _)))
  refine (hargs.out w3 hb3').mono ?_
  rintro e w4 ⟨hb4, hR⟩
  have hbb := Lib.hid (hb3'.trans (hb4.mono hb3'.size))
  rcases hr : argsF (Lib.fields rest) [] with _ | al
  · rw [hr] at hR
    obtain ⟨t, v, rfl⟩ := hR
    have hfin : Hid (∀ m, ReadIs w mb (argsF (Lib.fields rest) []) (.returned (.tuple #[.string ⟨mb.toArray⟩, m, .iface t v])) w4) := Lib.hid (fun m => by
      rw [hr]
      exact ⟨hbb.out, m, t, v, rfl⟩)
    clear hr hargs hb4
    go_wp2_with fail
    go_ret3
    exact hfin.out _
  · rw [hr] at hR
    obtain ⟨b, n, D, rfl, hown, hrep, hn⟩ := hR
    have hfin : Hid (ReadIs w mb (argsF (Lib.fields rest) []) (.returned (.tuple #[.string ⟨mb.toArray⟩, .map (some b), .nilIface])) w4) := Lib.hid (by
      rw [hr]
      exact ⟨hbb.out, b, n, D, rfl, hown, hrep, hn⟩)
    clear hr hargs hb4 hown hrep
    go_wp2_with fail
    go_ret3
    exact hfin.out
set_option maxHeartbeats 1000000 in
theorem mail_no (w : World) (l : List UInt8) (hl : l.length ≤ 500) (ha : Asci l) (hc : cutF l fromL = none) :
    Calls Tryz.prog 18 #[.string ⟨l.toArray⟩] w fun e w' => Below w.heap.size w w' ∧ ∃ t v, e = .returned (.tuple #[.string ⟨#[]⟩, .map none, .iface t v]) := by
  have hf := Lib.hid (fold_any w l fromL (by omega) (by decide) ha fromL_asc)
  rw [hc] at hf
  go_enter Tryz.func18, Tryz.ntmps18
  go_wp2_with (first | (go_at_call 19; refine hf.out.mono ?_; rintro e w1 ⟨rfl, rfl⟩) | (go_at_call 20; refine (errSyn_any w).mono ?_; rintro e w2 ⟨⟨t, v, rfl⟩, hb⟩))
  go_ret3
  exact ⟨hb, t, v, rfl⟩
set_option maxHeartbeats 4000000 in
set_option maxRecDepth 100000 in
theorem mail_yes (w : World) (l a mb rest : List UInt8) (hl : l.length ≤ 500) (ha : Asci l) (hc : cutF l fromL = some a) (hp : RPathIs (Lib.trimSpace a) mb rest) (hal : (Lib.trimSpace a).length ≤ 500) (haa : a.length ≤ 500) (hasc : Asci a) (hrl : rest.length ≤ 500) (hra : Asci rest)
    (htab : Lib.TabIs Tryz.prog w "strings.asciiSpace" .u8 Lib.asciiSpaceTab) :
    Calls Tryz.prog 18 #[.string ⟨l.toArray⟩] w (ReadIs w mb (argsF (Lib.fields rest) [])) := by
  have hf := Lib.hid (fold_any w l fromL (by omega) (by decide) ha fromL_asc)
  rw [hc] at hf
  have ht := Lib.hid (Tryz.strings_TrimSpace (⟨a.toArray⟩ : ByteArray) w (by show a.length ≤ _; omega) (Asci.at hasc) htab)
  have hb1 := bytes_below w 5 (⟨a.toArray⟩ : ByteArray)
  obtain ⟨W1, hW1⟩ : ∃ W : World, W = Lib.bytesWorld w 5 (⟨a.toArray⟩ : ByteArray) := ⟨_, rfl⟩
  rw [← hW1] at ht hb1
  obtain ⟨T, hT⟩ : ∃ T : ByteArray, T = ⟨(Lib.trimSpace (⟨a.toArray⟩ : ByteArray).data.toList).toArray⟩ := ⟨_, rfl⟩
  have hone : Par (W1.alloc (.cells #[.string T] 49)) W1.heap.size (Lib.trimSpace a) := by
    rw [hT]
    exact One.new W1 _ _
  have hpth := Lib.hid (rpath_is _ W1.heap.size (Lib.trimSpace a) mb rest hone (by omega) hp)
  have hb2 : Below w.heap.size w (W1.alloc (.cells #[.string T] 49)) := hb1.alloc hb1.size _
  have hp1 : w.heap.size ≤ W1.heap.size := hb1.size
  have hargs := Lib.hid (fun W (hW : Below w.heap.size w W) => args_any W rest hrl hra (tab_move htab hW))
  rw [← hT] at ht
  clear hW1 hT hone hp hc htab
  go_enter Tryz.func18, Tryz.ntmps18
  go_wp2_with (first | (go_at_call 19; refine hf.out.mono ?_; rintro e w1 ⟨rfl, rfl⟩) | (go_at_call 21; refine ht.out.mono ?_; rintro e w2 ⟨rfl, rfl⟩) | (go_at_call 26; refine hpth.out.mono ?_; rintro e w3 ⟨rfl, hb3, hp3⟩; have q3 := One.cell hp3; have hb3' := hb3.below hb2 hp1 (Nat.le_refl _)))
  refine (hargs.out w3 hb3').mono ?_
  rintro e w4 ⟨hb4, hR⟩
  have hbb := Lib.hid (hb3'.trans (hb4.mono hb3'.size))
  rcases hr : argsF (Lib.fields rest) [] with _ | al
  · rw [hr] at hR
    obtain ⟨t, v, rfl⟩ := hR
    have hfin : Hid (∀ m, ReadIs w mb (argsF (Lib.fields rest) []) (.returned (.tuple #[.string ⟨mb.toArray⟩, m, .iface t v])) w4) := Lib.hid (fun m => by
      rw [hr]
      exact ⟨hbb.out, m, t, v, rfl⟩)
    clear hr hargs hb4
    go_wp2_with fail
    go_ret3
    exact hfin.out _
  · rw [hr] at hR
    obtain ⟨b, n, D, rfl, hown, hrep, hn⟩ := hR
    have hfin : Hid (ReadIs w mb (argsF (Lib.fields rest) []) (.returned (.tuple #[.string ⟨mb.toArray⟩, .map (some b), .nilIface])) w4) := Lib.hid (by
      rw [hr]
      exact ⟨hbb.out, b, n, D, rfl, hown, hrep, hn⟩)
    clear hr hargs hb4 hown hrep
    go_wp2_with fail
    go_ret3
    exact hfin.out
end Go.Proofs.YtldiamldbpobgaaGreatDoor.Own
