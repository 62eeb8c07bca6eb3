/- FnUpdatedFlags: the law's call returns true, walked by hand. -/
import Derived.Test.YtnokeaiemiiicaaFlags9
import Derived.Maps.OwnOps
import Derived.Maps.Views
import Derived.Maps.OwnSet
import Derived.Deep.DeepCutAuto
import Derived.OpenShut
namespace Go.Proofs.Ytnokeaiemiiicaa.Pure
open Go.RowKit Go.Proofs.Ytnokeaiemiiicaa.Own Go.Proofs.YtnokeaiemiiicaaW.PrintWords Go.Proofs.YtnokeaiemiiicaaW.PrintLast
open Go.Maps Go.WideMaps
set_option linter.unusedVariables false
set_option linter.unusedSimpArgs false

theorem drawn_trans {a b c : World} (h : Drawn0 a b) (k : Drawn0 b c) : Drawn0 a c := by
  obtain ⟨⟨n, rfl⟩⟩ := k
  exact h.step n
theorem drawn_cells {w w' : World} (h : Drawn0 w w') {A : Option Addr} {l : List ByteArray} (hc : Cells w A l) : Cells w' A l := by
  obtain ⟨⟨n, rfl⟩⟩ := h
  exact hc
def TruePost (w : World) (e : Ending) (w' : World) : Prop := e = .returned (.bool true) ∧ Below w.heap.size w w'

/-- What the map seen says of each text. -/
def SeenIs (D : DataW Unit) (L : List ByteArray) : Prop := IsMap D ∧ ∀ s : ByteArray, D.atKey (.string s.data.toList) (.lit (.int .i64 0)) = .lit (.int .i64 (if hasU L s then 1 else 0))
theorem seen_nil : SeenIs (.map []) [] := ⟨⟨[], rfl⟩, fun s => rfl⟩
theorem seen_step (D : DataW Unit) (L : List ByteArray) (s : ByteArray) (h : SeenIs D L) : SeenIs (D.put (.string s.data.toList) (.lit (.int .i64 1))) (L ++ [s]) := by
  obtain ⟨hm, ha⟩ := h
  refine ⟨IsMap.put hm _ _, fun t => ?_⟩
  by_cases hts : t = s
  · subst hts
    rw [atKey_put_same hm (by trivial), if_pos ((hasU_iff _ _).2 (by simp))]
  · rw [atKey_put_other (by intro e; apply hts; apply ba_ext; exact (Lit.string.inj e)), ha t]
    congr 3
    have : hasU (L ++ [s]) t = hasU L t := by
      rw [Bool.eq_iff_iff, hasU_iff, hasU_iff, List.mem_append, List.mem_singleton]
      exact ⟨fun h => h.elim id (fun h => absurd h hts), Or.inl⟩
    rw [this]
theorem seen_at (D : DataW Unit) (L : List ByteArray) (s : ByteArray) (h : SeenIs D L) (c : Int) (hat : D.atKey (.string s.data.toList) (.lit (.int .i64 0)) = .lit (.int .i64 c)) : c = if hasU L s then 1 else 0 := by
  rw [h.2 s] at hat
  cases hat
  rfl
theorem flags_nodup : ∀ (l : List ByteArray), (∀ j, j < l.length → FlagAt l j) → l.Nodup := by
  intro l h
  rw [List.nodup_iff_pairwise_ne, List.pairwise_iff_getElem]
  intro i j hi hj hij e
  have hf := (h j hj).2
  rw [List.getD_eq_getElem?_getD, List.getElem?_eq_getElem hj] at hf
  have : hasU (l.take j) l[j] = true := (hasU_iff _ _).2 (by
    rw [List.mem_take_iff_getElem]
    exact ⟨i, by omega, e⟩)
  rw [show (some l[j]).getD ByteArray.empty = l[j] from rfl, this] at hf
  cases hf
theorem flags_size (l : List ByteArray) (h : ∀ j, j < l.length → FlagAt l j) : ∀ s ∈ l, s.size ≤ 40 := by
  intro s hs
  obtain ⟨j, hj, rfl⟩ := List.mem_iff_getElem.1 hs
  have := (h j hj).1
  rwa [List.getD_eq_getElem?_getD, List.getElem?_eq_getElem hj] at this
theorem nodup_new (l : List ByteArray) (h : l.Nodup) (k : Nat) (hk : k < l.length) : hasU (l.take k) (l.getD k ByteArray.empty) = false := by
  rw [Bool.eq_false_iff, ne_eq, hasU_iff, List.getD_eq_getElem?_getD, List.getElem?_eq_getElem hk]
  intro hm
  obtain ⟨i, hi, he⟩ := List.mem_take_iff_getElem.1 hm
  rw [List.nodup_iff_pairwise_ne, List.pairwise_iff_getElem] at h
  exact h i k (by omega) hk (by omega) he
theorem getD_mem (l : List ByteArray) (k : Nat) (hk : k < l.length) : l.getD k ByteArray.empty ∈ l := by
  rw [List.getD_eq_getElem?_getD, List.getElem?_eq_getElem hk]; exact List.getElem_mem hk
theorem drawn_map {w w' : World} (h : Drawn0 w w') {b n : Nat} {D : DataW Unit} (hm : w.ownsMap Try.prog 9 (plainElem Try.prog 3) b n D) : w'.ownsMap Try.prog 9 (plainElem Try.prog 3) b n D := by
  obtain ⟨⟨n, rfl⟩⟩ := h
  exact hm
theorem drawn_row {w w' : World} (h : Drawn0 w w') {base g cap : Nat} {X : List ByteArray} (hm : RowS w base g cap X) : RowS w' base g cap X := by
  obtain ⟨⟨n, rfl⟩⟩ := h
  exact hm
theorem str_law : Keyed Try.prog 9 := string_keyed Try.underlying9
theorem int_zero (w : World) : (zeroValue 3).run Try.prog w = .ok (.int .i64 0) w := by kernel_rfl

set_option maxRecDepth 1000000 in
set_option maxHeartbeats 4000000 in
theorem walk_any (A1 : Option Addr) (c1 : Nat) (l1 : List ByteArray) (A2 : Option Addr) (c2 : Nat) (l2 : List ByteArray) (x : Int) (w : World)
    (hr1 : Kd.C Kd.string w A1 l1.length l1) (hc1 : l1.length ≤ c1) (hm1 : l1.length * 16 ≤ 140737488351232) (hr2 : Kd.C Kd.string w A2 l2.length l2) (hc2 : l2.length ≤ c2) (hm2 : l2.length * 16 ≤ 140737488351232) (hx : 0 ≤ x ∧ x ≤ 255) :
    Calls Try.prog 7 #[.slice A1 l1.length c1, .slice A2 l2.length c2, .int .u8 x] w (TruePost w) := by
  have hcell1 := Lib.hid (cells_of_C hr1)
  have hcell2 := Lib.hid (cells_of_C hr2)
  clear hr1 hr2
  obtain ⟨b1, hz1⟩ := zz_any A1 l1 c1 hc1
  obtain ⟨b2, hz2⟩ := zz_any A2 l2 c2 hc2
  have k1 := Lib.hid (fun W (hh : Hid (Drawn0 w W)) => have hd := hh.out;  hz1 W (C_of_cells (drawn_cells hd hcell1.out) (by omega)))
  have k2 := Lib.hid (fun W (hh : Hid (Drawn0 w W)) => have hd := hh.out;  hz2 W (C_of_cells (drawn_cells hd hcell2.out) (by omega)))
  have k3 := Lib.hid (fun W (hh : Hid (Drawn0 w W)) => have hd := hh.out;  flags_any A1 l1 c1 W (drawn_cells hd hcell1.out) hc1 (by omega))
  have k4 := Lib.hid (fun W (hh : Hid (Drawn0 w W)) => have hd := hh.out;  flags_any A2 l2 c2 W (drawn_cells hd hcell2.out) hc2 (by omega))
  clear hz1 hz2
  have hd0 := Lib.hid (Drawn0.refl w)
  go_enter Try.func7, Try.ntmps7
  cases b1 with
  | false =>
    go_wp2_with fail
    go_at_call 10
    refine (k1.out w hd0).mono ?_
    rintro e w1 ⟨rfl, hd1'⟩
    have hd1 := Lib.hid hd1'
    clear hd1'
    go_wp2
    go_ret
    exact ⟨rfl, hd1.out.below⟩
  | true =>
    go_wp2_with fail
    go_at_call 10
    refine (k1.out w hd0).mono ?_
    rintro e w1 ⟨rfl, hd1'⟩
    have hd1 := Lib.hid hd1'
    clear hd1'
    cases b2 with
    | false =>
      go_wp2_with fail
      go_at_call 10
      refine (k2.out w1 hd1).mono ?_
      rintro e w2 ⟨rfl, hd2'⟩
      have hd2 := Lib.hid (drawn_trans hd1.out hd2')
      clear hd2'
      go_wp2
      go_ret
      exact ⟨rfl, hd2.out.below⟩
    | true =>
      go_wp2_with fail
      go_at_call 10
      refine (k2.out w1 hd1).mono ?_
      rintro e w2 ⟨rfl, hd2'⟩
      have hd2 := Lib.hid (drawn_trans hd1.out hd2')
      clear hd2'
      go_wp2_with fail
      go_at_call 18
      refine (k3.out w2 hd2).mono ?_
      rintro e w3 ⟨b3, rfl, hok1', hd3'⟩
      have hd3 := Lib.hid (drawn_trans hd2.out hd3')
      have hok1 := Lib.hid hok1'
      clear hd3' hok1'
      cases b3 with
      | false =>
        go_wp2
        go_ret
        exact ⟨rfl, hd3.out.below⟩
      | true =>
        go_wp2_with fail
        go_at_call 18
        refine (k4.out w3 hd3).mono ?_
        rintro e w4 ⟨b4, rfl, hok2', hd4'⟩
        have hd4 := Lib.hid (drawn_trans hd3.out hd4')
        have hok2 := Lib.hid hok2'
        clear hd4' hok2'
        cases b4 with
        | false =>
          go_wp2
          go_ret
          exact ⟨rfl, hd4.out.below⟩
        | true =>
          go_upto_region 5 with (fail)
          go_cut [7] (fun s7 wx => s7 = .string (opText (x % 3).toNat) ∧ Cells wx A1 l1 ∧ Cells wx A2 l2 ∧ Below w.heap.size w wx)
          case first =>
            have hB4 : Below w.heap.size w w4 := hd4.out.below
            have hC1 : ∀ o, Cells (w4.alloc o) A1 l1 := fun o => (drawn_cells hd4.out hcell1.out).kept ((Below.refl w4.heap.size w4).alloc (Nat.le_refl _) o) (Nat.le_refl _)
            have hC2 : ∀ o, Cells (w4.alloc o) A2 l2 := fun o => (drawn_cells hd4.out hcell2.out).kept ((Below.refl w4.heap.size w4).alloc (Nat.le_refl _) o) (Nat.le_refl _)
            have hmod : x % 3 = 0 ∨ x % 3 = 1 ∨ x % 3 = 2 := by omega
            have hB4' := Lib.hid hB4
            have hC1' := Lib.hid hC1
            have hC2' := Lib.hid hC2
            have hbz := hB4.size
            clear hB4 hC1 hC2
            have hx0 := hx.1
            have hx1 := hx.2
            rcases hmod with hmod | hmod | hmod
            all_goals
              have htm := (Int.tmod_eq_emod_of_nonneg (b := 3) hx0).trans hmod
              have hmod' := Lib.hid hmod
              clear hmod hx
              go_wp2
              go_meet
              exact ⟨by rw [hmod'.out]; rfl, hC1'.out _, hC2'.out _, hB4'.out.alloc hbz _⟩
          case rest =>
          obtain ⟨rfl, hC1, hC2, hB⟩ := hcut
          have ok1 := hok1.out (by trivial)
          have ok2 := hok2.out (by trivial)
          obtain ⟨op, hop⟩ : ∃ op, op = (x % 3).toNat := ⟨_, rfl⟩
          have hop3 : op = 0 ∨ op = 1 ∨ op = 2 := by omega
          rw [← hop] at *
          clear hop k1 k2 k3 k4 hok1 hok2 hcell1 hcell2 hd0 hd1 hd2 hd3 hd4 hm1 hm2 hx
          have hl1 := ok1.1
          have hl2 := ok2.1
          have hC1' := Lib.hid hC1
          have hC2' := Lib.hid hC2
          have hB' := Lib.hid hB
          have hbz := hB.size
          have ok1' := Lib.hid ok1
          have ok2' := Lib.hid ok2
          obtain ⟨T, hT⟩ : ∃ T, T = opText op := ⟨_, rfl⟩
          rw [← hT]
          have hT' := Lib.hid hT
          clear hC1 hC2 hB ok1 ok2 hT
          have hmm := @run_makeMap Try.prog
          go_wp2_with (first
            | (at_builtin; refine wpList_append_rows _ rfl _ _ 22 rfl Try.underlying22 wc.heap.size wc.heap.size 0 [] 0 rfl rfl (row_nil wc _ (Nat.le_refl _)) A1 l1.length c1 l1 rfl rfl (hC1'.out.kept ((Below.refl wc.heap.size wc).alloc (Nat.le_refl _) _) (Nat.le_refl _)) (by simp) (by omega) (by simp) ?_; intro g1 cap1 w1 hrow1 hgrow1)
            | (at_builtin; refine wpList_append_rows _ rfl _ _ 22 rfl Try.underlying22 w1.heap.size w1.heap.size 0 [] 0 rfl rfl (row_nil w1 _ (Nat.le_refl _)) A2 l2.length c2 l2 rfl rfl (hC2'.out.kept ((((Below.refl wc.heap.size wc).alloc (Nat.le_refl _) _).grown hgrow1 (by simp) (fun k e => by cases e; exact Nat.le_refl _)).alloc (by have := hgrow1.size; simp at this; omega) _) (Nat.le_refl _)) (by simp) (by omega) (by simp) ?_; intro g2 cap2 w2 hrow2 hgrow2)
            | fail)
          have hs1 : wc.heap.size < w1.heap.size := by have := hgrow1.size; simp at this; omega
          have hs2 : w1.heap.size < w2.heap.size := by have := hgrow2.size; simp at this; omega
          have hg1 := hrow1.lt
          have hg2 := hrow2.lt
          have r1 : RowS w2 wc.heap.size g1 cap1 l1 := (hrow1.alloc (.cells #[] 9)).kept hgrow2 (by simp; omega)
          have r2 : RowS w2 wc.heap.size g2 cap2 l2 := RowS.mono hrow2 (by omega)
          have b1 : Below wc.heap.size wc w1 := ((Below.refl _ _).alloc (Nat.le_refl _) _).grown hgrow1 (by simp) (fun k e => by cases e; exact Nat.le_refl _)
          have b2 := Lib.hid (show Below wc.heap.size wc w2 from (b1.alloc (by omega) _).grown hgrow2 (by simp; omega) (fun k e => by cases e; omega))
          have hu := updated_any op wc.heap.size g1 cap1 g2 cap2 l1 l2 w2 r1 r2 (by omega) (by omega)
          rw [← hT'.out] at hu
          have hu' := Lib.hid hu
          clear hu b1 r1 r2 hrow1 hrow2 hgrow1 hgrow2
          go_at_call 19
          refine hu'.out.mono ?_
          rintro e w3 ⟨g3, cap3, rfl, hrow3, hb3⟩
          obtain ⟨R, hR⟩ : ∃ R, R = upd op l1 l2 := ⟨_, rfl⟩
          rw [← hR] at hrow3 ⊢
          have hR' := Lib.hid hR
          have hrow3' := Lib.hid hrow3
          have hb3' := Lib.hid (b2.out.trans (hb3.mono (by omega)))
          have hs3 := hb3.size
          have hg3 := hrow3.lt
          clear hR hrow3 hb3 hu' b2
          have hup := upd_good op l1 l2 (flags_nodup l1 ok1'.out.2) (flags_nodup l2 ok2'.out.2)
          rw [← hR'.out] at hup
          have hsz := Lib.hid (show ∀ s ∈ l1 ++ l2, s.size ≤ 40 from fun s hs => by
            rcases List.mem_append.1 hs with h | h
            · exact flags_size l1 ok1'.out.2 s h
            · exact flags_size l2 ok2'.out.2 s h)
          have hszR := Lib.hid (show ∀ s ∈ R, s.size ≤ 40 from fun s hs => hsz.out s (due_all op l1 l2 s ((hup.2 s).1 hs)))
          have hup' := Lib.hid hup
          clear hup
          have hRl : R.length ≤ 24 := by
            have := nodup_len hup'.out.1 (l2 := l1 ++ l2) (fun s hs => due_all op l1 l2 s ((hup'.out.2 s).1 hs))
            rw [List.length_append] at this
            omega
          go_wp2_with fail
          go_loopw [50] (fun i wr => ∃ (k : Nat) (D : DataW Unit), k ≤ R.length ∧ i = .int .i64 k ∧ wr.ownsMap Try.prog 9 (plainElem Try.prog 3) w3.heap.size k D ∧ SeenIs D (R.take k) ∧ RowS wr w2.heap.size g3 cap3 R ∧ Below wc.heap.size wc wr) (fun i _ => R.length - (intOf i).toNat)
          case atStart => exact ⟨0, .map [], Nat.zero_le _, rfl, World.ownsMap_made _ _ _ _, seen_nil, hrow3'.out.alloc _, hb3'.out.alloc (by omega) _⟩
          case round =>
            obtain ⟨k, D, hk, rfl, hown, hsn, hrow, hbel⟩ := hrel
            have hbs := hbel.size
            by_cases hlt : k < R.length
            · obtain ⟨s, hs⟩ : ∃ s, s = R.getD k ByteArray.empty := ⟨_, rfl⟩
              have hcx : wr.cell? ⟨g3, k, none⟩ = some (.string s) := by rw [hs]; exact hrow.cell k hlt
              have hnew := Lib.hid (nodup_new R hup'.out.1 k hlt)
              rw [← hs] at hnew
              have hkey : keyOf Try.prog 9 (.string s) = some (.string s.data.toList) := keyOf_string_mk Try.underlying9 (by have := hszR.out s (by rw [hs]; exact getD_mem R k hlt); unfold maxLen; omega)
              have htk := Lib.hid (take_getD R k hlt)
              rw [← hs] at htk
              have hsn' := Lib.hid hsn
              have hrow' := Lib.hid hrow
              have hbel' := Lib.hid hbel
              clear hs hsn hrow hbel
              go_wp2_with (first
                | (at_lookup; refine wpList_lookup_own_int _ rfl _ _ 39 rfl 9 3 .i64 str_law Try.underlying39 Try.underlying3 (int_zero _) w3.heap.size k _ rfl hown _ _ rfl hkey ?_; intro c hat hwc; obtain rfl : c = 0 := (by have := seen_at _ _ _ hsn'.out c hat; rw [hnew.out] at this; exact this); clear hat hwc)
                | (at_mapUpdate; refine wpList_mapUpdate_own _ rfl _ _ _ 39 rfl 9 3 str_law Try.underlying39 _ w3.heap.size k _ rfl hown (by unfold maxLen; omega) _ _ _ rfl rfl hkey _ [] (plainElem_int Try.underlying3 (by decide)) ?_; intro w5 hown5 hgrow5)
                | fail)
              exact ⟨⟨k + 1, _, by omega, by go_num, hown5, (by rw [htk.out]; exact seen_step _ _ _ hsn'.out), hrow'.out.kept hgrow5 (by simp; omega), hbel'.out.grown hgrow5 (by omega) (fun q e => by cases e; omega)⟩, by simp [intOf]; omega⟩
            · obtain rfl : k = R.length := by omega
              rw [List.take_length] at hsn
              have hsn' := Lib.hid hsn
              have hrow' := Lib.hid hrow
              have hbel' := Lib.hid hbel
              have hown' := Lib.hid hown
              clear hsn hrow hbel hown
              rename World => wq
              have hmb := hown'.out.lt
              go_wp2_with (first
                | (at_builtin; refine wpList_append_rows _ rfl _ _ 22 rfl Try.underlying22 wq.heap.size wq.heap.size 0 [] 0 rfl rfl (row_nil wq _ (Nat.le_refl _)) A1 l1.length c1 l1 rfl rfl (hC1'.out.kept (hbel'.out.alloc hbs _) (Nat.le_refl _)) (by simp) (by omega) (by simp) ?_; intro ga capa wa hrowa hgrowa; have hba := Lib.hid ((hbel'.out.alloc hbs (.cells #[] 9)).grown hgrowa (by simp; omega) (fun k e => by cases e; exact hbs)); have hma := Lib.hid ((hown'.out.alloc (.cells #[] 9)).kept hgrowa (by simp; omega)); have hga := hrowa.lt; have hsa := hgrowa.size)
                | (at_builtin; refine wpList_append_rows _ rfl _ _ 22 rfl Try.underlying22 wq.heap.size ga capa l1 l1.length rfl rfl hrowa A2 l2.length c2 l2 rfl rfl (hC2'.out.kept hba.out (Nat.le_refl _)) (by omega) (by omega) (by simp at hsa; omega) ?_; intro gb capb wb hrowb hgrowb)
                | fail)
              obtain ⟨all, hall⟩ : ∃ all, all = l1 ++ l2 := ⟨_, rfl⟩
              obtain ⟨N, hN⟩ : ∃ N, N = l1.length + l2.length := ⟨_, rfl⟩
              have hNl : all.length = N := by rw [hall, hN, List.length_append]
              have hN24 : N ≤ 24 := by omega
              have hrowb' := Lib.hid (show RowS wb wq.heap.size gb capb all by rw [hall]; exact hrowb)
              have hgb := hrowb.lt
              have hbb := Lib.hid (hba.out.grown hgrowb (by have := hba.out.size; omega) (fun k e => by cases e; omega))
              have hmb' := Lib.hid (hma.out.kept hgrowb (by simp; omega))
              have hCb1 := Lib.hid (hC1'.out.kept hbb.out (Nat.le_refl _))
              have hCb2 := Lib.hid (hC2'.out.kept hbb.out (Nat.le_refl _))
              have hall' := Lib.hid hall
              have hNl' := Lib.hid hNl
              have hNi : (l1.length : Int) + (l2.length : Int) = (N : Int) := by omega
              rw [← hN]
              try rw [hNi]
              clear hNi
              have hcapb := hrowb'.out.len_cap
              rw [hNl] at hcapb
              clear hall hNl hN hrowb hgrowb hgrowa hrowa hga hsa hmb hown' hbel' hrow' hC1' hC2' hba hma
              go_loopw [12, 68] (fun m i wr => ∃ j mm : Nat, j ≤ N ∧ i = .int .i64 j ∧ m = .int .i64 mm ∧ mm ≤ j ∧ Picked op l1 l2 (all.take j) mm ∧ Hid (Drawn0 wb wr)) (fun _ i _ => N - (intOf i).toNat)
              case atStart => exact ⟨0, 0, Nat.zero_le _, rfl, rfl, Nat.zero_le _, picked_nil _ _ _, Lib.hid (Drawn0.refl _)⟩
              case round =>
                obtain ⟨j, mm, hj, rfl, rfl, hmj, hpk, hdr⟩ := hrel
                have hpk' := Lib.hid hpk
                clear hpk
                by_cases hlt : j < N
                · have hlt' : j < all.length := by rw [hNl'.out]; exact hlt
                  obtain ⟨s, hs⟩ : ∃ s, s = all.getD j ByteArray.empty := ⟨_, rfl⟩
                  have hcs : wr.cell? ⟨gb, j, none⟩ = some (.string s) := by rw [hs]; exact (drawn_row hdr.out hrowb'.out).cell j hlt'
                  have htk := Lib.hid (take_getD all j hlt')
                  rw [← hs] at htk
                  have hssz : s.size ≤ 40 := hsz.out s (by rw [hs, ← hall'.out]; exact getD_mem all j hlt')
                  have hkey : keyOf Try.prog 9 (.string s) = some (.string s.data.toList) := keyOf_string_mk Try.underlying9 (by unfold maxLen; omega)
                  clear hs hlt'
                  obtain ⟨was, hwas⟩ : ∃ b, b = hasU l1 s := ⟨_, rfl⟩
                  obtain ⟨now, hnow⟩ : ∃ b, b = hasU l2 s := ⟨_, rfl⟩
                  have f1 := Lib.hid (fun W (hd : Hid (Drawn0 wb W)) => has_any A1 l1 l1.length c1 s W rfl (drawn_cells hd.out hCb1.out) (by omega) hc1)
                  have f2 := Lib.hid (fun W (hd : Hid (Drawn0 wb W)) => has_any A2 l2 l2.length c2 s W rfl (drawn_cells hd.out hCb2.out) (by omega) hc2)
                  rw [← hwas] at f1
                  rw [← hnow] at f2
                  have hwas' := Lib.hid hwas
                  have hnow' := Lib.hid hnow
                  clear hwas hnow
                  go_wp2_with fail
                  go_at_call 20
                  refine (f1.out wr hdr).mono ?_
                  rintro e wx ⟨rfl, hdx'⟩
                  have hdx := Lib.hid (drawn_trans hdr.out hdx')
                  clear hdx'
                  go_wp2_with fail
                  go_at_call 20
                  refine (f2.out wx hdx).mono ?_
                  rintro e wy ⟨rfl, hdy'⟩
                  have hdy := Lib.hid (drawn_trans hdx.out hdy')
                  clear hdy'
                  go_upto_block 4 with (fail)
                  obtain ⟨dv, hdv⟩ : ∃ b, b = due op l1 l2 s := ⟨_, rfl⟩
                  have hdv' := Lib.hid hdv
                  clear hdv
                  go_cut [17] (fun s17 wz => s17 = .bool dv ∧ wy = wz)
                  case first =>
                    have hrec : (s.toList == [92, 82, 101, 99, 101, 110, 116]) = isRec s := rfl
                    have hT2 := hT'.out
                    have hwn : dv = if op = 0 then now || (was && isRec s) else if op = 1 then was || now else was && !now := by rw [hdv'.out]; unfold due; rw [← hwas'.out, ← hnow'.out]
                    generalize isRec s = rc at hrec hwn
                    have hwn' := Lib.hid hwn
                    clear hwn
                    rcases hop3 with rfl | rfl | rfl
                    · have hA : (T.toList == [70, 76, 65, 71, 83]) = true := by rw [hT2, Lib.toList_data]; rfl
                      clear hT2
                      cases was <;> cases now
                      all_goals
                        cases rc
                        all_goals
                          go_wp2
                          go_meet
                          exact ⟨congrArg Value.bool hwn'.out.symm, rfl⟩
                    · have hA : (T.toList == [70, 76, 65, 71, 83]) = false := by rw [hT2, Lib.toList_data]; rfl
                      have hB : (T.toList == [43, 70, 76, 65, 71, 83]) = true := by rw [hT2, Lib.toList_data]; rfl
                      clear hT2
                      cases was <;> cases now
                      all_goals
                        cases rc
                        all_goals
                          go_wp2
                          go_meet
                          exact ⟨congrArg Value.bool hwn'.out.symm, rfl⟩
                    · have hA : (T.toList == [70, 76, 65, 71, 83]) = false := by rw [hT2, Lib.toList_data]; rfl
                      have hB : (T.toList == [43, 70, 76, 65, 71, 83]) = false := by rw [hT2, Lib.toList_data]; rfl
                      have hC : (T.toList == [45, 70, 76, 65, 71, 83]) = true := by rw [hT2, Lib.toList_data]; rfl
                      clear hT2
                      cases was <;> cases now
                      all_goals
                        cases rc
                        all_goals
                          go_wp2
                          go_meet
                          exact ⟨congrArg Value.bool hwn'.out.symm, rfl⟩
                  case rest =>
                  obtain ⟨rfl, rfl⟩ := hcut
                  obtain ⟨c, hlook, hat, hwc⟩ := (drawn_map hdy.out hmb'.out).lookup_int str_law Try.underlying39 Try.underlying3 (int_zero _) hkey
                  have hcv := seen_at _ _ _ hsn'.out c hat
                  have hcR : (hasU R s = true) ↔ dv = true := by rw [hasU_iff, hup'.out.2, hdv'.out]
                  clear hat hwc f1 f2 hkey hcs hdr hdx
                  cases dv with
                  | true =>
                    rw [if_pos (hcR.2 rfl)] at hcv
                    obtain rfl : c = 1 := hcv
                    have hcR' := Lib.hid hcR
                    clear hcR
                    obtain ⟨bef, hbef⟩ : ∃ b, b = hasU (all.take j) s := ⟨_, rfl⟩
                    have f3 := Lib.hid (fun c' (hc' : j ≤ c') => has_any (some ⟨gb, 0, none⟩) (all.take j) j c' s wy (by rw [List.length_take, hNl'.out]; omega) (((drawn_row hdy.out hrowb'.out).take j (by rw [hNl'.out]; omega)).cells) (by rw [List.length_take, hNl'.out]; omega) hc')
                    rw [← hbef] at f3
                    have hbef' := Lib.hid hbef
                    clear hbef
                    go_wp2_with fail
                    go_at_call 20
                    refine (f3.out _ (by omega)).mono ?_
                    rintro e wz ⟨rfl, hdz'⟩
                    have hdz := Lib.hid (drawn_trans hdy.out hdz')
                    clear hdz'
                    cases bef with
                    | true =>
                      have hp1 := Lib.hid (show Picked op l1 l2 (all.take (j + 1)) mm by rw [htk.out]; exact picked_old op l1 l2 _ mm s hpk'.out (Or.inr hbef'.out.symm))
                      go_wp2_with fail
                      go_roundw
                      case rel => exact ⟨j + 1, mm, by omega, by go_num, rfl, by omega, hp1.out, hdz⟩
                      case measure => simp [intOf]; omega
                    | false =>
                      have hp1 := Lib.hid (show Picked op l1 l2 (all.take (j + 1)) (mm + 1) by rw [htk.out]; exact picked_new op l1 l2 _ mm s hpk'.out hdv'.out.symm hbef'.out.symm)
                      go_wp2_with fail
                      go_roundw
                      case rel => exact ⟨j + 1, mm + 1, by omega, by go_num, by go_num, by omega, hp1.out, hdz⟩
                      case measure => simp [intOf]; omega
                  | false =>
                    have hnr : ¬ hasU R s = true := fun h => by cases hcR.1 h
                    rw [if_neg hnr] at hcv
                    obtain rfl : c = 0 := hcv
                    have hcR' := Lib.hid hcR
                    clear hcR hnr
                    have hp1 := Lib.hid (show Picked op l1 l2 (all.take (j + 1)) mm by rw [htk.out]; exact picked_old op l1 l2 _ mm s hpk'.out (Or.inl hdv'.out.symm))
                    go_wp2_with fail
                    go_roundw
                    case rel => exact ⟨j + 1, mm, by omega, by go_num, rfl, by omega, hp1.out, hdy⟩
                    case measure => simp [intOf]; omega
                · obtain rfl : j = N := by omega
                  have hend := Lib.hid (show R.length = mm by
                    have := hpk'.out
                    rw [← hNl'.out, List.take_length, hall'.out] at this
                    rw [hR'.out]
                    exact picked_end op l1 l2 (flags_nodup l1 ok1'.out.2) (flags_nodup l2 ok2'.out.2) mm this)
                  have hbf := Lib.hid (hB'.out.trans ((hbb.out.trans (hdr.out.below.mono hbb.out.size)).mono hbz))
                  have heqi : ((R.length : Int) == (mm : Int)) = true := by rw [hend.out]; simp
                  go_wp2_with fail
                  go_ret
                  exact ⟨rfl, hbf.out⟩
end Go.Proofs.Ytnokeaiemiiicaa.Pure
namespace Go.Proofs.Ytnokeaiemiiicaa
open Go.RowKit Go.Proofs.YtnokeaiemiiicaaW.PrintWords
theorem fnUpdatedFlags_walk (A0 : Option Addr) (c0 : Nat) (l0 : List ByteArray) (A1 : Option Addr) (c1 : Nat) (l1 : List ByteArray) (x : Int) (w : World)
    (hr0 : Kd.C Kd.string w A0 l0.length l0) (hc0 : l0.length ≤ c0) (hm0 : l0.length * 16 ≤ 140737488351232) (_hs0 : ∀ s ∈ l0, s.size ≤ maxLen)
    (hr1 : Kd.C Kd.string w A1 l1.length l1) (hc1 : l1.length ≤ c1) (hm1 : l1.length * 16 ≤ 140737488351232) (_hs1 : ∀ s ∈ l1, s.size ≤ maxLen) (wf : (Lit.int .u8 x).wf = true) :
    Calls Try.prog 7 #[.slice A0 l0.length c0, .slice A1 l1.length c1, .int .u8 x] w fun e w' => e = .returned (.bool true) ∧ Below w.heap.size w w' :=
  Pure.walk_any A0 c0 l0 A1 c1 l1 x w hr0 hc0 hm0 hr1 hc1 hm1 (bounds_u8 wf)
end Go.Proofs.Ytnokeaiemiiicaa
