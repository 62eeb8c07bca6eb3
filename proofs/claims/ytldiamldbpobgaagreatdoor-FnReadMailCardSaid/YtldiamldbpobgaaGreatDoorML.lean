/- FnReadMail, the law's walk: out of the contracts of both sides. (Written by wip/gen_rlaw.py.) -/
import Derived.Test.YtldiamldbpobgaaGreatDoorMJ
import Derived.BigQuiet
namespace Go.Proofs.YtldiamldbpobgaaGreatDoor.Own
open Go.RowKit Go.Lib Go.Proofs.YtldiamldbpobgaaGreatDoorW.PrintWords Go.Proofs.YtldiamldbpobgaaGreatDoorW.PrintLast
set_option linter.unusedVariables false
set_option linter.unusedSimpArgs false

set_option maxHeartbeats 8000000 in
set_option maxRecDepth 100000 in
theorem fnReadMail_walk (s : ByteArray) (w : World) (w0 : s.size ≤ 140737488351232) (henv : EnvX w) :
    Calls Tryz.prog 4 #[.string s] w fun e w' => e = .returned (.bool true) ∧ Below w.heap.size w w' := by
  rcases Nat.lt_or_ge 2147483647 s.size with h1 | h1
  · go_enter Tryz.func4, Tryz.ntmps4
    go_wp2_with fail
    go_ret
    exact ⟨rfl, Below.refl _ _⟩
  rcases Nat.lt_or_ge 300 s.size with h2 | h2
  · go_enter Tryz.func4, Tryz.ntmps4
    go_wp2_with fail
    go_ret
    exact ⟨rfl, Below.refl _ _⟩
  obtain ⟨l, hl⟩ : ∃ l, l = s.data.toList := ⟨_, rfl⟩
  have hsl : s = ⟨l.toArray⟩ := by rw [hl]
  have hl3 : l.length ≤ 300 := by rw [hl]; exact h2
  obtain ⟨b, hprn, hpr⟩ := prn_any l hl3 w
  rw [← hsl] at hprn
  replace hprn := Lib.hid hprn
  replace hl := Lib.hid hl
  replace hsl := Lib.hid hsl
  replace henv := Lib.hid henv
  cases b with
  | false =>
    clear hpr
    go_enter Tryz.func4, Tryz.ntmps4
    go_wp2_with (go_at_call 5; refine hprn.out.mono ?_; rintro e w1 ⟨rfl, hb1⟩)
    go_ret
    exact ⟨rfl, hb1⟩
  | true =>
    have hp := hpr rfl
    have hasc : Asci l := prC_asci hp
    have hbeh := fun W => beh_any l fromL hl3 hp (by decide) fromL_fold W
    rw [← hsl.out] at hbeh
    have hone := Lib.hid (fun W (h : Below w.heap.size w W) => one_mail W (henv.out.below h))
    clear hpr
    rcases hc : cutF l fromL with _ | a
    · rw [show behR l fromL = (⟨#[]⟩, false) by unfold behR; rw [hc]] at hbeh
      have hno := fun W => mailI_no W l (by omega) hasc hc
      rw [← hsl.out] at hno
      replace hno := Lib.hid hno
      replace hbeh := Lib.hid hbeh
      clear hc hp hasc
      go_enter Tryz.func4, Tryz.ntmps4
      go_wp2_with (go_at_call 5; refine hprn.out.mono ?_; rintro e w1 ⟨rfl, hb1⟩)
      refine (hbeh.out _).mono ?_
      rintro e w2 ⟨rfl, hb2⟩
      have hB2 := Lib.hid (hb1.trans (hb2.mono hb1.size))
      clear hb1 hb2 hbeh
      go_wp2_with fail
      refine (hno.out _).mono ?_
      rintro e w3 ⟨hb3, rfl⟩
      have hB3 := Lib.hid (hB2.out.trans (hb3.mono hB2.out.size))
      clear hb3 hno
      go_wp2_with fail
      refine (hone.out _ hB3.out).mono ?_
      rintro e w4 ⟨⟨m, v, rfl⟩, hb4⟩
      have hB4 := Lib.hid (hB3.out.trans (hb4.mono hB3.out.size))
      clear hb4 hone
      go_wp2_with fail
      go_ret
      exact ⟨rfl, hB4.out⟩
    · rw [show behR l fromL = (⟨(Lib.trimSpace a).toArray⟩, true) by unfold behR; rw [hc]] at hbeh
      obtain ⟨hal, hasub⟩ := cut_sub hc
      have htl := trim_len a
      obtain ⟨r, hgood, hpth⟩ := pth_any (Lib.trimSpace a) (by omega)
      obtain ⟨P, hP⟩ : ∃ P : ByteArray, P = ⟨(Lib.trimSpace a).toArray⟩ := ⟨_, rfl⟩
      rw [← hP] at hbeh hpth
      obtain ⟨M, R, sure⟩ := r
      replace hbeh := Lib.hid hbeh
      replace hpth := Lib.hid hpth
      replace hP := Lib.hid hP
      cases sure with
      | false =>
        clear hgood hc hp hasc hone hal hasub htl
        go_enter Tryz.func4, Tryz.ntmps4
        go_wp2_with (go_at_call 5; refine hprn.out.mono ?_; rintro e w1 ⟨rfl, hb1⟩)
        refine (hbeh.out _).mono ?_
        rintro e w2 ⟨rfl, hb2⟩
        have hB2 := Lib.hid (hb1.trans (hb2.mono hb1.size))
        clear hb1 hb2 hbeh
        go_wp2_with fail
        refine (hpth.out _).mono ?_
        rintro e w3 ⟨rfl, hb3⟩
        have hB3 := Lib.hid (hB2.out.trans (hb3.mono hB2.out.size))
        clear hb3 hpth
        go_wp2_with fail
        go_ret
        exact ⟨rfl, hB3.out⟩
      | true =>
        obtain ⟨rest, hR, ⟨nd, hrd⟩, hgg⟩ := hgood rfl
        obtain ⟨mb, hM, hpath⟩ : ∃ mb, M = ⟨mb.toArray⟩ ∧ RPathIs (Lib.trimSpace a) mb rest := by
          rcases hgg with ⟨mb, hM, _, hpath⟩ | ⟨hM, hL⟩
          · exact ⟨mb, hM, Or.inl hpath⟩
          · exact ⟨[], hM, Or.inr ⟨hL, rfl⟩⟩
        clear hgg
        have hR' : R = ⟨rest.toArray⟩ := hR
        have hM' : M = ⟨mb.toArray⟩ := hM
        have hrl : rest.length ≤ 300 := by rw [hrd, List.length_drop]; omega
        have hrp : ∀ c ∈ rest, prC c = true := fun c hc => hp c (hasub c (trim_sub a c (List.mem_of_mem_drop (hrd ▸ hc))))
        obtain ⟨⟨pl, pr⟩, hok, hprm⟩ := prm_any rest (by omega) hrp
        have hyes := fun W h => mailI_yes W l a mb rest (by omega) hasc hc hpath (by omega) (by omega) (prC_asci fun c h => hp c (hasub c h)) (by omega) (prC_asci hrp) h
        rw [← hsl.out] at hyes
        rw [← hR'] at hprm
        replace hyes := Lib.hid hyes
        replace hprm := Lib.hid hprm
        replace hM' := Lib.hid hM'
        clear hgood hc hp hasc hone hal hasub htl hM hR hrd hR' hrl hrp hpath
        go_enter Tryz.func4, Tryz.ntmps4
        go_wp2_with (go_at_call 5; refine hprn.out.mono ?_; rintro e w1 ⟨rfl, hb1⟩)
        refine (hbeh.out _).mono ?_
        rintro e w2 ⟨rfl, hb2⟩
        have hB2 := Lib.hid (hb1.trans (hb2.mono hb1.size))
        clear hb1 hb2 hbeh
        go_wp2_with fail
        refine (hpth.out _).mono ?_
        rintro e w3 ⟨rfl, hb3⟩
        have hB3 := Lib.hid (hB2.out.trans (hb3.mono hB2.out.size))
        clear hb3 hpth
        go_wp2_with fail
        refine (hprm.out _).mono ?_
        rintro e w4 ⟨v, rfl, hSR, hb4⟩
        have hB4 := Lib.hid (hB3.out.trans (hb4.mono hB3.out.size))
        clear hb4 hprm
        rcases hx : argsF (Lib.fields rest) [] with _ | al
        · rw [hx] at hok hyes
          obtain ⟨rfl, rfl⟩ := Prod.mk.inj (show (pl, pr) = ([], false) from hok)
          clear hx hSR hok
          go_wp2_with fail
          refine (hyes.out _ (henv.out.below hB4.out)).mono ?_
          rintro e w5 ⟨hb5, rfl⟩
          have hB5 := Lib.hid (hB4.out.trans (hb5.mono hB4.out.size))
          clear hb5 hyes
          go_wp2_with fail
          go_ret
          exact ⟨rfl, hB5.out⟩
        · rw [hx] at hok hyes
          obtain ⟨hpr, hperm, hplen⟩ := hok
          have hpr' : pr = true := hpr
          subst hpr'
          replace hperm := Lib.hid hperm
          have hpl1 : pl.length ≤ 1001 := hplen
          obtain ⟨A, cA, rfl, hSR'⟩ := hSR.below (Below.refl _ _)
          replace hSR := Lib.hid hSR
          replace hSR' := Lib.hid hSR'
          clear hx hplen hpr
          go_wp2_with fail
          refine (hyes.out _ (henv.out.below hB4.out)).mono ?_
          rintro e w5 ⟨hb5, u, got, rfl, hgot, hrow⟩
          have hB5 := Lib.hid (hB4.out.trans (hb5.mono hB4.out.size))
          obtain ⟨hlen, hmem⟩ := got_has hgot hperm.out
          obtain ⟨A', cA', hA', hSR5⟩ := hSR.out.below hb5
          obtain ⟨rfl, -, rfl⟩ : A = A' ∧ True ∧ cA = cA' := by injection hA' with e1 e2 e3; exact ⟨e1, trivial, e3⟩
          obtain ⟨B, cB, rfl, hG5⟩ := hrow.opened
          rw [← hM'.out]
          rw [hlen]
          have hMM : (M.toList == M.toList) = true := beq_self_eq_true _
          replace hSR5 := Lib.hid hSR5
          replace hG5 := Lib.hid hG5
          replace hmem := Lib.hid hmem
          replace hlen := Lib.hid hlen
          clear hb5 hyes hSR' hSR hA' hrow hgot hperm
          go_wp2_with fail
          go_loopw [19] (fun s19 wr => ∃ i : Nat, s19 = .int .i64 (i : Int) ∧ i ≤ pl.length ∧ Hid (Below w5.heap.size w5 wr)) (fun s19 _ => pl.length - (RowKit.intOf s19).toNat)
          case atStart => exact ⟨0, rfl, Nat.zero_le _, Below.refl _ _⟩
          case round =>
            obtain ⟨wq, hwq⟩ : ∃ wq : World, wq = wr := ⟨_, rfl⟩
            rw [← hwq] at hrel ⊢
            clear hwq
            obtain ⟨i, rfl, hi, hBq⟩ := hrel
            rcases Nat.lt_or_ge i pl.length with hlt | hge
            · obtain ⟨x, hx⟩ : ∃ x, pl[i]? = some x := ⟨_, List.getElem?_eq_getElem hlt⟩
              obtain ⟨ad, hAd, hx0, hx1⟩ := hSR5.out i x hx
              subst hAd
              have hxm := Lib.hid (hmem.out x (List.mem_of_getElem? hx))
              replace hx0 := Lib.hid hx0
              replace hx1 := Lib.hid hx1
              have hi1 : (0 : Int) ≤ (i : Int) := by omega
              have hi2 : (i : Int) < (pl.length : Int) := by omega
              have hwi : IntKind.i64.wrap ((i : Int) + 1) = ((i + 1 : Nat) : Int) := by rw [IntKind.wrap_i64]; omega
              clear hx
              go_wp2_with fail
              go_loopw [20, 21] (fun s20 s21 wr => ∃ (b : Bool) (k : Nat), s20 = .bool b ∧ s21 = .int .i64 (k : Int) ∧ k ≤ pl.length ∧ Hid (∀ j, j < k → got[j]? = some (kvS x) → b = true) ∧ Hid (Below w5.heap.size w5 wr)) (fun _ s21 _ => pl.length - (RowKit.intOf s21).toNat)
              case atStart => exact ⟨false, 0, rfl, rfl, Nat.zero_le _, Lib.hid (fun j hj => by omega), hBq⟩
              case round =>
                clear hBq
                obtain ⟨wz, hwz⟩ : ∃ wz : World, wz = wr := ⟨_, rfl⟩
                rw [← hwz] at hrel ⊢
                clear hwz
                obtain ⟨b, k, rfl, rfl, hk, hinv, hBz⟩ := hrel
                rcases Nat.lt_or_ge k pl.length with hltk | hgek
                · obtain ⟨p, hp⟩ : ∃ p, got[k]? = some p := ⟨_, List.getElem?_eq_getElem (by rw [hlen.out]; exact hltk)⟩
                  obtain ⟨g, hBg, hp0, hp1⟩ := hG5.out k p hp
                  subst hBg
                  obtain ⟨K, hK⟩ : ∃ K : ByteArray, K = ⟨p.1.toArray⟩ := ⟨_, rfl⟩
                  obtain ⟨V, hV⟩ : ∃ V : ByteArray, V = ⟨p.2.toArray⟩ := ⟨_, rfl⟩
                  obtain ⟨X0, hX0⟩ : ∃ X : ByteArray, X = x.f0 := ⟨_, rfl⟩
                  obtain ⟨X1, hX1⟩ : ∃ X : ByteArray, X = x.f1 := ⟨_, rfl⟩
                  rw [← hK] at hp0
                  rw [← hV] at hp1
                  have hy0 := hx0.out
                  have hy1 := hx1.out
                  rw [← hX0] at hy0
                  rw [← hX1] at hy1
                  replace hp0 := (hBz.out.cell (World.block_lt_of_cell? w5 _ hp0)).trans hp0
                  replace hp1 := (hBz.out.cell (World.block_lt_of_cell? w5 _ hp1)).trans hp1
                  replace hy0 := (hBz.out.cell (World.block_lt_of_cell? w5 _ hy0)).trans hy0
                  replace hy1 := (hBz.out.cell (World.block_lt_of_cell? w5 _ hy1)).trans hy1
                  have hk1 : (0 : Int) ≤ (k : Int) := by omega
                  have hk2 : (k : Int) < (pl.length : Int) := by omega
                  have hwk : IntKind.i64.wrap ((k : Int) + 1) = ((k + 1 : Nat) : Int) := by rw [IntKind.wrap_i64]; omega
                  have hstep := Lib.hid (show ∀ b', (b = true → b' = true) → (K = X0 → V = X1 → b' = true) → ∀ j, j < k + 1 → got[j]? = some (kvS x) → b' = true from fun b' hb hkv j hj hg => by
                    rcases Nat.lt_or_ge j k with h | h
                    · exact hb (hinv.out j h hg)
                    · obtain rfl : j = k := by omega
                      rw [hp] at hg
                      have hpx : p = kvS x := Option.some.inj hg
                      refine hkv ?_ ?_
                      · rw [hK, hX0, hpx]; rfl
                      · rw [hV, hX1, hpx]; rfl)
                  have hmz := hBz
                  clear hinv hp hK hV hX0 hX1 hBz
                  by_cases e0 : K = X0
                  · have c0 : (K.toList == X0.toList) = true := by rw [e0]; exact beq_self_eq_true _
                    by_cases e1 : V = X1
                    · have c1 : (V.toList == X1.toList) = true := by rw [e1]; exact beq_self_eq_true _
                      have hfin := Lib.hid (hstep.out true (fun _ => rfl) (fun _ _ => rfl))
                      clear hstep e0 e1
                      cases b
                      all_goals
                        go_wp2_with fail
                        go_quiet (fail)
                        go_wp2_with fail
                        go_roundw
                        case rel => exact ⟨_, k + 1, rfl, by go_num, by omega, by first | exact Lib.hid (fun _ _ _ => rfl) | exact hfin, Lib.hid (by first | exact pw_below_drewN hmz.out _ | exact hmz.out.drew | exact hmz.out)⟩
                        case measure => simp [RowKit.intOf]; omega
                    · have c1 : (V.toList == X1.toList) = false := by
                        rw [beq_eq_false_iff_ne]; intro h; exact e1 (ByteArray.ext (Array.ext' (by rw [tl, tl] at h; exact h)))
                      have hfin := Lib.hid (hstep.out b id (fun _ h => absurd h e1))
                      clear hstep e0 e1
                      cases b
                      all_goals
                        go_wp2_with fail
                        go_quiet (fail)
                        go_wp2_with fail
                        go_roundw
                        case rel => exact ⟨_, k + 1, rfl, by go_num, by omega, by first | exact Lib.hid (fun _ _ _ => rfl) | exact hfin, Lib.hid (by first | exact pw_below_drewN hmz.out _ | exact hmz.out.drew | exact hmz.out)⟩
                        case measure => simp [RowKit.intOf]; omega
                  · have c0 : (K.toList == X0.toList) = false := by
                      rw [beq_eq_false_iff_ne]; intro h; exact e0 (ByteArray.ext (Array.ext' (by rw [tl, tl] at h; exact h)))
                    have hfin := Lib.hid (hstep.out b id (fun h => absurd h e0))
                    clear hstep e0
                    cases b
                    all_goals
                      go_wp2_with fail
                      go_quiet (fail)
                      go_wp2_with fail
                      go_roundw
                      case rel => exact ⟨_, k + 1, rfl, by go_num, by omega, by first | exact Lib.hid (fun _ _ _ => rfl) | exact hfin, Lib.hid (by first | exact pw_below_drewN hmz.out _ | exact hmz.out.drew | exact hmz.out)⟩
                      case measure => simp [RowKit.intOf]; omega
                · have hk3 : ¬ (k : Int) < (pl.length : Int) := by omega
                  have hb : b = true := by
                    obtain ⟨j, hj⟩ := List.getElem?_of_mem hxm.out
                    have hjl : j < got.length := (List.getElem?_eq_some_iff.1 hj).1
                    have := hlen.out
                    exact hinv.out j (by omega) hj
                  subst hb
                  go_wp2_with fail
                  go_roundw
                  case rel => exact ⟨i + 1, by go_num, by omega, hBz⟩
                  case measure => simp [RowKit.intOf]; omega
            · have hi3 : ¬ (i : Int) < (pl.length : Int) := by omega
              have hBf := Lib.hid (hB5.out.trans (hBq.out.mono hB5.out.size))
              go_wp2_with fail
              go_ret
              exact ⟨rfl, hBf.out⟩
end Go.Proofs.YtldiamldbpobgaaGreatDoor.Own
