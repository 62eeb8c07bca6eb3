/- FnNotify, the plain law: of every row of at most six words of NOTIFY, NotifyFits tells what the reference tells of the words with commas between. -/
import Derived.Test.YtnokeaiemiiicaaPFnNotifyx2
import Derived.Test.YtnokeaiemiiicaaPlain
namespace Go.Proofs.Ytnokeaiemiiicaa.Pure
open Go.RowKit Go.Proofs.Ytnokeaiemiiicaa.PFnNotify Go.Proofs.YtnokeaiemiiicaaW.PrintWords Go.Proofs.YtnokeaiemiiicaaW.PrintLast Go.Proofs.Ytnokeaiemiiicaa.Own
set_option linter.unusedVariables false
set_option linter.unusedSimpArgs false

/-- zzFits2 ends, whatever it tells. -/
theorem no_fits (l : List ByteArray) (hl : l.length < 9223372036854775807) : ∃ b, Ev (fun k => laws_zzFits2.f k l) b := by
  by_cases h : (l.length : Int) > 2147483647
  · exact ⟨false, Ev.always (fun k => by unfold laws_zzFits2.f; rw [if_pos h])⟩
  · have loop : ∀ (d i : Nat), i + d = l.length → ∃ b, Ev (fun k => laws_zzFits2.l0 k l (l.length : Int) (i : Int)) b := by
      intro d
      induction d with
      | zero => exact fun i hi => ⟨true, Ev.one (fun k => by simp only [laws_zzFits2.l0]; rw [if_neg (by omega)])⟩
      | succ d ih =>
        intro i hi
        by_cases c : ((rdOf ByteArray.empty l (i : Int)).size : Int) > 2147483647
        · exact ⟨false, Ev.one (fun k => by simp only [laws_zzFits2.l0]; rw [if_pos (by omega), if_pos (by omega), if_pos (by omega), if_pos c])⟩
        · obtain ⟨b, hb⟩ := ih (i + 1) (by omega)
          exact ⟨b, Ev.step (fun k => by simp only [laws_zzFits2.l0]; rw [if_pos (by omega), if_pos (by omega), if_pos (by omega), if_neg c, wrap_succ (by omega)]) hb⟩
    obtain ⟨b, hb⟩ := loop l.length 0 (by omega)
    exact ⟨b, Ev.congr (fun k => by unfold laws_zzFits2.f; rw [if_neg h]; rfl) hb⟩

/-- among: is the text one of some. -/
theorem no_among (l : List ByteArray) (w : ByteArray) (hl : l.length < 100) : Ev (fun k => spec_among.f k l w) (l.any fun s => s.toList == w.toList) := by
  have loop : ∀ (d i : Nat), i + d = l.length → Ev (fun k => spec_among.l0 k l w (i : Int)) ((l.drop i).any fun s => s.toList == w.toList) := by
    intro d
    induction d with
    | zero =>
      intro i hi
      rw [List.drop_of_length_le (by omega)]
      exact Ev.one (fun k => by simp only [spec_among.l0]; rw [if_neg (by omega)]; rfl)
    | succ d ih =>
      intro i hi
      have hlt : i < l.length := by omega
      rw [List.drop_eq_getElem_cons hlt, List.any_cons]
      by_cases c : (l[i]).toList = w.toList
      · rw [beq_iff_eq.2 c, Bool.true_or]
        refine Ev.one (fun k => ?_)
        simp only [spec_among.l0]
        rw [if_pos (by omega), if_pos (by omega), rd_some _ l i _ (List.getElem?_eq_getElem hlt), if_pos c]
      · rw [beq_eq_false_iff_ne.2 c, Bool.false_or]
        refine Ev.step (fun k => ?_) (ih (i + 1) (by omega))
        simp only [spec_among.l0]
        rw [if_pos (by omega), if_pos (by omega), rd_some _ l i _ (List.getElem?_eq_getElem hlt), if_neg c, wrap_succ (by omega)]
  have := loop l.length 0 (by omega)
  rw [List.drop_zero] at this
  exact Ev.congr (fun k => rfl) this

def NEVER : List UInt8 := [78, 69, 86, 69, 82]
def SUCCESS : List UInt8 := [83, 85, 67, 67, 69, 83, 83]
def FAILURE : List UInt8 := [70, 65, 73, 76, 85, 82, 69]
def DELAY : List UInt8 := [68, 69, 76, 65, 89]
def isSFD (w : List UInt8) : Bool := w == SUCCESS || w == FAILURE || w == DELAY
def isWord (w : List UInt8) : Bool := w == NEVER || isSFD w
/-- The words with commas between. -/
def J : List (List UInt8) → List UInt8
  | [] => []
  | [w] => w
  | w :: v :: r => w ++ 44 :: J (v :: r)
/-- What the reference's loop tells of the words. -/
def okT : List (List UInt8) → List (List UInt8) → Bool
  | _, [] => true
  | seen, w :: r => isSFD w && !seen.contains w && okT (seen ++ [w]) r

theorem isWord_cases {w : List UInt8} (h : isWord w = true) : w = NEVER ∨ w = SUCCESS ∨ w = FAILURE ∨ w = DELAY := by
  simp only [isWord, isSFD, Bool.or_eq_true, beq_iff_eq] at h
  rcases h with h | (h | h) | h <;> simp [h]
theorem word_no_comma {w : List UInt8} (h : isWord w = true) : (44 : UInt8) ∉ w := by
  rcases isWord_cases h with rfl | rfl | rfl | rfl <;> decide
theorem word_up {w : List UInt8} (h : isWord w = true) : w.map upB = w := by
  rcases isWord_cases h with rfl | rfl | rfl | rfl <;> decide
theorem word_len {w : List UInt8} (h : isWord w = true) : w.length ≤ 7 := by
  rcases isWord_cases h with rfl | rfl | rfl | rfl <;> decide
theorem J_up (l : List (List UInt8)) (h : ∀ w ∈ l, isWord w = true) : (J l).map upB = J l := by
  induction l with
  | nil => rfl
  | cons w r ih =>
    cases r with
    | nil => exact word_up (h w (by simp))
    | cons v r =>
      rw [J, List.map_append, List.map_cons, word_up (h w (by simp)), ih (fun x hx => h x (by simp [hx]))]
      rfl
theorem J_len (l : List (List UInt8)) (h : ∀ w ∈ l, isWord w = true) : (J l).length ≤ 8 * l.length := by
  induction l with
  | nil => simp [J]
  | cons w r ih =>
    cases r with
    | nil => have := word_len (h w (by simp)); simp [J]; omega
    | cons v r =>
      have := word_len (h w (by simp)); have := ih (fun x hx => h x (by simp [hx]))
      rw [J, List.length_append, List.length_cons]
      simp only [List.length_cons] at this ⊢
      omega
theorem J_snoc (l : List (List UInt8)) (hl : l ≠ []) (w : List UInt8) : J (l ++ [w]) = J l ++ 44 :: w := by
  induction l with
  | nil => exact absurd rfl hl
  | cons v r ih =>
    cases r with
    | nil => rfl
    | cons u r =>
      rw [List.cons_append, List.cons_append, J, ← List.cons_append, ih (by simp), J, List.append_assoc]
      rfl

/-- The text that was cut. -/
def rT (T : ByteArray) (b : Bool) : ByteArray × Bool := if b then (T, true) else ((⟨#[]⟩ : ByteArray), false)

theorem not_seen {seen : List ByteArray} {w : ByteArray} (h : seen.any (fun s => s.toList == w.toList) = false) : (seen.map (·.toList)).contains w.toList = false := by
  rw [List.contains_eq_mem, decide_eq_false_iff_not]
  intro hm
  obtain ⟨s, hs, he⟩ := List.mem_map.1 hm
  rw [List.any_eq_false] at h
  exact h s hs (by rw [he]; simp)
theorem is_seen {seen : List ByteArray} {w : ByteArray} (h : seen.any (fun s => s.toList == w.toList) = true) : (seen.map (·.toList)).contains w.toList = true := by
  rw [List.any_eq_true] at h
  obtain ⟨s, hs, he⟩ := h
  rw [List.contains_eq_mem, decide_eq_true_eq]
  exact List.mem_map.2 ⟨s, hs, by simpa using he⟩

/-- At the end of a word: it is looked at; then the loop goes on behind it. -/
theorem no_word (T : ByteArray) (seen : List ByteArray) (a b : Nat) (w : List UInt8) (r : Bool) (hab : a ≤ b) (hb : b ≤ T.size) (hT : T.size < 1000) (hs : seen.length < 50) (hw : (T.extract a b).toList = w)
    (hr : isSFD w = true → (seen.map (·.toList)).contains w = false → Ev (fun k => spec_Notify.l0 k T (seen ++ [T.extract a b]) ((b + 1 : Nat) : Int) ((b + 1 : Nat) : Int)) (rT T r)) :
    Ev (fun k => spec_Notify.j1 k T seen (a : Int) (b : Int) false) (rT T (isSFD w && !(seen.map (·.toList)).contains w && r)) := by
  have hext : T.extract ((a : Int)).toNat ((b : Int)).toNat = T.extract a b := by simp
  have ham := no_among seen (T.extract a b) (by omega)
  have go : ∀ (S : Prop) [Decidable S], isSFD w = true → Ev (fun k => (spec_among.f k seen (T.extract a b)).bind fun t104 => (if t104 = true then (some ((⟨#[]⟩ : ByteArray), false)) else (if seen.length < 8796093022208 then (spec_Notify.l0 k T (seen ++ [T.extract a b]) (wrap64 ((b : Int) + 1)) (wrap64 ((b : Int) + 1))) else (none)))) (rT T (isSFD w && !(seen.map (·.toList)).contains w && r)) := by
    intro S _ hsfd
    refine Ev.bind ham ?_
    cases hh : seen.any (fun s => s.toList == (T.extract a b).toList) with
    | true =>
      have := is_seen hh
      rw [hw] at this
      rw [this, hsfd]
      exact Ev.always (fun k => by rfl)
    | false =>
      have := not_seen hh
      rw [hw] at this
      rw [this, hsfd]
      refine Ev.congr (fun k => ?_) (hr hsfd this)
      rw [if_neg (by simp), if_pos (by omega), wrap_succ (by omega)]
  by_cases c1 : w = ([83, 85, 67, 67, 69, 83, 83] : List UInt8)
  · refine Ev.step (fun k => ?_) (go True (by rw [c1]; rfl))
    simp only [spec_Notify.j1, Bool.false_eq_true, if_false, hext, hw]
    rw [if_pos (by omega), if_pos (by omega), if_pos (by omega), if_pos c1]
  · by_cases c2 : w = ([70, 65, 73, 76, 85, 82, 69] : List UInt8)
    · refine Ev.step (fun k => ?_) (go True (by rw [c2]; rfl))
      simp only [spec_Notify.j1, Bool.false_eq_true, if_false, hext, hw]
      rw [if_pos (by omega), if_pos (by omega), if_pos (by omega), if_neg c1, if_pos c2]
    · by_cases c3 : w = ([68, 69, 76, 65, 89] : List UInt8)
      · refine Ev.step (fun k => ?_) (go True (by rw [c3]; rfl))
        simp only [spec_Notify.j1, Bool.false_eq_true, if_false, hext, hw]
        rw [if_pos (by omega), if_pos (by omega), if_pos (by omega), if_neg c1, if_neg c2, if_pos c3]
      · have : isSFD w = false := by simp [isSFD, SUCCESS, FAILURE, DELAY, c1, c2, c3]
        rw [this]
        refine Ev.one (fun k => ?_)
        simp only [spec_Notify.j1, Bool.false_eq_true, if_false, hext, hw]
        rw [if_pos (by omega), if_pos (by omega), if_pos (by omega), if_neg c1, if_neg c2, if_neg c3]
        rfl

/-- The loop behind some words: what is left are words with commas between. -/
theorem no_loop (T : ByteArray) (hT : T.size < 1000) : ∀ (ws : List (List UInt8)) (seen : List ByteArray) (pre : List UInt8), ws ≠ [] → (∀ w ∈ ws, isWord w = true) → seen.length + ws.length < 50 → T.data.toList = pre ++ J ws →
    Ev (fun k => spec_Notify.l0 k T seen (pre.length : Int) (pre.length : Int)) (rT T (okT (seen.map (·.toList)) ws)) := by
  intro ws
  induction ws with
  | nil => exact fun _ _ h => absurd rfl h
  | cons w rest ih =>
    intro seen pre _ hws hlen hpre
    have hw := hws w (by simp)
    have hsz := size_list T
    -- the word stands at pre.length
    have hJ : ∃ tl, J (w :: rest) = w ++ tl := by
      cases rest with
      | nil => exact ⟨[], by simp [J]⟩
      | cons v r => exact ⟨44 :: J (v :: r), rfl⟩
    obtain ⟨tl, htl⟩ := hJ
    rw [htl] at hpre
    have hL : T.data.toList.length = pre.length + w.length + tl.length := by rw [hpre]; simp; omega
    have hext : (T.extract pre.length (pre.length + w.length)).toList = w := by
      rw [Lib.toList_data, ext_list, hpre, List.drop_left' rfl]
      simp
    -- scanning the word's signs
    have scan : ∀ (d j : Nat), j + d = w.length → (∀ R, Ev (fun k => spec_Notify.l0 k T seen (pre.length : Int) ((pre.length + w.length : Nat) : Int)) R → Ev (fun k => spec_Notify.l0 k T seen (pre.length : Int) ((pre.length + j : Nat) : Int)) R) := by
      intro d
      induction d with
      | zero => intro j hj R hR; obtain rfl : j = w.length := by omega
                exact hR
      | succ d ihd =>
        intro j hj R hR
        have hjw : j < w.length := by omega
        have hget : T.data.toList[pre.length + j]? = some w[j] := by
          rw [hpre, List.getElem?_append_right (by omega), List.getElem?_append_left (by omega)]
          simp [List.getElem?_eq_getElem hjw]
        have hbt := bt_some T (pre.length + j) _ hget
        have hne : (((w[j]).toNat : Int) != 44) = true := by
          rw [bne_iff_ne]
          intro h
          have : w[j] = (44 : UInt8) := u8_eq_lit (n := 44) (by decide) h
          exact word_no_comma hw (this ▸ List.getElem_mem hjw)
        refine Ev.step (f := fun k => spec_Notify.j1 k T seen (pre.length : Int) ((pre.length + j : Nat) : Int) true) (fun k => ?_) ?_
        · simp only [spec_Notify.l0]
          rw [if_pos (by omega), if_pos (by omega), if_pos (by omega), hbt, hne]
        · refine Ev.step (fun k => ?_) (ihd (j + 1) (by omega) R hR)
          simp only [spec_Notify.j1, if_true]
          rw [wrap_succ (by omega)]
          rfl
    have key : Ev (fun k => spec_Notify.j1 k T seen (pre.length : Int) ((pre.length + w.length : Nat) : Int) false) (rT T (okT (seen.map (·.toList)) (w :: rest))) := by
      refine no_word T seen pre.length (pre.length + w.length) w (okT (seen.map (·.toList) ++ [w]) rest) (by omega) (by omega) hT (by simp at hlen; omega) hext (fun hsfd hns => ?_)
      cases rest with
      | nil =>
        have : tl = [] := by
          have : J [w] = w := rfl
          rw [this] at htl
          simpa using htl
        subst this
        refine Ev.one (fun k => ?_)
        simp only [spec_Notify.l0]
        rw [if_neg (by simp at hL; omega)]
        rfl
      | cons v r =>
        have htl' : tl = 44 :: J (v :: r) := by
          have : J (w :: v :: r) = w ++ 44 :: J (v :: r) := rfl
          rw [this] at htl
          simpa using htl.symm
        have := ih (seen ++ [T.extract pre.length (pre.length + w.length)]) (pre ++ w ++ [44]) (by simp) (fun x hx => hws x (by simp [hx])) (by simp at hlen ⊢; omega) (by rw [hpre, htl']; simp)
        have e : (pre ++ w ++ [44]).length = pre.length + w.length + 1 := by simp; omega
        rw [e, List.map_append, List.map_singleton, hext] at this
        exact this
    have h0 := scan w.length 0 (by omega)
    rw [Nat.add_zero] at h0
    refine h0 _ ?_
    by_cases hend : pre.length + w.length < T.size
    · have htl2 : ∃ c t, tl = c :: t := by
        cases tl with
        | nil => simp at hL; omega
        | cons c t => exact ⟨c, t, rfl⟩
      obtain ⟨c, t, rfl⟩ := htl2
      have hc : c = 44 := by
        cases rest with
        | nil => have : J [w] = w := rfl
                 rw [this] at htl; simp at htl
        | cons v r => have : J (w :: v :: r) = w ++ 44 :: J (v :: r) := rfl
                      rw [this] at htl; simp at htl; exact htl.1.symm
      have hget : T.data.toList[pre.length + w.length]? = some 44 := by
        rw [hpre, List.getElem?_append_right (by omega), List.getElem?_append_right (by omega)]
        simp [hc]
      refine Ev.step (fun k => ?_) key
      simp only [spec_Notify.l0]
      rw [if_pos (by omega), if_pos (by omega), if_pos (by omega), bt_some T _ _ hget]
      rfl
    · refine Ev.step (fun k => ?_) key
      simp only [spec_Notify.l0]
      rw [if_pos (by omega), if_neg (by omega)]

/-- What the reference tells, and what NotifyFits tells. -/
theorem okT_eq (ws : List (List UInt8)) : ∀ seen : List (List UInt8), seen.Nodup → okT seen ws = (ws.all isSFD && decide ((seen ++ ws).Nodup)) := by
  induction ws with
  | nil => intro seen h; simp [okT, h]
  | cons w r ih =>
    intro seen h
    rw [okT]
    cases hw : isSFD w with
    | false => simp [hw]
    | true =>
      cases hs : seen.contains w with
      | true =>
        have hm : w ∈ seen := by simpa using hs
        have : decide ((seen ++ w :: r).Nodup) = false := by
          rw [decide_eq_false_iff_not, List.nodup_append]
          intro hn
          exact hn.2.2 w hm w (by simp) rfl
        rw [this]
        simp
      | false =>
        have hm : w ∉ seen := by simpa using hs
        rw [ih (seen ++ [w]) (by rw [List.nodup_append]; exact ⟨h, by simp, fun a ha b hb hab => by
          rw [List.mem_singleton.1 hb] at hab; exact hm (hab ▸ ha)⟩)]
        simp [hw]

theorem fits_words (l : List ByteArray) (hl : 0 < l.length) (h : ∀ s ∈ l, isWord s.toList = true) :
    notifyB l = (if J (l.map (·.toList)) = NEVER then true else okT [] (l.map (·.toList))) := by
  have hmap : l.map (·.data.toList) = l.map (·.toList) := List.map_congr_left (fun s _ => (Lib.toList_data s).symm)
  have hall : l.all nWord = true := List.all_eq_true.2 (fun s hs => by
    have := h s hs
    rcases isWord_cases this with e | e | e | e <;> simp [nWord, e, NEVER, SUCCESS, FAILURE, DELAY])
  rw [okT_eq _ [] (by simp), List.nil_append]
  unfold notifyB
  rw [hall, hmap, Bool.true_and]
  match l, hl, h with
  | [s], _, h =>
    have hw := h s (by simp)
    by_cases e : s.toList = NEVER
    · rw [show J (List.map (·.toList) [s]) = s.toList from rfl, if_pos e]
      simp
    · rw [show J (List.map (·.toList) [s]) = s.toList from rfl, if_neg e]
      have : isSFD s.toList = true := by
        simp only [isWord, Bool.or_eq_true, beq_iff_eq] at hw
        rcases hw with hw | hw
        · exact absurd hw e
        · exact hw
      simp [this]
  | s :: t :: r, _, h =>
    have hJ : J (List.map (·.toList) (s :: t :: r)) ≠ NEVER := by
      intro he
      have : (44 : UInt8) ∈ J (List.map (·.toList) (s :: t :: r)) := by
        show (44 : UInt8) ∈ s.toList ++ 44 :: J (t.toList :: r.map (·.toList))
        simp
      rw [he] at this
      exact absurd this (by decide)
    rw [if_neg hJ]
    have h1 : decide ((s :: t :: r).length ≤ 1) = false := by simp
    rw [h1, Bool.false_or]
    cases hN : (List.map (·.toList) (s :: t :: r)).contains nNever with
    | true =>
      have hm : nNever ∈ List.map (·.toList) (s :: t :: r) := by simpa using hN
      have : (List.map (·.toList) (s :: t :: r)).all isSFD = false := by
        rw [List.all_eq_false]
        exact ⟨nNever, hm, by decide⟩
      rw [this]
      simp
    | false =>
      have hm : nNever ∉ List.map (·.toList) (s :: t :: r) := by simpa using hN
      have : (List.map (·.toList) (s :: t :: r)).all isSFD = true := by
        rw [List.all_eq_true]
        intro w hw
        obtain ⟨x, hx, rfl⟩ := List.mem_map.1 hw
        have hx' := h x hx
        simp only [isWord, Bool.or_eq_true, beq_iff_eq] at hx'
        rcases hx' with e | e
        · exact absurd (List.mem_map.2 ⟨x, hx, e⟩) hm
        · exact e
      rw [this]
      simp

theorem no_spec (l : List ByteArray) (T : ByteArray) (hl : 0 < l.length) (h6 : l.length ≤ 6) (h : ∀ s ∈ l, isWord s.toList = true) (hT : T.data.toList = J (l.map (·.toList))) :
    ∃ x, Ev (fun k => spec_Notify.f k T) (x, notifyB l) := by
  have hall : ∀ w ∈ l.map (·.toList), isWord w = true := by
    intro w hw
    obtain ⟨s, hs, rfl⟩ := List.mem_map.1 hw
    exact h s hs
  have hlen := J_len _ hall
  rw [List.length_map] at hlen
  have hsz : T.size ≤ 48 := by rw [size_list, hT]; omega
  have hup : upS T = T := ba_ext (by
    show ((T.data.toList.map upB).toArray).toList = _
    rw [List.toList_toArray, hT, J_up _ hall])
  have hf : Own.spec_Upper.f T = some T := by unfold Own.spec_Upper.f; rw [if_pos (by omega), hup]
  rw [fits_words l hl h]
  by_cases hN : J (l.map (·.toList)) = NEVER
  · rw [if_pos hN]
    refine ⟨T, Ev.always (fun k => ?_)⟩
    unfold spec_Notify.f
    rw [hf]
    simp only [Option.bind_some]
    rw [if_pos (by rw [Lib.toList_data, hT, hN]; rfl)]
  · rw [if_neg hN]
    have := no_loop T (by omega) (l.map (·.toList)) [] [] (by intro e; rw [List.map_eq_nil_iff] at e; rw [e] at hl; simp at hl) hall (by simp; omega) (by rw [hT]; rfl)
    have e : rT T (okT [] (l.map (·.toList))) = ((rT T (okT [] (l.map (·.toList)))).1, okT [] (l.map (·.toList))) := by unfold rT; split <;> simp_all
    refine ⟨(rT T (okT [] (l.map (·.toList)))).1, ?_⟩
    rw [← e]
    refine Ev.congr (fun k => ?_) this
    unfold spec_Notify.f
    rw [hf]
    simp only [Option.bind_some]
    rw [if_neg (by rw [Lib.toList_data, hT]; exact hN)]
    rfl

theorem isWord_of {w : List UInt8} (h : w = [78, 69, 86, 69, 82] ∨ w = [83, 85, 67, 67, 69, 83, 83] ∨ w = [70, 65, 73, 76, 85, 82, 69] ∨ w = [68, 69, 76, 65, 89]) : isWord w = true := by
  rcases h with rfl | rfl | rfl | rfl <;> decide

theorem no_main (l : List ByteArray) (hl : 0 < l.length) (h6 : l.length ≤ 6) : ∀ (d i : Nat) (T : ByteArray), i + d = l.length → T.data.toList = J ((l.take i).map (·.toList)) → (∀ s ∈ l.take i, isWord s.toList = true) →
    Ev (fun k => laws_FnNotify.l0 k l T (i : Int)) true := by
  intro d
  induction d with
  | zero =>
    intro i T hi hT hw
    rw [List.take_of_length_le (by omega)] at hT hw
    obtain ⟨x, hx⟩ := no_spec l T hl h6 hw hT
    have hfit : Own.impl_NotifyFits.f l = some (notifyB l) := by
      unfold Own.impl_NotifyFits.f
      rw [if_pos ⟨hl, by omega, List.all_eq_true.2 (fun s hs => by
        have := word_len (hw s hs)
        rw [Lib.toList_data, ← size_list] at this
        rw [decide_eq_true_eq]; unfold maxLen; omega)⟩]
    refine Ev.step (f := fun k => (spec_Notify.f k T).bind fun bt117 => ((Own.impl_NotifyFits.f l).bind fun t119 => (some (t119 == bt117.2)))) (fun k => ?_) ?_
    · simp only [laws_FnNotify.l0]
      rw [if_neg (by omega)]
    · refine Ev.bind hx (Ev.always (fun k => ?_))
      rw [hfit]
      simp
  | succ d ih =>
    intro i T hi hT hw
    have hlt : i < l.length := by omega
    obtain ⟨s, hs⟩ : ∃ s, s = l[i] := ⟨_, rfl⟩
    have hget : l[i]? = some s := by rw [hs]; exact List.getElem?_eq_getElem hlt
    have hrd := rd_some ByteArray.empty l i s hget
    have htk : l.take (i + 1) = l.take i ++ [s] := by rw [List.take_succ_eq_append_getElem hlt, hs]
    have hJl := J_len ((l.take i).map (·.toList)) (by
      intro w hw'; obtain ⟨x, hx, rfl⟩ := List.mem_map.1 hw'; exact hw x hx)
    rw [List.length_map, List.length_take] at hJl
    have hTs : T.size ≤ 48 := by rw [size_list, hT]; omega
    have good : isWord s.toList = true → Ev (fun k => laws_FnNotify.j2 k l T (i : Int) false) true := fun hsw => by
      have hsl := word_len hsw
      rw [Lib.toList_data, ← size_list] at hsl
      have hw' : ∀ x ∈ l.take (i + 1), isWord x.toList = true := by
        rw [htk]; intro x hx
        rcases List.mem_append.1 hx with hx | hx
        · exact hw x hx
        · rw [List.mem_singleton.1 hx]; exact hsw
      by_cases h0 : i = 0
      · subst h0
        have hT0 : T.data.toList = [] := by rw [hT]; rfl
        refine Ev.step (fun k => ?_) (ih 1 (T ++ s) (by omega) ?_ hw')
        · simp only [laws_FnNotify.j2, Bool.false_eq_true, if_false, hrd]
          rw [if_neg (by omega), if_pos (by omega), if_pos (by omega), if_pos (by omega), wrap_succ (by omega)]
        · rw [app_list, hT0, htk]
          simp [J, Lib.toList_data]
      · refine Ev.step (fun k => ?_) (ih (i + 1) ((T ++ (⟨#[44]⟩ : ByteArray)) ++ s) (by omega) ?_ hw')
        · have e1 : (T ++ (⟨#[44]⟩ : ByteArray)).size = T.size + 1 := by rw [ByteArray.size_append]; rfl
          simp only [laws_FnNotify.j2, Bool.false_eq_true, if_false, hrd]
          rw [if_pos (by omega), if_pos (by omega), if_pos (by omega), if_pos (by omega), if_pos (by rw [e1]; omega), wrap_succ (by omega)]
        · rw [app_list, app_list, hT, htk, List.map_append, List.map_singleton, J_snoc _ (by
            intro e
            rw [List.map_eq_nil_iff, List.take_eq_nil_iff] at e
            rcases e with e | e
            · exact h0 e
            · rw [e] at hl; simp at hl)]
          simp [Lib.toList_data]
    by_cases c1 : s.toList = ([78, 69, 86, 69, 82] : List UInt8)
    · refine Ev.step (fun k => ?_) (good (isWord_of (Or.inl c1)))
      simp only [laws_FnNotify.l0, hrd]
      rw [if_pos (by omega), if_pos (by omega), if_pos c1]
    by_cases c2 : s.toList = ([83, 85, 67, 67, 69, 83, 83] : List UInt8)
    · refine Ev.step (fun k => ?_) (good (isWord_of (Or.inr (Or.inl c2))))
      simp only [laws_FnNotify.l0, hrd]
      rw [if_pos (by omega), if_pos (by omega), if_neg c1, if_pos c2]
    by_cases c3 : s.toList = ([70, 65, 73, 76, 85, 82, 69] : List UInt8)
    · refine Ev.step (fun k => ?_) (good (isWord_of (Or.inr (Or.inr (Or.inl c3)))))
      simp only [laws_FnNotify.l0, hrd]
      rw [if_pos (by omega), if_pos (by omega), if_neg c1, if_neg c2, if_pos c3]
    by_cases c4 : s.toList = ([68, 69, 76, 65, 89] : List UInt8)
    · refine Ev.step (fun k => ?_) (good (isWord_of (Or.inr (Or.inr (Or.inr c4)))))
      simp only [laws_FnNotify.l0, hrd]
      rw [if_pos (by omega), if_pos (by omega), if_neg c1, if_neg c2, if_neg c3, bne_eq_false_iff_eq.2 c4]
    · refine Ev.step (f := fun k => laws_FnNotify.j2 k l T (i : Int) true) (fun k => ?_) (Ev.one (fun k => by simp only [laws_FnNotify.j2, if_true]))
      simp only [laws_FnNotify.l0, hrd]
      rw [if_pos (by omega), if_pos (by omega), if_neg c1, if_neg c2, if_neg c3, bne_iff_ne.2 c4]

/-- The law, over lists of texts alone. -/
theorem FnNotify (l : List ByteArray) (hl : l.length < 9223372036854775807) : ∃ k, laws_FnNotify.f k l = some true := by
  obtain ⟨b, hb⟩ := no_fits l hl
  suffices h : Ev (fun k => laws_FnNotify.f k l) true from h.rounds
  unfold laws_FnNotify.f
  refine Ev.bind hb ?_
  cases b with
  | false => exact Ev.always (fun k => by simp)
  | true =>
    simp only [if_true]
    by_cases h0 : (l.length : Int) = 0
    · simp only [if_pos h0]
      exact Ev.one (fun k => by simp only [laws_FnNotify.j0, if_true])
    · simp only [if_neg h0]
      by_cases h6 : (l.length : Int) > 6
      · rw [decide_eq_true h6]
        exact Ev.one (fun k => by simp only [laws_FnNotify.j0, if_true])
      · rw [decide_eq_false h6]
        refine Ev.step (fun k => ?_) (no_main l (by omega) (by omega) l.length 0 (⟨#[]⟩ : ByteArray) (by omega) rfl (by simp))
        simp only [laws_FnNotify.j0, Bool.false_eq_true, if_false]
        rfl
end Go.Proofs.Ytnokeaiemiiicaa.Pure
