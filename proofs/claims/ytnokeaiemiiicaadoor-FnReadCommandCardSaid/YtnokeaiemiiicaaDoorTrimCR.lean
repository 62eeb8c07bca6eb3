/- gosmtp.zzTrimRight at line ends, for a text whose last byte is printable: the text itself. -/
import Derived.Test.YtnokeaiemiiicaaDoorPzzTrimRightx1
import Derived.Test.YtnokeaiemiiicaaDoorPlain
namespace Go.Proofs.YtnokeaiemiiicaaDoor.Own
open Go.RowKit Go.Proofs.YtnokeaiemiiicaaDoor.PzzTrimRight Go.Proofs.YtnokeaiemiiicaaDoorW.PrintWords Go.Proofs.YtnokeaiemiiicaaDoorW.PrintLast
set_option linter.unusedVariables false
set_option linter.unusedSimpArgs false

theorem ext_all (s : ByteArray) : s.extract 0 s.size = s := by
  apply ba_ext
  rw [ext_end]; rfl
def lineEnds : ByteArray := ⟨#[13, 10]⟩
theorem trim_tells (s : ByteArray) (hs : s.size ≤ 1000000) (hp : ∀ c, s.data.toList[s.size - 1]? = some c → 32 ≤ c.toNat) : ∃ k, gosmtp_zzTrimRight.f k s lineEnds = some s := by
  have hsz : lineEnds.size = 2 := rfl
  by_cases h0 : 0 < s.size
  · have hi : s.size - 1 < s.data.toList.length := by rw [← size_list]; omega
    obtain ⟨c, hc⟩ : ∃ c, s.data.toList[s.size - 1]? = some c := ⟨_, List.getElem?_eq_getElem hi⟩
    have hcp := hp c hc
    have hb : bt s ((s.size - 1 : Nat) : Int) = (c.toNat : Int) := bt_some s _ c hc
    have hw : wrap64 ((s.size : Int) - 1) = ((s.size - 1 : Nat) : Int) := by unfold wrap64; omega
    have b0 : bt lineEnds 0 = 13 := rfl
    have b1 : bt lineEnds ((1 : Nat) : Int) = 10 := rfl
    refine ⟨4, ?_⟩
    unfold gosmtp_zzTrimRight.f
    simp only [gosmtp_zzTrimRight.l0]
    rw [if_pos (by omega)]
    simp only [gosmtp_zzTrimRight.l1]
    rw [hsz, if_pos (by decide), if_pos (by decide), hw, if_pos (by omega), if_pos (by omega), b0, hb, if_neg (by omega)]
    rw [show wrap64 (0 + 1) = ((1 : Nat) : Int) from by unfold wrap64; omega, if_pos (by decide), if_pos (by decide), if_pos (by omega), if_pos (by omega), b1, if_neg (by omega)]
    rw [show wrap64 (((1 : Nat) : Int) + 1) = 2 from by unfold wrap64; omega, if_neg (by decide), if_neg (by decide), if_pos (by omega), if_pos (by omega), Int.toNat_natCast, ext_all]
  · have he : s.size = 0 := by omega
    refine ⟨1, ?_⟩
    unfold gosmtp_zzTrimRight.f
    simp only [gosmtp_zzTrimRight.l0]
    rw [if_neg (by omega), if_pos (by omega), if_pos (by omega), Int.toNat_natCast, ext_all]
theorem trimCR_any (s : ByteArray) (w : World) (hs : s.size ≤ 1000000) (hp : ∀ c, s.data.toList[s.size - 1]? = some c → 32 ≤ c.toNat) :
    Calls Tryd.prog 81 #[.string s, .string ⟨#[13, 10]⟩] w fun e w' => e = .returned (.string s) ∧ Drawn0 w w' := by
  obtain ⟨k, hk⟩ := trim_tells s hs hp
  exact gosmtp_zzTrimRight.calls k s lineEnds s w hk
end Go.Proofs.YtnokeaiemiiicaaDoor.Own
