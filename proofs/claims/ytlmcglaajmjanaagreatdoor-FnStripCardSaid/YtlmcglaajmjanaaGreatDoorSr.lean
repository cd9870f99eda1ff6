/- Walk of the law FnStrip. -/
import Derived.Test.YtlmcglaajmjanaaGreatDoorZk
import Derived.Test.YtlmcglaajmjanaaGreatDoorCln
namespace Go.Proofs.YtlmcglaajmjanaaGreatDoor
open Go.RowKit
attribute [local irreducible] Utf8.encode Utf8.decode
set_option maxHeartbeats 1000000 in
theorem fnStrip_any (s : ByteArray) (w : World) (hs : s.size ≤ 9223372036854775807) (hT : TabW w) : Calls Tryz.prog 9 #[.string s] w (ValQ (.bool true) w) := by
  have HTab := Lib.hid hT; clear hT
  by_cases hz : s.size ≤ 2147483647
  · have hd : decide ((2147483647 : Int) < (s.size : Int)) = false := by simp; omega
    have hd2 : decide (2147483647 < s.size) = false := by simp; omega
    have HP := Lib.hid (isPlain_any s w hs)
    cases hp : plainB s.data.toList with
    | false =>
      rw [hp] at HP
      clear hp
      go_enter Tryz.func9, Tryz.ntmps9
      go_wp2_with fail
      refine HP.out.mono ?_
      rintro e w1 ⟨rfl, hb1⟩
      go_wp2_with fail
      go_ret
      exact ⟨rfl, hb1⟩
    | true =>
      rw [hp] at HP
      have hl8 := plainB_len hp
      have hlen : s.data.toList.length = s.size := (Lib.size_eq s).symm
      have hsz : s.size ≤ 80 := by omega
      obtain ⟨hsc, he⟩ := plainB_encs hp
      obtain ⟨o, ho⟩ : ∃ o, runesL s.data.toList = o := ⟨_, rfl⟩
      rw [ho] at hsc he
      have hol : (encs o).length ≤ 80 := by rw [← he]; exact hl8
      have HO := Lib.hid ho
      have HE := Lib.hid he
      have HSC := Lib.hid hsc
      clear ho he hsc hp hl8 hlen
      go_enter Tryz.func9, Tryz.ntmps9
      go_wp2_with fail
      refine HP.out.mono ?_
      rintro e w1 ⟨rfl, hb⟩
      go_wp2_with fail
      refine (specStrip_any s _ (by omega)).mono ?_
      rintro e w4 ⟨⟨y, rfl, hy⟩, hb4⟩
      have hb := hb.trans (hb4.mono hb.size)
      clear hb4
      obtain rfl : y = ⟨(encs (stripN o)).toArray⟩ := str_of (by rw [hy.out.1, HO.out])
      clear hy
      go_wp2_with fail
      refine (implStrip_any s _ (by omega)).mono ?_
      rintro e w4 ⟨y, rfl, hy, hb4⟩
      have hb := hb.trans (hb4.mono hb.size)
      clear hb4
      obtain rfl : y = ⟨(encs (stripN o)).toArray⟩ := str_of (by rw [hy.out, HE.out, st_strip o HSC.out])
      clear hy
      obtain ⟨vb, wb, hcb, hvb, hnb, hbb, _⟩ := toBytesN w4 s 9 Tryz.underlying9 (by omega)
      rw [HE.out] at hvb
      have hb := hb.trans (hbb.mono hb.size)
      have HVB := Lib.hid hvb; clear hvb
      have HNB := Lib.hid hnb; clear hnb hbb
      go_wp2_with fail
      refine (implStripBytes_any _ (encs o) _ HVB.out HNB.out (by omega)).mono ?_
      rintro e w5 ⟨vr, rfl, hvr, hb4⟩
      have hb := hb.trans (hb4.mono hb.size)
      clear hb4 hcb HVB HNB
      have hst := hvr.out.str 9 Tryz.underlying9
      clear hvr
      rw [st_strip o HSC.out] at hst
      go_wp2_with fail
      refine (marks_true _ (HTab.out.below hb)).mono ?_
      rintro e w6 ⟨rfl, hb6⟩
      have hb := hb.trans (hb6.mono hb.size)
      clear hb6
      go_wp2_with fail
      go_ret
      exact ⟨rfl, hb⟩
  ·
    have hd : decide ((2147483647 : Int) < (s.size : Int)) = true := by simp; omega
    have hd2 : decide (2147483647 < s.size) = true := by simp; omega
    go_enter Tryz.func9, Tryz.ntmps9
    go_wp2_with fail
    go_ret
    exact ⟨rfl, Below.refl _ _⟩
end Go.Proofs.YtlmcglaajmjanaaGreatDoor
