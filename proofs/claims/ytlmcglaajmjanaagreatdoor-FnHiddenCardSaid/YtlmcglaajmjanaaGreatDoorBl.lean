/- Walk of the law FnBuild. -/
import Derived.Test.YtlmcglaajmjanaaGreatDoorBz
import Derived.Test.YtlmcglaajmjanaaGreatDoorZk
namespace Go.Proofs.YtlmcglaajmjanaaGreatDoor
open Go.RowKit
attribute [local irreducible] Utf8.encode Utf8.decode
set_option maxHeartbeats 1000000 in
theorem fnBuild_any (v : Value) (l : List AArg) (w : World) (hA : ArgsAt w v l) (ht : TextOk l) (hn : NumOk l) (hT : TabW w) : Calls Tryz.prog 11 #[v] w (ValQ (.bool true) w) := by
  have HF := Lib.hid (zzFits1_any v l w hA ht)
  have HA := Lib.hid hA; clear hA
  have HT := Lib.hid ht; clear ht
  have HN := Lib.hid hn; clear hn
  have HTab := Lib.hid hT; clear hT
  cases hf : fitsB l with
  | false =>
    rw [hf] at HF
    clear hf
    go_enter Tryz.func11, Tryz.ntmps11
    go_wp2_with fail
    refine HF.out.mono ?_
    rintro e w1 ⟨rfl, hb1⟩
    go_wp2_with fail
    go_ret
    exact ⟨rfl, hb1⟩
  | true =>
    rw [hf] at HF
    clear hf
    cases ha : areB buKinds l with
    | false =>
      have HAR := Lib.hid ha; clear ha
      go_enter Tryz.func11, Tryz.ntmps11
      go_wp2_with fail
      refine HF.out.mono ?_
      rintro e w1 ⟨rfl, hb1⟩
      go_wp2_with fail
      refine (built_any _).mono ?_
      rintro e w2 ⟨kv, rfl, hkv, hb2⟩
      have hb := hb1.trans (hb2.mono hb1.size)
      go_wp2_with fail
      refine (areArgs_any _ kv l buKinds _ (HA.out.below hb) hkv.out (by decide) HT.out).mono ?_
      rw [HAR.out]
      rintro e w3 ⟨rfl, hb3⟩
      go_wp2_with fail
      go_ret
      exact ⟨rfl, hb.trans (hb3.mono hb.size)⟩
    | true =>
      obtain ⟨hl, hok⟩ := areB_okB ha HN.out
      have HAR := Lib.hid ha; clear ha
      have HOK := Lib.hid hok; clear hok
      obtain ⟨g, hg⟩ : ∃ g, encs (bldN [] l) = g := ⟨_, rfl⟩
      have HG := Lib.hid hg; clear hg
      go_enter Tryz.func11, Tryz.ntmps11
      go_wp2_with fail
      refine HF.out.mono ?_
      rintro e w1 ⟨rfl, hb1⟩
      go_wp2_with fail
      refine (built_any _).mono ?_
      rintro e w2 ⟨kv, rfl, hkv, hb2⟩
      have hb := hb1.trans (hb2.mono hb1.size)
      clear hb1 hb2
      go_wp2_with fail
      refine (areArgs_any _ kv l buKinds _ (HA.out.below hb) hkv.out (by decide) HT.out).mono ?_
      rw [HAR.out]
      rintro e w3 ⟨rfl, hb3⟩
      have hb := hb.trans (hb3.mono hb.size)
      clear hb3 hkv
      go_wp2_with fail
      refine (implBuild_any v l _ (HTab.out.below hb) (HA.out.below hb) hl HOK.out).mono ?_
      rw [HG.out]
      rintro e w4 ⟨y, rfl, hy, hb4⟩
      have hb := hb.trans (hb4.mono hb.size)
      clear hb4
      obtain rfl : y = ⟨(g).toArray⟩ := str_of hy.out
      clear hy
      go_wp2_with fail
      refine (specBuild_any v l _ (HA.out.below hb) hl HOK.out).mono ?_
      rw [HG.out]
      rintro e w4 ⟨y, rfl, hy, hb4⟩
      have hb := hb.trans (hb4.mono hb.size)
      clear hb4
      obtain rfl : y = ⟨(g).toArray⟩ := str_of hy.out
      clear hy
      go_wp2_with fail
      refine (marks_true _ (HTab.out.below hb)).mono ?_
      rintro e w6 ⟨rfl, hb6⟩
      have hb := hb.trans (hb6.mono hb.size)
      clear hb6
      go_wp2_with fail
      go_ret
      exact ⟨rfl, hb⟩
end Go.Proofs.YtlmcglaajmjanaaGreatDoor
