/- Walk of the law FnSprintf. -/
import Derived.Test.YtlmcglaajmjanaaGreatDoorSg
import Derived.Test.YtlmcglaajmjanaaGreatDoorJo
namespace Go.Proofs.YtlmcglaajmjanaaGreatDoor
open Go.RowKit
attribute [local irreducible] Utf8.encode Utf8.decode
theorem IfAt.later {w w' : World} {v : Value} {xs : List Value} (h : IfAt (· < w.heap.size) w v xs) (hb : Below w.heap.size w w') : IfAt (· < w'.heap.size) w' v xs :=
  (h.kp (Kp.of_below (fun _ h => h) hb)).anti fun _ hk => Nat.lt_of_lt_of_le hk hb.size
theorem fits_len {l : List AArg} (h : fitsB l = true) : l.length ≤ 2147483647 := by
  unfold fitsB at h
  rw [Bool.and_eq_true, decide_eq_true_eq] at h
  exact h.1
set_option maxHeartbeats 2000000 in
theorem fnSprintf_any (v1 v2 : Value) (ss : List ByteArray) (l : List AArg) (short : Bool) (w : World) (hv : IfAt (· < w.heap.size) w v1 (ss.map .string)) (hss : ∀ x ∈ ss, x.size ≤ 9223372036854775807) (hA : ArgsAt w v2 l) (ht : TextOk l) (hn : NumOk l) (hT : TabW w) :
    Calls Tryz.prog 10 #[v1, v2, .bool short] w (ValQ (.bool true) w) := by
  have HF := Lib.hid (zzFits1_any v2 l w hA ht)
  have HV := Lib.hid hv; clear hv
  have HS := Lib.hid hss; clear hss
  have HA := Lib.hid hA; clear hA
  have HT := Lib.hid ht; clear ht
  have HN := Lib.hid hn; clear hn
  have HTab := Lib.hid hT; clear hT
  cases hf : fitsB l with
  | false =>
    rw [hf] at HF
    clear hf
    go_enter Tryz.func10, Tryz.ntmps10
    go_wp2_with fail
    refine (zzFits3_any v1 ss _ HV.out).mono ?_
    rintro e w1 ⟨b, rfl, rfl⟩
    cases b
    · go_wp2_with fail
      go_ret
      exact ⟨rfl, Below.refl _ _⟩
    go_wp2_with fail
    refine HF.out.mono ?_
    rintro e w1 ⟨rfl, hb⟩
    go_wp2_with fail
    go_ret
    exact ⟨rfl, hb⟩
  | true =>
    rw [hf] at HF
    have HLE := Lib.hid (fits_len hf)
    clear hf
    cases ha : areB prKinds l with
    | false =>
      have HAR := Lib.hid ha; clear ha
      go_enter Tryz.func10, Tryz.ntmps10
      go_wp2_with fail
      refine (zzFits3_any v1 ss _ HV.out).mono ?_
      rintro e w1 ⟨b, rfl, rfl⟩
      cases b
      · go_wp2_with fail
        go_ret
        exact ⟨rfl, Below.refl _ _⟩
      go_wp2_with fail
      refine HF.out.mono ?_
      rintro e w1 ⟨rfl, hb⟩
      go_wp2_with fail
      refine (specFormat_any v1 v2 ss l short _ (HV.out.later hb) HS.out (HA.out.below hb) HLE.out).mono ?_
      rintro e w2 ⟨f, b, rfl, hfm, hb2⟩
      have hb := hb.trans (hb2.mono hb.size)
      clear hb2
      cases b
      ·
        go_wp2_with fail
        go_ret
        exact ⟨rfl, hb⟩
      go_wp2_with fail
      refine (printed_any _).mono ?_
      rintro e w2 ⟨kv, rfl, hkv, hb2⟩
      have hb := hb.trans (hb2.mono hb.size)
      clear hb2
      go_wp2_with fail
      refine (areArgs_any _ kv l prKinds _ (HA.out.below hb) hkv.out (by decide) HT.out).mono ?_
      rw [HAR.out]
      rintro e w3 ⟨rfl, hb3⟩
      have hb := hb.trans (hb3.mono hb.size)
      clear hb3 hkv
      go_wp2_with fail
      go_ret
      exact ⟨rfl, hb⟩
    | true =>
      obtain ⟨hl, hok⟩ := areB_ok ha HN.out
      have HAR := Lib.hid ha; clear ha
      have HOK := Lib.hid hok; clear hok
      go_enter Tryz.func10, Tryz.ntmps10
      go_wp2_with fail
      refine (zzFits3_any v1 ss _ HV.out).mono ?_
      rintro e w1 ⟨b, rfl, rfl⟩
      cases b
      · go_wp2_with fail
        go_ret
        exact ⟨rfl, Below.refl _ _⟩
      go_wp2_with fail
      refine HF.out.mono ?_
      rintro e w1 ⟨rfl, hb⟩
      go_wp2_with fail
      refine (specFormat_any v1 v2 ss l short _ (HV.out.later hb) HS.out (HA.out.below hb) HLE.out).mono ?_
      rintro e w2 ⟨f, b, rfl, hfm, hb2⟩
      have hb := hb.trans (hb2.mono hb.size)
      clear hb2
      cases b
      ·
        go_wp2_with fail
        go_ret
        exact ⟨rfl, hb⟩
      go_wp2_with fail
      refine (printed_any _).mono ?_
      rintro e w2 ⟨kv, rfl, hkv, hb2⟩
      have hb := hb.trans (hb2.mono hb.size)
      clear hb2
      go_wp2_with fail
      refine (areArgs_any _ kv l prKinds _ (HA.out.below hb) hkv.out (by decide) HT.out).mono ?_
      rw [HAR.out]
      rintro e w3 ⟨rfl, hb3⟩
      have hb := hb.trans (hb3.mono hb.size)
      clear hb3 hkv
      have HFM := Lib.hid (hfm.out (by first | rfl | trivial)); clear hfm
      have HPC := Lib.hid (fmt_pcs HFM.out).2.2
      obtain ⟨g, hg⟩ : ∃ g, encs (fmtN [] (ss.map runes) (putF l)) = g := ⟨_, rfl⟩
      have HG := Lib.hid hg; clear hg
      go_wp2_with fail
      refine (implSprintf_any v2 f ss l short _ (HTab.out.below hb) (HA.out.below hb) HFM.out HOK.out).mono ?_
      rw [HG.out]
      rintro e w4 ⟨y, rfl, hy, hb4⟩
      have hb := hb.trans (hb4.mono hb.size)
      clear hb4
      obtain rfl : y = ⟨(g).toArray⟩ := str_of hy.out
      clear hy
      go_wp2_with fail
      refine (specSprintf_any v1 v2 ss l _ (HV.out.later hb) (HA.out.below hb) HFM.out.1 hl HPC.out HOK.out).mono ?_
      rw [HG.out]
      rintro e w4 ⟨y, rfl, hy, hb4⟩
      have hb := hb.trans (hb4.mono hb.size)
      clear hb4
      obtain rfl : y = ⟨(g).toArray⟩ := str_of hy.out
      clear hy
      go_wp2_with fail
      refine (marks_true _ (HTab.out.below hb)).mono ?_
      rintro e w6 ⟨rfl, hb6⟩
      have hb := hb.trans (hb6.mono hb.size)
      clear hb6
      go_wp2_with fail
      go_ret
      exact ⟨rfl, hb⟩
end Go.Proofs.YtlmcglaajmjanaaGreatDoor
