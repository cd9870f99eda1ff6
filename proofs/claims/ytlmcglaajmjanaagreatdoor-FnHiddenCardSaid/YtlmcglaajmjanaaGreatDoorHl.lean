/- Walk of the law FnHidden. -/
import Derived.Test.YtlmcglaajmjanaaGreatDoorHw
import Derived.Test.YtlmcglaajmjanaaGreatDoorSj
import Derived.Test.YtlmcglaajmjanaaGreatDoorBl
import Derived.Test.YtlmcglaajmjanaaGreatDoorFl
namespace Go.Proofs.YtlmcglaajmjanaaGreatDoor
open Go.RowKit
attribute [local irreducible] Utf8.encode Utf8.decode
theorem alk_vb {short : Bool} : ∀ {l m : List AArg}, Alks l m → l.map (vb short) = m.map (vb short) := by
  intro l
  induction l with
  | nil => intro m h; cases m with
    | nil => rfl
    | cons b m => exact h.elim
  | cons a l ih => intro m h; cases m with
    | nil => exact h.elim
    | cons b m =>
      rw [List.map_cons, List.map_cons, ih h.2]
      congr 1
      unfold vb; rw [h.1.kd]
theorem FmtOk.alk {ss : List ByteArray} {l m : List AArg} {short : Bool} {f : ByteArray} (h : FmtOk ss l short f) (ha : Alks l m) : FmtOk ss m short f := by
  obtain ⟨h1, h2, h3, h4, h5⟩ := h
  exact ⟨by rw [← ha.len]; exact h1, by rw [← ha.len]; exact h2, h3, by rw [← alk_vb ha]; exact h4, h5⟩
theorem FmtOk.mk_ {ss : List ByteArray} {l : List AArg} {short : Bool} {f : ByteArray} (h : FmtOk ss l short f) : ∀ x ∈ ss.map runes, Mk x := fun x hx => by
  obtain ⟨s, hs, rfl⟩ := List.mem_map.1 hx
  exact Mk.safe (h.2.2.1 s hs).saf.pc.nm
theorem fit_len {a b : List UInt8} (h : fitB ⟨a.toArray⟩ ⟨b.toArray⟩ = true) : a.length ≤ 400 ∧ b.length ≤ 400 := by
  unfold fitB at h
  rw [Bool.and_eq_true, decide_eq_true_eq, decide_eq_true_eq] at h
  simpa [ByteArray.size] using h
/-- Two texts, redacted to the same. -/
structure Two (o p : List Nat) : Prop where
  go : GoodT o 6000
  gp : GoodT p 6000
  eq : redN false o = redN false p
set_option maxHeartbeats 16000000 in
set_option maxRecDepth 100000 in
theorem fnHidden_any (v1 v2 v3 : Value) (ss : List ByteArray) (l m : List AArg) (short : Bool) (w : World) (hv : IfAt (· < w.heap.size) w v1 (ss.map .string)) (hss : ∀ x ∈ ss, x.size ≤ 9223372036854775807)
    (hA : ArgsAt w v2 l) (ht : TextOk l) (hn : NumOk l) (hM : ArgsAt w v3 m) (htm : TextOk m) (hnm : NumOk m) (hT : TabW w) :
    Calls Tryz.prog 12 #[v1, v2, v3, .bool short] w (ValQ (.bool true) w) := by
  have hll := fun ty => hA.len ty
  have hml := fun ty => hM.len ty
  have HV := Lib.hid hv; clear hv
  have HS := Lib.hid hss; clear hss
  have HA := Lib.hid hA; clear hA
  have HT := Lib.hid ht; clear ht
  have HN := Lib.hid hn; clear hn
  have HM := Lib.hid hM; clear hM
  have HTM := Lib.hid htm; clear htm
  have HNM := Lib.hid hnm; clear hnm
  have HTab := Lib.hid hT; clear hT
  cases hfl : fitsB l with
  | false =>
    have HFL := Lib.hid hfl; clear hfl
    go_enter Tryz.func12, Tryz.ntmps12
    go_wp2_with fail
    refine (zzFits3_any v1 ss _ HV.out).mono ?_
    rintro e w1 ⟨b, rfl, rfl⟩
    cases b
    · go_wp2_with fail
      go_ret
      exact ⟨rfl, Below.refl _ _⟩
    go_wp2_with fail
    refine (zzFits1_any v2 l _ HA.out HT.out).mono ?_
    rintro e w1 ⟨rfl, hb⟩
    rw [HFL.out]
    · go_wp2_with fail
      go_ret
      exact ⟨rfl, hb⟩
  | true =>
    have HFL := Lib.hid hfl
    have HLE := Lib.hid (fits_len hfl); clear hfl
    cases hfm : fitsB m with
    | false =>
      have HFM := Lib.hid hfm; clear hfm
      go_enter Tryz.func12, Tryz.ntmps12
      go_wp2_with fail
      refine (zzFits3_any v1 ss _ HV.out).mono ?_
      rintro e w1 ⟨b, rfl, rfl⟩
      cases b
      · go_wp2_with fail
        go_ret
        exact ⟨rfl, Below.refl _ _⟩
      go_wp2_with fail
      refine (zzFits1_any v2 l _ HA.out HT.out).mono ?_
      rintro e w1 ⟨rfl, hb⟩
      rw [HFL.out]
      go_wp2_with fail
      refine (zzFits1_any v3 m _ (HM.out.below hb) HTM.out).mono ?_
      rintro e w2 ⟨rfl, hb2⟩
      have hb := hb.trans (hb2.mono hb.size)
      clear hb2
      rw [HFM.out]
      · go_wp2_with fail
        go_ret
        exact ⟨rfl, hb⟩
    | true =>
      have HFM := Lib.hid hfm; clear hfm
      by_cases h10 : l.length ≤ 10
      · have d1 : decide ((10 : Int) < (l.length : Int)) = false := by simp; omega
        by_cases m10 : m.length ≤ 10
        · have d2 : decide ((10 : Int) < (m.length : Int)) = false := by simp; omega
          go_enter Tryz.func12, Tryz.ntmps12
          go_wp2_with fail
          refine (zzFits3_any v1 ss _ HV.out).mono ?_
          rintro e w1 ⟨b, rfl, rfl⟩
          cases b
          · go_wp2_with fail
            go_ret
            exact ⟨rfl, Below.refl _ _⟩
          go_wp2_with fail
          refine (zzFits1_any v2 l _ HA.out HT.out).mono ?_
          rintro e w1 ⟨rfl, hb⟩
          rw [HFL.out]
          go_wp2_with fail
          refine (zzFits1_any v3 m _ (HM.out.below hb) HTM.out).mono ?_
          rintro e w2 ⟨rfl, hb2⟩
          have hb := hb.trans (hb2.mono hb.size)
          clear hb2
          rw [HFM.out]
          clear HFM
          go_wp2_with fail
          refine (alike_any v2 v3 l m _ (HA.out.below hb) (HM.out.below hb) HT.out HTM.out h10).mono ?_
          rintro e w3 ⟨b, rfl, hal, hb3⟩
          have hb := hb.trans (hb3.mono hb.size)
          clear hb3
          cases b
          · go_wp2_with fail
            go_ret
            exact ⟨rfl, hb⟩
          have HAL := Lib.hid (hal.out (by first | rfl | trivial)); clear hal
          go_wp2_with fail
          refine (specFormat_any v1 v2 ss l short _ (HV.out.later hb) HS.out (HA.out.below hb) HLE.out).mono ?_
          rintro e w2 ⟨f, b, rfl, hfm, hb2⟩
          have hb := hb.trans (hb2.mono hb.size)
          clear hb2
          go_wp2_with fail
          refine (printed_any _).mono ?_
          rintro e w2 ⟨kv, rfl, hkv, hb2⟩
          have hb := hb.trans (hb2.mono hb.size)
          clear hb2
          go_wp2_with fail
          refine (areArgs_any _ kv l prKinds _ (HA.out.below hb) hkv.out (by decide) HT.out).mono ?_
          rintro e w3 ⟨rfl, hb3⟩
          have hb := hb.trans (hb3.mono hb.size)
          clear hb3 hkv
          cases hal : areB prKinds l with
          | false =>
            clear hal
            go_upto_if 52 with fail
            go_cut [] (fun wx => Hid (Below w.heap.size w wx))
            case first => as_aux_lemma =>
              go_wp2_with fail
              go_meet
              exact hb
            case rest => as_aux_lemma =>
              have hb := hcut.out
              clear hcut
              go_wp2_with fail
              refine (built_any _).mono ?_
              rintro e w2 ⟨kv, rfl, hkv, hb2⟩
              have hb := hb.trans (hb2.mono hb.size)
              clear hb2
              go_wp2_with fail
              refine (areArgs_any _ kv l buKinds _ (HA.out.below hb) hkv.out (by decide) HT.out).mono ?_
              rintro e w3 ⟨rfl, hb3⟩
              have hb := hb.trans (hb3.mono hb.size)
              clear hb3 hkv
              cases hal : areB buKinds l with
              | false =>
                clear hal
                go_wp2_with fail
                refine (marks_true _ (HTab.out.below hb)).mono ?_
                rintro e w6 ⟨rfl, hb6⟩
                have hb := hb.trans (hb6.mono hb.size)
                clear hb6
                go_wp2_with fail
                go_ret
                exact ⟨rfl, hb⟩
              | true =>
                have HOL := Lib.hid (areB_okB hal HN.out).2; clear hal
                go_wp2_with fail
                refine (built_any _).mono ?_
                rintro e w2 ⟨kv, rfl, hkv, hb2⟩
                have hb := hb.trans (hb2.mono hb.size)
                clear hb2
                go_wp2_with fail
                refine (areArgs_any _ kv m buKinds _ (HM.out.below hb) hkv.out (by decide) HTM.out).mono ?_
                rintro e w3 ⟨rfl, hb3⟩
                have hb := hb.trans (hb3.mono hb.size)
                clear hb3 hkv
                cases ham : areB buKinds m with
                | false =>
                  clear ham
                  go_wp2_with fail
                  refine (marks_true _ (HTab.out.below hb)).mono ?_
                  rintro e w6 ⟨rfl, hb6⟩
                  have hb := hb.trans (hb6.mono hb.size)
                  clear hb6
                  go_wp2_with fail
                  go_ret
                  exact ⟨rfl, hb⟩
                | true =>
                  have HOM := Lib.hid (areB_okB ham HNM.out).2; clear ham
                  obtain ⟨o1, ho1⟩ : ∃ o1, bldN [] l = o1 := ⟨_, rfl⟩
                  obtain ⟨o2, ho2⟩ : ∃ o2, bldN [] m = o2 := ⟨_, rfl⟩
                  have HTwo : Hid (Two o1 o2) := by
                    have h1 := GoodT.bld l [] 0 GoodT.nil HOL.out
                    have h2 := GoodT.bld m [] 0 GoodT.nil HOM.out
                    have h3 := Alks.bldR HAL.out Rl.nil HOL.out HOM.out
                    rw [ho1] at h1 h3
                    rw [ho2] at h2 h3
                    exact ⟨h1.mono (by omega), h2.mono (by omega), h3.eq⟩
                  have C1 : Hid (∀ W, Below w.heap.size w W → Calls Tryz.prog 38 #[v2] W (SprQ W (encs o1))) := fun W hW => by rw [← ho1]; exact specBuild_any v2 l W (HA.out.below hW) h10 HOL.out
                  have C2 : Hid (∀ W, Below w.heap.size w W → Calls Tryz.prog 38 #[v3] W (SprQ W (encs o2))) := fun W hW => by rw [← ho2]; exact specBuild_any v3 m W (HM.out.below hW) m10 HOM.out
                  have C3 : Hid (∀ W, Below w.heap.size w W → Calls Tryz.prog 37 #[v2] W (SprQ W (encs o1))) := fun W hW => by rw [← ho1]; exact implBuild_any v2 l W (HTab.out.below hW) (HA.out.below hW) h10 HOL.out
                  have C4 : Hid (∀ W, Below w.heap.size w W → Calls Tryz.prog 37 #[v3] W (SprQ W (encs o2))) := fun W hW => by rw [← ho2]; exact implBuild_any v3 m W (HTab.out.below hW) (HM.out.below hW) m10 HOM.out
                  clear ho1 ho2
                  go_wp2_with fail
                  refine (C1.out _ hb).mono ?_
                  skip
                  rintro e w4 ⟨y, rfl, hy, hb4⟩
                  have hb := hb.trans (hb4.mono hb.size)
                  clear hb4
                  obtain rfl : y = ⟨(encs o1).toArray⟩ := str_of hy.out
                  clear hy
                  go_wp2_with fail
                  refine (C2.out _ hb).mono ?_
                  skip
                  rintro e w4 ⟨y, rfl, hy, hb4⟩
                  have hb := hb.trans (hb4.mono hb.size)
                  clear hb4
                  obtain rfl : y = ⟨(encs o2).toArray⟩ := str_of hy.out
                  clear hy
                  go_wp2_with fail
                  refine (fit_any _ _ _).mono ?_
                  rintro e w5 ⟨rfl, rfl⟩
                  cases hft : fitB ⟨(encs o1).toArray⟩ ⟨(encs o2).toArray⟩ with
                  | false =>
                    clear hft
                    go_wp2_with fail
                    refine (marks_true _ (HTab.out.below hb)).mono ?_
                    rintro e w6 ⟨rfl, hb6⟩
                    have hb := hb.trans (hb6.mono hb.size)
                    clear hb6
                    go_wp2_with fail
                    go_ret
                    exact ⟨rfl, hb⟩
                  | true =>
                    have HFit := Lib.hid (fit_len hft); clear hft
                    go_wp2_with fail
                    refine (C3.out _ hb).mono ?_
                    skip
                    rintro e w4 ⟨y, rfl, hy, hb4⟩
                    have hb := hb.trans (hb4.mono hb.size)
                    clear hb4
                    obtain rfl : y = ⟨(encs o1).toArray⟩ := str_of hy.out
                    clear hy
                    go_wp2_with fail
                    refine (implRedact_enc o1 _ HTwo.out.go.sc HTwo.out.go.mkd HFit.out.1).mono ?_
                    skip
                    rintro e w4 ⟨y, rfl, hy, hb4⟩
                    have hb := hb.trans (hb4.mono hb.size)
                    clear hb4
                    obtain rfl : y = ⟨(encs (redN false o1)).toArray⟩ := str_of hy.out
                    clear hy
                    go_wp2_with fail
                    refine (C4.out _ hb).mono ?_
                    skip
                    rintro e w4 ⟨y, rfl, hy, hb4⟩
                    have hb := hb.trans (hb4.mono hb.size)
                    clear hb4
                    obtain rfl : y = ⟨(encs o2).toArray⟩ := str_of hy.out
                    clear hy
                    go_wp2_with fail
                    refine (implRedact_enc o2 _ HTwo.out.gp.sc HTwo.out.gp.mkd HFit.out.2).mono ?_
                    rw [← HTwo.out.eq]
                    rintro e w4 ⟨y, rfl, hy, hb4⟩
                    have hb := hb.trans (hb4.mono hb.size)
                    clear hb4
                    obtain rfl : y = ⟨(encs (redN false o1)).toArray⟩ := str_of hy.out
                    clear hy
                    go_wp2_with fail
                    refine (marks_true _ (HTab.out.below hb)).mono ?_
                    rintro e w6 ⟨rfl, hb6⟩
                    have hb := hb.trans (hb6.mono hb.size)
                    clear hb6
                    go_wp2_with fail
                    go_ret
                    exact ⟨rfl, hb⟩
          | true =>
            have HOL := Lib.hid (areB_ok hal HN.out).2; clear hal
            go_wp2_with fail
            refine (printed_any _).mono ?_
            rintro e w2 ⟨kv, rfl, hkv, hb2⟩
            have hb := hb.trans (hb2.mono hb.size)
            clear hb2
            go_wp2_with fail
            refine (areArgs_any _ kv m prKinds _ (HM.out.below hb) hkv.out (by decide) HTM.out).mono ?_
            rintro e w3 ⟨rfl, hb3⟩
            have hb := hb.trans (hb3.mono hb.size)
            clear hb3 hkv
            cases ham : areB prKinds m with
            | false =>
              clear ham
              go_upto_if 52 with fail
              go_cut [] (fun wx => Hid (Below w.heap.size w wx))
              case first => as_aux_lemma =>
                go_wp2_with fail
                go_meet
                exact hb
              case rest => as_aux_lemma =>
                have hb := hcut.out
                clear hcut
                go_wp2_with fail
                refine (built_any _).mono ?_
                rintro e w2 ⟨kv, rfl, hkv, hb2⟩
                have hb := hb.trans (hb2.mono hb.size)
                clear hb2
                go_wp2_with fail
                refine (areArgs_any _ kv l buKinds _ (HA.out.below hb) hkv.out (by decide) HT.out).mono ?_
                rintro e w3 ⟨rfl, hb3⟩
                have hb := hb.trans (hb3.mono hb.size)
                clear hb3 hkv
                cases hal : areB buKinds l with
                | false =>
                  clear hal
                  go_wp2_with fail
                  refine (marks_true _ (HTab.out.below hb)).mono ?_
                  rintro e w6 ⟨rfl, hb6⟩
                  have hb := hb.trans (hb6.mono hb.size)
                  clear hb6
                  go_wp2_with fail
                  go_ret
                  exact ⟨rfl, hb⟩
                | true =>
                  have HOL := Lib.hid (areB_okB hal HN.out).2; clear hal
                  go_wp2_with fail
                  refine (built_any _).mono ?_
                  rintro e w2 ⟨kv, rfl, hkv, hb2⟩
                  have hb := hb.trans (hb2.mono hb.size)
                  clear hb2
                  go_wp2_with fail
                  refine (areArgs_any _ kv m buKinds _ (HM.out.below hb) hkv.out (by decide) HTM.out).mono ?_
                  rintro e w3 ⟨rfl, hb3⟩
                  have hb := hb.trans (hb3.mono hb.size)
                  clear hb3 hkv
                  cases ham : areB buKinds m with
                  | false =>
                    clear ham
                    go_wp2_with fail
                    refine (marks_true _ (HTab.out.below hb)).mono ?_
                    rintro e w6 ⟨rfl, hb6⟩
                    have hb := hb.trans (hb6.mono hb.size)
                    clear hb6
                    go_wp2_with fail
                    go_ret
                    exact ⟨rfl, hb⟩
                  | true =>
                    have HOM := Lib.hid (areB_okB ham HNM.out).2; clear ham
                    obtain ⟨o1, ho1⟩ : ∃ o1, bldN [] l = o1 := ⟨_, rfl⟩
                    obtain ⟨o2, ho2⟩ : ∃ o2, bldN [] m = o2 := ⟨_, rfl⟩
                    have HTwo : Hid (Two o1 o2) := by
                      have h1 := GoodT.bld l [] 0 GoodT.nil HOL.out
                      have h2 := GoodT.bld m [] 0 GoodT.nil HOM.out
                      have h3 := Alks.bldR HAL.out Rl.nil HOL.out HOM.out
                      rw [ho1] at h1 h3
                      rw [ho2] at h2 h3
                      exact ⟨h1.mono (by omega), h2.mono (by omega), h3.eq⟩
                    have C1 : Hid (∀ W, Below w.heap.size w W → Calls Tryz.prog 38 #[v2] W (SprQ W (encs o1))) := fun W hW => by rw [← ho1]; exact specBuild_any v2 l W (HA.out.below hW) h10 HOL.out
                    have C2 : Hid (∀ W, Below w.heap.size w W → Calls Tryz.prog 38 #[v3] W (SprQ W (encs o2))) := fun W hW => by rw [← ho2]; exact specBuild_any v3 m W (HM.out.below hW) m10 HOM.out
                    have C3 : Hid (∀ W, Below w.heap.size w W → Calls Tryz.prog 37 #[v2] W (SprQ W (encs o1))) := fun W hW => by rw [← ho1]; exact implBuild_any v2 l W (HTab.out.below hW) (HA.out.below hW) h10 HOL.out
                    have C4 : Hid (∀ W, Below w.heap.size w W → Calls Tryz.prog 37 #[v3] W (SprQ W (encs o2))) := fun W hW => by rw [← ho2]; exact implBuild_any v3 m W (HTab.out.below hW) (HM.out.below hW) m10 HOM.out
                    clear ho1 ho2
                    go_wp2_with fail
                    refine (C1.out _ hb).mono ?_
                    skip
                    rintro e w4 ⟨y, rfl, hy, hb4⟩
                    have hb := hb.trans (hb4.mono hb.size)
                    clear hb4
                    obtain rfl : y = ⟨(encs o1).toArray⟩ := str_of hy.out
                    clear hy
                    go_wp2_with fail
                    refine (C2.out _ hb).mono ?_
                    skip
                    rintro e w4 ⟨y, rfl, hy, hb4⟩
                    have hb := hb.trans (hb4.mono hb.size)
                    clear hb4
                    obtain rfl : y = ⟨(encs o2).toArray⟩ := str_of hy.out
                    clear hy
                    go_wp2_with fail
                    refine (fit_any _ _ _).mono ?_
                    rintro e w5 ⟨rfl, rfl⟩
                    cases hft : fitB ⟨(encs o1).toArray⟩ ⟨(encs o2).toArray⟩ with
                    | false =>
                      clear hft
                      go_wp2_with fail
                      refine (marks_true _ (HTab.out.below hb)).mono ?_
                      rintro e w6 ⟨rfl, hb6⟩
                      have hb := hb.trans (hb6.mono hb.size)
                      clear hb6
                      go_wp2_with fail
                      go_ret
                      exact ⟨rfl, hb⟩
                    | true =>
                      have HFit := Lib.hid (fit_len hft); clear hft
                      go_wp2_with fail
                      refine (C3.out _ hb).mono ?_
                      skip
                      rintro e w4 ⟨y, rfl, hy, hb4⟩
                      have hb := hb.trans (hb4.mono hb.size)
                      clear hb4
                      obtain rfl : y = ⟨(encs o1).toArray⟩ := str_of hy.out
                      clear hy
                      go_wp2_with fail
                      refine (implRedact_enc o1 _ HTwo.out.go.sc HTwo.out.go.mkd HFit.out.1).mono ?_
                      skip
                      rintro e w4 ⟨y, rfl, hy, hb4⟩
                      have hb := hb.trans (hb4.mono hb.size)
                      clear hb4
                      obtain rfl : y = ⟨(encs (redN false o1)).toArray⟩ := str_of hy.out
                      clear hy
                      go_wp2_with fail
                      refine (C4.out _ hb).mono ?_
                      skip
                      rintro e w4 ⟨y, rfl, hy, hb4⟩
                      have hb := hb.trans (hb4.mono hb.size)
                      clear hb4
                      obtain rfl : y = ⟨(encs o2).toArray⟩ := str_of hy.out
                      clear hy
                      go_wp2_with fail
                      refine (implRedact_enc o2 _ HTwo.out.gp.sc HTwo.out.gp.mkd HFit.out.2).mono ?_
                      rw [← HTwo.out.eq]
                      rintro e w4 ⟨y, rfl, hy, hb4⟩
                      have hb := hb.trans (hb4.mono hb.size)
                      clear hb4
                      obtain rfl : y = ⟨(encs (redN false o1)).toArray⟩ := str_of hy.out
                      clear hy
                      go_wp2_with fail
                      refine (marks_true _ (HTab.out.below hb)).mono ?_
                      rintro e w6 ⟨rfl, hb6⟩
                      have hb := hb.trans (hb6.mono hb.size)
                      clear hb6
                      go_wp2_with fail
                      go_ret
                      exact ⟨rfl, hb⟩
            | true =>
              have HOM := Lib.hid (areB_ok ham HNM.out).2; clear ham
              go_upto_if 52 with fail
              go_cut [] (fun wx => Hid (Below w.heap.size w wx))
              case first => as_aux_lemma =>
                obtain ⟨o1, ho1⟩ : ∃ o1, sprG [] none l = o1 := ⟨_, rfl⟩
                obtain ⟨o2, ho2⟩ : ∃ o2, sprG [] none m = o2 := ⟨_, rfl⟩
                have HTwo : Hid (Two o1 o2) := by
                  have h1 := GoodT.spr l [] none 0 GoodT.nil HOL.out
                  have h2 := GoodT.spr m [] none 0 GoodT.nil HOM.out
                  have h3 := Alks.sprR none HAL.out Rl.nil HOL.out HOM.out
                  rw [ho1] at h1 h3
                  rw [ho2] at h2 h3
                  exact ⟨h1.mono (by omega), h2.mono (by omega), h3.eq⟩
                have C1 : Hid (∀ W, Below w.heap.size w W → Calls Tryz.prog 16 #[v2] W (SprQ W (encs o1))) := fun W hW => by rw [← ho1]; exact specSprint_any v2 l W (HA.out.below hW) h10 HOL.out
                have C2 : Hid (∀ W, Below w.heap.size w W → Calls Tryz.prog 16 #[v3] W (SprQ W (encs o2))) := fun W hW => by rw [← ho2]; exact specSprint_any v3 m W (HM.out.below hW) m10 HOM.out
                have C3 : Hid (∀ W, Below w.heap.size w W → Calls Tryz.prog 18 #[v2] W (SprQ W (encs o1))) := fun W hW => by rw [← ho1]; exact implSprint_any v2 l W (HTab.out.below hW) (HA.out.below hW) h10 HOL.out
                have C4 : Hid (∀ W, Below w.heap.size w W → Calls Tryz.prog 18 #[v3] W (SprQ W (encs o2))) := fun W hW => by rw [← ho2]; exact implSprint_any v3 m W (HTab.out.below hW) (HM.out.below hW) m10 HOM.out
                clear ho1 ho2
                go_wp2_with fail
                refine (C1.out _ hb).mono ?_
                skip
                rintro e w4 ⟨y, rfl, hy, hb4⟩
                have hb := hb.trans (hb4.mono hb.size)
                clear hb4
                obtain rfl : y = ⟨(encs o1).toArray⟩ := str_of hy.out
                clear hy
                go_wp2_with fail
                refine (C2.out _ hb).mono ?_
                skip
                rintro e w4 ⟨y, rfl, hy, hb4⟩
                have hb := hb.trans (hb4.mono hb.size)
                clear hb4
                obtain rfl : y = ⟨(encs o2).toArray⟩ := str_of hy.out
                clear hy
                go_wp2_with fail
                refine (fit_any _ _ _).mono ?_
                rintro e w5 ⟨rfl, rfl⟩
                cases hft : fitB ⟨(encs o1).toArray⟩ ⟨(encs o2).toArray⟩ with
                | false =>
                  clear hft C1 C2 C3 C4 HTwo
                  cases b with
                  | false =>
                    go_wp2_with fail
                    go_meet
                    exact hb
                  | true =>
                    have HFM := Lib.hid (hfm.out (by first | rfl | trivial))
                    have HFN := Lib.hid (HFM.out.alk HAL.out)
                    have HPC := Lib.hid (fmt_pcs HFM.out).2.2
                    obtain ⟨o1, ho1⟩ : ∃ o1, fmtN [] (ss.map runes) (putF l) = o1 := ⟨_, rfl⟩
                    obtain ⟨o2, ho2⟩ : ∃ o2, fmtN [] (ss.map runes) (putF m) = o2 := ⟨_, rfl⟩
                    have HTwo : Hid (Two o1 o2) := by
                      have h1 := fmt_good HFM.out HOL.out
                      have h2 := fmt_good HFN.out HOM.out
                      have h3 := Alks.fmtR HAL.out Rl.nil HFM.out.mk_ HOL.out HOM.out
                      rw [ho1] at h1 h3
                      rw [ho2] at h2 h3
                      exact ⟨h1, h2, h3.eq⟩
                    have C1 : Hid (∀ W, Below w.heap.size w W → Calls Tryz.prog 35 #[v1, v2] W (SprQ W (encs o1))) := fun W hW => by rw [← ho1]; exact specSprintf_any v1 v2 ss l W (HV.out.later hW) (HA.out.below hW) HFM.out.1 HFM.out.2.1 HPC.out HOL.out
                    have C2 : Hid (∀ W, Below w.heap.size w W → Calls Tryz.prog 35 #[v1, v3] W (SprQ W (encs o2))) := fun W hW => by rw [← ho2]; exact specSprintf_any v1 v3 ss m W (HV.out.later hW) (HM.out.below hW) HFN.out.1 HFN.out.2.1 HPC.out HOM.out
                    have C3 : Hid (∀ W, Below w.heap.size w W → Calls Tryz.prog 34 #[.string f, v2] W (SprQ W (encs o1))) := fun W hW => by rw [← ho1]; exact implSprintf_any v2 f ss l short W (HTab.out.below hW) (HA.out.below hW) HFM.out HOL.out
                    have C4 : Hid (∀ W, Below w.heap.size w W → Calls Tryz.prog 34 #[.string f, v3] W (SprQ W (encs o2))) := fun W hW => by rw [← ho2]; exact implSprintf_any v3 f ss m short W (HTab.out.below hW) (HM.out.below hW) HFN.out HOM.out
                    clear ho1 ho2
                    go_wp2_with fail
                    refine (C1.out _ hb).mono ?_
                    skip
                    rintro e w4 ⟨y, rfl, hy, hb4⟩
                    have hb := hb.trans (hb4.mono hb.size)
                    clear hb4
                    obtain rfl : y = ⟨(encs o1).toArray⟩ := str_of hy.out
                    clear hy
                    go_wp2_with fail
                    refine (C2.out _ hb).mono ?_
                    skip
                    rintro e w4 ⟨y, rfl, hy, hb4⟩
                    have hb := hb.trans (hb4.mono hb.size)
                    clear hb4
                    obtain rfl : y = ⟨(encs o2).toArray⟩ := str_of hy.out
                    clear hy
                    go_wp2_with fail
                    refine (fit_any _ _ _).mono ?_
                    rintro e w5 ⟨rfl, rfl⟩
                    cases hft : fitB ⟨(encs o1).toArray⟩ ⟨(encs o2).toArray⟩ with
                    | false =>
                      clear hft
                      go_wp2_with fail
                      go_meet
                      exact hb
                    | true =>
                      have HFit := Lib.hid (fit_len hft); clear hft
                      go_wp2_with fail
                      refine (C3.out _ hb).mono ?_
                      skip
                      rintro e w4 ⟨y, rfl, hy, hb4⟩
                      have hb := hb.trans (hb4.mono hb.size)
                      clear hb4
                      obtain rfl : y = ⟨(encs o1).toArray⟩ := str_of hy.out
                      clear hy
                      go_wp2_with fail
                      refine (implRedact_enc o1 _ HTwo.out.go.sc HTwo.out.go.mkd HFit.out.1).mono ?_
                      skip
                      rintro e w4 ⟨y, rfl, hy, hb4⟩
                      have hb := hb.trans (hb4.mono hb.size)
                      clear hb4
                      obtain rfl : y = ⟨(encs (redN false o1)).toArray⟩ := str_of hy.out
                      clear hy
                      go_wp2_with fail
                      refine (C4.out _ hb).mono ?_
                      skip
                      rintro e w4 ⟨y, rfl, hy, hb4⟩
                      have hb := hb.trans (hb4.mono hb.size)
                      clear hb4
                      obtain rfl : y = ⟨(encs o2).toArray⟩ := str_of hy.out
                      clear hy
                      go_wp2_with fail
                      refine (implRedact_enc o2 _ HTwo.out.gp.sc HTwo.out.gp.mkd HFit.out.2).mono ?_
                      rw [← HTwo.out.eq]
                      rintro e w4 ⟨y, rfl, hy, hb4⟩
                      have hb := hb.trans (hb4.mono hb.size)
                      clear hb4
                      obtain rfl : y = ⟨(encs (redN false o1)).toArray⟩ := str_of hy.out
                      clear hy
                      go_wp2_with fail
                      go_meet
                      exact hb
                | true =>
                  have HFit := Lib.hid (fit_len hft); clear hft
                  go_wp2_with fail
                  refine (C3.out _ hb).mono ?_
                  skip
                  rintro e w4 ⟨y, rfl, hy, hb4⟩
                  have hb := hb.trans (hb4.mono hb.size)
                  clear hb4
                  obtain rfl : y = ⟨(encs o1).toArray⟩ := str_of hy.out
                  clear hy
                  go_wp2_with fail
                  refine (implRedact_enc o1 _ HTwo.out.go.sc HTwo.out.go.mkd HFit.out.1).mono ?_
                  skip
                  rintro e w4 ⟨y, rfl, hy, hb4⟩
                  have hb := hb.trans (hb4.mono hb.size)
                  clear hb4
                  obtain rfl : y = ⟨(encs (redN false o1)).toArray⟩ := str_of hy.out
                  clear hy
                  go_wp2_with fail
                  refine (C4.out _ hb).mono ?_
                  skip
                  rintro e w4 ⟨y, rfl, hy, hb4⟩
                  have hb := hb.trans (hb4.mono hb.size)
                  clear hb4
                  obtain rfl : y = ⟨(encs o2).toArray⟩ := str_of hy.out
                  clear hy
                  go_wp2_with fail
                  refine (implRedact_enc o2 _ HTwo.out.gp.sc HTwo.out.gp.mkd HFit.out.2).mono ?_
                  rw [← HTwo.out.eq]
                  rintro e w4 ⟨y, rfl, hy, hb4⟩
                  have hb := hb.trans (hb4.mono hb.size)
                  clear hb4
                  obtain rfl : y = ⟨(encs (redN false o1)).toArray⟩ := str_of hy.out
                  clear hy
                  clear C1 C2 C3 C4 HTwo HFit
                  cases b with
                  | false =>
                    go_wp2_with fail
                    go_meet
                    exact hb
                  | true =>
                    have HFM := Lib.hid (hfm.out (by first | rfl | trivial))
                    have HFN := Lib.hid (HFM.out.alk HAL.out)
                    have HPC := Lib.hid (fmt_pcs HFM.out).2.2
                    obtain ⟨o1, ho1⟩ : ∃ o1, fmtN [] (ss.map runes) (putF l) = o1 := ⟨_, rfl⟩
                    obtain ⟨o2, ho2⟩ : ∃ o2, fmtN [] (ss.map runes) (putF m) = o2 := ⟨_, rfl⟩
                    have HTwo : Hid (Two o1 o2) := by
                      have h1 := fmt_good HFM.out HOL.out
                      have h2 := fmt_good HFN.out HOM.out
                      have h3 := Alks.fmtR HAL.out Rl.nil HFM.out.mk_ HOL.out HOM.out
                      rw [ho1] at h1 h3
                      rw [ho2] at h2 h3
                      exact ⟨h1, h2, h3.eq⟩
                    have C1 : Hid (∀ W, Below w.heap.size w W → Calls Tryz.prog 35 #[v1, v2] W (SprQ W (encs o1))) := fun W hW => by rw [← ho1]; exact specSprintf_any v1 v2 ss l W (HV.out.later hW) (HA.out.below hW) HFM.out.1 HFM.out.2.1 HPC.out HOL.out
                    have C2 : Hid (∀ W, Below w.heap.size w W → Calls Tryz.prog 35 #[v1, v3] W (SprQ W (encs o2))) := fun W hW => by rw [← ho2]; exact specSprintf_any v1 v3 ss m W (HV.out.later hW) (HM.out.below hW) HFN.out.1 HFN.out.2.1 HPC.out HOM.out
                    have C3 : Hid (∀ W, Below w.heap.size w W → Calls Tryz.prog 34 #[.string f, v2] W (SprQ W (encs o1))) := fun W hW => by rw [← ho1]; exact implSprintf_any v2 f ss l short W (HTab.out.below hW) (HA.out.below hW) HFM.out HOL.out
                    have C4 : Hid (∀ W, Below w.heap.size w W → Calls Tryz.prog 34 #[.string f, v3] W (SprQ W (encs o2))) := fun W hW => by rw [← ho2]; exact implSprintf_any v3 f ss m short W (HTab.out.below hW) (HM.out.below hW) HFN.out HOM.out
                    clear ho1 ho2
                    go_wp2_with fail
                    refine (C1.out _ hb).mono ?_
                    skip
                    rintro e w4 ⟨y, rfl, hy, hb4⟩
                    have hb := hb.trans (hb4.mono hb.size)
                    clear hb4
                    obtain rfl : y = ⟨(encs o1).toArray⟩ := str_of hy.out
                    clear hy
                    go_wp2_with fail
                    refine (C2.out _ hb).mono ?_
                    skip
                    rintro e w4 ⟨y, rfl, hy, hb4⟩
                    have hb := hb.trans (hb4.mono hb.size)
                    clear hb4
                    obtain rfl : y = ⟨(encs o2).toArray⟩ := str_of hy.out
                    clear hy
                    go_wp2_with fail
                    refine (fit_any _ _ _).mono ?_
                    rintro e w5 ⟨rfl, rfl⟩
                    cases hft : fitB ⟨(encs o1).toArray⟩ ⟨(encs o2).toArray⟩ with
                    | false =>
                      clear hft
                      go_wp2_with fail
                      go_meet
                      exact hb
                    | true =>
                      have HFit := Lib.hid (fit_len hft); clear hft
                      go_wp2_with fail
                      refine (C3.out _ hb).mono ?_
                      skip
                      rintro e w4 ⟨y, rfl, hy, hb4⟩
                      have hb := hb.trans (hb4.mono hb.size)
                      clear hb4
                      obtain rfl : y = ⟨(encs o1).toArray⟩ := str_of hy.out
                      clear hy
                      go_wp2_with fail
                      refine (implRedact_enc o1 _ HTwo.out.go.sc HTwo.out.go.mkd HFit.out.1).mono ?_
                      skip
                      rintro e w4 ⟨y, rfl, hy, hb4⟩
                      have hb := hb.trans (hb4.mono hb.size)
                      clear hb4
                      obtain rfl : y = ⟨(encs (redN false o1)).toArray⟩ := str_of hy.out
                      clear hy
                      go_wp2_with fail
                      refine (C4.out _ hb).mono ?_
                      skip
                      rintro e w4 ⟨y, rfl, hy, hb4⟩
                      have hb := hb.trans (hb4.mono hb.size)
                      clear hb4
                      obtain rfl : y = ⟨(encs o2).toArray⟩ := str_of hy.out
                      clear hy
                      go_wp2_with fail
                      refine (implRedact_enc o2 _ HTwo.out.gp.sc HTwo.out.gp.mkd HFit.out.2).mono ?_
                      rw [← HTwo.out.eq]
                      rintro e w4 ⟨y, rfl, hy, hb4⟩
                      have hb := hb.trans (hb4.mono hb.size)
                      clear hb4
                      obtain rfl : y = ⟨(encs (redN false o1)).toArray⟩ := str_of hy.out
                      clear hy
                      go_wp2_with fail
                      go_meet
                      exact hb
              case rest => as_aux_lemma =>
                clear HOL HOM
                have hb := hcut.out
                clear hcut
                go_wp2_with fail
                refine (built_any _).mono ?_
                rintro e w2 ⟨kv, rfl, hkv, hb2⟩
                have hb := hb.trans (hb2.mono hb.size)
                clear hb2
                go_wp2_with fail
                refine (areArgs_any _ kv l buKinds _ (HA.out.below hb) hkv.out (by decide) HT.out).mono ?_
                rintro e w3 ⟨rfl, hb3⟩
                have hb := hb.trans (hb3.mono hb.size)
                clear hb3 hkv
                cases hal : areB buKinds l with
                | false =>
                  clear hal
                  go_wp2_with fail
                  refine (marks_true _ (HTab.out.below hb)).mono ?_
                  rintro e w6 ⟨rfl, hb6⟩
                  have hb := hb.trans (hb6.mono hb.size)
                  clear hb6
                  go_wp2_with fail
                  go_ret
                  exact ⟨rfl, hb⟩
                | true =>
                  have HOL := Lib.hid (areB_okB hal HN.out).2; clear hal
                  go_wp2_with fail
                  refine (built_any _).mono ?_
                  rintro e w2 ⟨kv, rfl, hkv, hb2⟩
                  have hb := hb.trans (hb2.mono hb.size)
                  clear hb2
                  go_wp2_with fail
                  refine (areArgs_any _ kv m buKinds _ (HM.out.below hb) hkv.out (by decide) HTM.out).mono ?_
                  rintro e w3 ⟨rfl, hb3⟩
                  have hb := hb.trans (hb3.mono hb.size)
                  clear hb3 hkv
                  cases ham : areB buKinds m with
                  | false =>
                    clear ham
                    go_wp2_with fail
                    refine (marks_true _ (HTab.out.below hb)).mono ?_
                    rintro e w6 ⟨rfl, hb6⟩
                    have hb := hb.trans (hb6.mono hb.size)
                    clear hb6
                    go_wp2_with fail
                    go_ret
                    exact ⟨rfl, hb⟩
                  | true =>
                    have HOM := Lib.hid (areB_okB ham HNM.out).2; clear ham
                    obtain ⟨o1, ho1⟩ : ∃ o1, bldN [] l = o1 := ⟨_, rfl⟩
                    obtain ⟨o2, ho2⟩ : ∃ o2, bldN [] m = o2 := ⟨_, rfl⟩
                    have HTwo : Hid (Two o1 o2) := by
                      have h1 := GoodT.bld l [] 0 GoodT.nil HOL.out
                      have h2 := GoodT.bld m [] 0 GoodT.nil HOM.out
                      have h3 := Alks.bldR HAL.out Rl.nil HOL.out HOM.out
                      rw [ho1] at h1 h3
                      rw [ho2] at h2 h3
                      exact ⟨h1.mono (by omega), h2.mono (by omega), h3.eq⟩
                    have C1 : Hid (∀ W, Below w.heap.size w W → Calls Tryz.prog 38 #[v2] W (SprQ W (encs o1))) := fun W hW => by rw [← ho1]; exact specBuild_any v2 l W (HA.out.below hW) h10 HOL.out
                    have C2 : Hid (∀ W, Below w.heap.size w W → Calls Tryz.prog 38 #[v3] W (SprQ W (encs o2))) := fun W hW => by rw [← ho2]; exact specBuild_any v3 m W (HM.out.below hW) m10 HOM.out
                    have C3 : Hid (∀ W, Below w.heap.size w W → Calls Tryz.prog 37 #[v2] W (SprQ W (encs o1))) := fun W hW => by rw [← ho1]; exact implBuild_any v2 l W (HTab.out.below hW) (HA.out.below hW) h10 HOL.out
                    have C4 : Hid (∀ W, Below w.heap.size w W → Calls Tryz.prog 37 #[v3] W (SprQ W (encs o2))) := fun W hW => by rw [← ho2]; exact implBuild_any v3 m W (HTab.out.below hW) (HM.out.below hW) m10 HOM.out
                    clear ho1 ho2
                    go_wp2_with fail
                    refine (C1.out _ hb).mono ?_
                    skip
                    rintro e w4 ⟨y, rfl, hy, hb4⟩
                    have hb := hb.trans (hb4.mono hb.size)
                    clear hb4
                    obtain rfl : y = ⟨(encs o1).toArray⟩ := str_of hy.out
                    clear hy
                    go_wp2_with fail
                    refine (C2.out _ hb).mono ?_
                    skip
                    rintro e w4 ⟨y, rfl, hy, hb4⟩
                    have hb := hb.trans (hb4.mono hb.size)
                    clear hb4
                    obtain rfl : y = ⟨(encs o2).toArray⟩ := str_of hy.out
                    clear hy
                    go_wp2_with fail
                    refine (fit_any _ _ _).mono ?_
                    rintro e w5 ⟨rfl, rfl⟩
                    cases hft : fitB ⟨(encs o1).toArray⟩ ⟨(encs o2).toArray⟩ with
                    | false =>
                      clear hft
                      go_wp2_with fail
                      refine (marks_true _ (HTab.out.below hb)).mono ?_
                      rintro e w6 ⟨rfl, hb6⟩
                      have hb := hb.trans (hb6.mono hb.size)
                      clear hb6
                      go_wp2_with fail
                      go_ret
                      exact ⟨rfl, hb⟩
                    | true =>
                      have HFit := Lib.hid (fit_len hft); clear hft
                      go_wp2_with fail
                      refine (C3.out _ hb).mono ?_
                      skip
                      rintro e w4 ⟨y, rfl, hy, hb4⟩
                      have hb := hb.trans (hb4.mono hb.size)
                      clear hb4
                      obtain rfl : y = ⟨(encs o1).toArray⟩ := str_of hy.out
                      clear hy
                      go_wp2_with fail
                      refine (implRedact_enc o1 _ HTwo.out.go.sc HTwo.out.go.mkd HFit.out.1).mono ?_
                      skip
                      rintro e w4 ⟨y, rfl, hy, hb4⟩
                      have hb := hb.trans (hb4.mono hb.size)
                      clear hb4
                      obtain rfl : y = ⟨(encs (redN false o1)).toArray⟩ := str_of hy.out
                      clear hy
                      go_wp2_with fail
                      refine (C4.out _ hb).mono ?_
                      skip
                      rintro e w4 ⟨y, rfl, hy, hb4⟩
                      have hb := hb.trans (hb4.mono hb.size)
                      clear hb4
                      obtain rfl : y = ⟨(encs o2).toArray⟩ := str_of hy.out
                      clear hy
                      go_wp2_with fail
                      refine (implRedact_enc o2 _ HTwo.out.gp.sc HTwo.out.gp.mkd HFit.out.2).mono ?_
                      rw [← HTwo.out.eq]
                      rintro e w4 ⟨y, rfl, hy, hb4⟩
                      have hb := hb.trans (hb4.mono hb.size)
                      clear hb4
                      obtain rfl : y = ⟨(encs (redN false o1)).toArray⟩ := str_of hy.out
                      clear hy
                      go_wp2_with fail
                      refine (marks_true _ (HTab.out.below hb)).mono ?_
                      rintro e w6 ⟨rfl, hb6⟩
                      have hb := hb.trans (hb6.mono hb.size)
                      clear hb6
                      go_wp2_with fail
                      go_ret
                      exact ⟨rfl, hb⟩
        · have d2 : decide ((10 : Int) < (m.length : Int)) = true := by simp; omega
          go_enter Tryz.func12, Tryz.ntmps12
          go_wp2_with fail
          refine (zzFits3_any v1 ss _ HV.out).mono ?_
          rintro e w1 ⟨b, rfl, rfl⟩
          cases b
          · go_wp2_with fail
            go_ret
            exact ⟨rfl, Below.refl _ _⟩
          go_wp2_with fail
          refine (zzFits1_any v2 l _ HA.out HT.out).mono ?_
          rintro e w1 ⟨rfl, hb⟩
          rw [HFL.out]
          go_wp2_with fail
          refine (zzFits1_any v3 m _ (HM.out.below hb) HTM.out).mono ?_
          rintro e w2 ⟨rfl, hb2⟩
          have hb := hb.trans (hb2.mono hb.size)
          clear hb2
          rw [HFM.out]
          · go_wp2_with fail
            go_ret
            exact ⟨rfl, hb⟩
      · have d1 : decide ((10 : Int) < (l.length : Int)) = true := by simp; omega
        go_enter Tryz.func12, Tryz.ntmps12
        go_wp2_with fail
        refine (zzFits3_any v1 ss _ HV.out).mono ?_
        rintro e w1 ⟨b, rfl, rfl⟩
        cases b
        · go_wp2_with fail
          go_ret
          exact ⟨rfl, Below.refl _ _⟩
        go_wp2_with fail
        refine (zzFits1_any v2 l _ HA.out HT.out).mono ?_
        rintro e w1 ⟨rfl, hb⟩
        rw [HFL.out]
        go_wp2_with fail
        refine (zzFits1_any v3 m _ (HM.out.below hb) HTM.out).mono ?_
        rintro e w2 ⟨rfl, hb2⟩
        have hb := hb.trans (hb2.mono hb.size)
        clear hb2
        rw [HFM.out]
        · go_wp2_with fail
          go_ret
          exact ⟨rfl, hb⟩
end Go.Proofs.YtlmcglaajmjanaaGreatDoor
