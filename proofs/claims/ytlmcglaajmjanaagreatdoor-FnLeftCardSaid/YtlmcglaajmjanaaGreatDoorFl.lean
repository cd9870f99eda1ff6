/- Walk of the law FnLeft. -/
import Derived.Test.YtlmcglaajmjanaaGreatDoorZk
namespace Go.Proofs.YtlmcglaajmjanaaGreatDoor
open Go.RowKit
attribute [local irreducible] Utf8.encode Utf8.decode
theorem specRedact_enc (o : List Nat) (w : World) (ho : Scs o) (hl : (encs o).length ≤ 100000) : Calls Tryz.prog 19 #[.string ⟨(encs o).toArray⟩] w (SprQ w (encs (redN false o))) := by
  have hs : (ByteArray.mk (encs o).toArray).size = (encs o).length := by simp [ByteArray.size]
  refine (specRedact_any ⟨(encs o).toArray⟩ w (by omega)).mono ?_
  rintro e w' ⟨⟨r, rfl, hr⟩, hb⟩
  have h1 : runesL (ByteArray.mk (encs o).toArray).data.toList = o := runesL_encs ho
  rw [h1] at hr
  exact ⟨r, rfl, hr.out.1, hb⟩
theorem implRedact_enc (o : List Nat) (w : World) (ho : Scs o) (hm : Mk o) (hl : (encs o).length ≤ 400) : Calls Tryz.prog 17 #[.string ⟨(encs o).toArray⟩] w (SprQ w (encs (redN false o))) := by
  have hs : (ByteArray.mk (encs o).toArray).size = (encs o).length := by simp [ByteArray.size]
  refine (implRedact_any ⟨(encs o).toArray⟩ w (by omega)).mono ?_
  rintro e w' ⟨r, rfl, hr, hb⟩
  have h1 : redL (ByteArray.mk (encs o).toArray).data.toList = encs (redN false o) := redL_enc _ o (Nat.le_refl _) ho hm
  rw [h1] at hr
  exact ⟨r, rfl, hr, hb⟩
set_option maxHeartbeats 1000000 in
theorem fnLeft_any (v : Value) (l : List AArg) (w : World) (hA : ArgsAt w v l) (ht : TextOk l) (hn : NumOk l) (hT : TabW w) : Calls Tryz.prog 3 #[v] w (ValQ (.bool true) w) := by
  have HF := Lib.hid (zzFits1_any v l w hA ht)
  have HA := Lib.hid hA; clear hA
  have HT := Lib.hid ht; clear ht
  have HN := Lib.hid hn; clear hn
  have HTab := Lib.hid hT; clear hT
  cases hf : fitsB l with
  | false =>
    rw [hf] at HF
    clear hf
    go_enter Tryz.func3, Tryz.ntmps3
    go_wp2_with fail
    refine HF.out.mono ?_
    rintro e w1 ⟨rfl, hb1⟩
    go_wp2_with fail
    go_ret
    exact ⟨rfl, hb1⟩
  | true =>
    rw [hf] at HF
    clear hf
    cases ha : areB prKinds l with
    | false =>
      have HAR := Lib.hid ha; clear ha
      go_enter Tryz.func3, Tryz.ntmps3
      go_wp2_with fail
      refine HF.out.mono ?_
      rintro e w1 ⟨rfl, hb1⟩
      go_wp2_with fail
      refine (printed_any _).mono ?_
      rintro e w2 ⟨kv, rfl, hkv, hb2⟩
      have hb := hb1.trans (hb2.mono hb1.size)
      go_wp2_with fail
      refine (areArgs_any _ kv l prKinds _ (HA.out.below hb) hkv.out (by decide) HT.out).mono ?_
      rw [HAR.out]
      rintro e w3 ⟨rfl, hb3⟩
      go_wp2_with fail
      go_ret
      exact ⟨rfl, hb.trans (hb3.mono hb.size)⟩
    | true =>
      obtain ⟨hl, hok⟩ := areB_ok ha HN.out
      have HAR := Lib.hid ha; clear ha
      have HOK := Lib.hid hok; clear hok
      have hgood := GoodT.spr l [] none 0 GoodT.nil HOK.out
      obtain ⟨o, ho⟩ : ∃ o, sprG [] none l = o := ⟨_, rfl⟩
      rw [ho] at hgood
      have HO := Lib.hid ho; clear ho
      have HGO := Lib.hid hgood; clear hgood
      have hsz : (ByteArray.mk (encs o).toArray).size = (encs o).length := by simp [ByteArray.size]
      have hle := HGO.out.le
      by_cases h4 : (encs o).length ≤ 400
      · have hd : decide ((400 : Int) < ((ByteArray.mk (encs o).toArray).size : Int)) = false := by rw [hsz]; simp; omega
        have hd2 : decide (400 < (ByteArray.mk (encs o).toArray).size) = false := by rw [hsz]; simp; omega
        clear hsz
        go_enter Tryz.func3, Tryz.ntmps3
        go_wp2_with fail
        refine HF.out.mono ?_
        rintro e w1 ⟨rfl, hb1⟩
        go_wp2_with fail
        refine (printed_any _).mono ?_
        rintro e w2 ⟨kv, rfl, hkv, hb2⟩
        have hb := hb1.trans (hb2.mono hb1.size)
        clear hb1 hb2
        go_wp2_with fail
        refine (areArgs_any _ kv l prKinds _ (HA.out.below hb) hkv.out (by decide) HT.out).mono ?_
        rw [HAR.out]
        rintro e w3 ⟨rfl, hb3⟩
        have hb := hb.trans (hb3.mono hb.size)
        clear hb3 hkv
        go_wp2_with fail
        refine (specSprint_any v l _ (HA.out.below hb) hl HOK.out).mono ?_
        rw [HO.out]
        rintro e w4 ⟨y, rfl, hy, hb4⟩
        have hb := hb.trans (hb4.mono hb.size)
        clear hb4
        obtain rfl : y = ⟨(encs o).toArray⟩ := str_of hy.out
        clear hy
        go_wp2_with fail
        refine (implSprint_any v l _ (HTab.out.below hb) (HA.out.below hb) hl HOK.out).mono ?_
        rw [HO.out]
        rintro e w4 ⟨y, rfl, hy, hb4⟩
        have hb := hb.trans (hb4.mono hb.size)
        clear hb4
        obtain rfl : y = ⟨(encs o).toArray⟩ := str_of hy.out
        clear hy
        go_wp2_with fail
        refine (implRedact_enc o _ HGO.out.sc HGO.out.mkd h4).mono ?_
        skip
        rintro e w4 ⟨y, rfl, hy, hb4⟩
        have hb := hb.trans (hb4.mono hb.size)
        clear hb4
        obtain rfl : y = ⟨(encs (redN false o)).toArray⟩ := str_of hy.out
        clear hy
        go_wp2_with fail
        refine (specSprint_any v l _ (HA.out.below hb) hl HOK.out).mono ?_
        rw [HO.out]
        rintro e w4 ⟨y, rfl, hy, hb4⟩
        have hb := hb.trans (hb4.mono hb.size)
        clear hb4
        obtain rfl : y = ⟨(encs o).toArray⟩ := str_of hy.out
        clear hy
        go_wp2_with fail
        refine (specRedact_enc o _ HGO.out.sc (by omega)).mono ?_
        skip
        rintro e w4 ⟨y, rfl, hy, hb4⟩
        have hb := hb.trans (hb4.mono hb.size)
        clear hb4
        obtain rfl : y = ⟨(encs (redN false o)).toArray⟩ := str_of hy.out
        clear hy
        go_wp2_with fail
        refine (marks_true _ (HTab.out.below hb)).mono ?_
        rintro e w6 ⟨rfl, hb6⟩
        have hb := hb.trans (hb6.mono hb.size)
        clear hb6
        go_wp2_with fail
        go_ret
        exact ⟨rfl, hb⟩
      · have hd : decide ((400 : Int) < ((ByteArray.mk (encs o).toArray).size : Int)) = true := by rw [hsz]; simp; omega
        have hd2 : decide (400 < (ByteArray.mk (encs o).toArray).size) = true := by rw [hsz]; simp; omega
        clear hsz
        go_enter Tryz.func3, Tryz.ntmps3
        go_wp2_with fail
        refine HF.out.mono ?_
        rintro e w1 ⟨rfl, hb1⟩
        go_wp2_with fail
        refine (printed_any _).mono ?_
        rintro e w2 ⟨kv, rfl, hkv, hb2⟩
        have hb := hb1.trans (hb2.mono hb1.size)
        clear hb1 hb2
        go_wp2_with fail
        refine (areArgs_any _ kv l prKinds _ (HA.out.below hb) hkv.out (by decide) HT.out).mono ?_
        rw [HAR.out]
        rintro e w3 ⟨rfl, hb3⟩
        have hb := hb.trans (hb3.mono hb.size)
        clear hb3 hkv
        go_wp2_with fail
        refine (specSprint_any v l _ (HA.out.below hb) hl HOK.out).mono ?_
        rw [HO.out]
        rintro e w4 ⟨y, rfl, hy, hb4⟩
        have hb := hb.trans (hb4.mono hb.size)
        clear hb4
        obtain rfl : y = ⟨(encs o).toArray⟩ := str_of hy.out
        clear hy
        go_wp2_with fail
        go_ret
        exact ⟨rfl, hb⟩
end Go.Proofs.YtlmcglaajmjanaaGreatDoor
