/- The walk of InternalEscapeBytes, new lines kept. -/
import Derived.Test.YtlmcglaajmjanaaGreatDoorZc
namespace Go.Proofs.YtlmcglaajmjanaaGreatDoor
open Go.RowKit
set_option maxHeartbeats 0 in
set_option maxRecDepth 100000 in
theorem escBytes_false (s : Value) (l : List UInt8) (vuI : Int) (vu : Nat) (hvu : vuI = vu) (w : World) (hs : BAt w s l) (hl : l.length ≤ 50000) (hv : vu ≤ l.length) (hT : Tabs w) (hz : 2 < w.heap.size) (hbad : badEnd l = false) :
    Calls Tryz.prog 82 #[s, .int .i64 vuI, .bool false, .bool false] w (EscQ s l (escT l vu false) w) := by
  subst hvu
  have hlen := hs.len 3
  have HS := Lib.hid hs; clear hs
  have HT := Lib.hid hT; clear hT
  have HB := Lib.hid hbad; clear hbad
  go_enter Tryz.func82, Tryz.ntmps82
  go_wp2_with fail
  refine (startBytes _).mono ?_
  rintro e w1 ⟨v1, rfl, hv1, hb1, _⟩
  go_wp2_with fail
  refine (endBytes _).mono ?_
  rintro e w2 ⟨v2, rfl, hv2, hb2, _⟩
  go_wp2_with fail
  refine (hashBytes _).mono ?_
  rintro e w3 ⟨v3, rfl, hv3, hb3, _⟩
  go_wp2_with fail
  refine (escapeBytes _).mono ?_
  rintro e w4 ⟨v4, rfl, hv4, hb4, _⟩
  have hb42 := Below.trans' hb3 (Nat.le_refl _) hb4
  have hb41 := Below.trans' hb2 (Nat.le_refl _) hb42
  have hb40 := Below.trans' hb1 (Nat.le_refl _) hb41
  have hv1' := Lib.hid (hv1.out.below hb41)
  have hv2' := Lib.hid (hv2.out.below hb42)
  have hv3' := Lib.hid (hv3.out.below hb4)
  clear hv1 hv2 hv3 hb1 hb2 hb3 hb4 hb42 hb41
  have hz4 := hb40.size
  have hlen4 := hv4.out.len 3
  simp only [List.length_singleton, Int.cast_ofNat_Int] at hlen4
  generalize hG : escT l vu false = goal
  have HG := Lib.hid hG; clear hG
  go_wp2_with fail
  go_loopw [8, 18, 19, 20] (fun rv cv kv iv wr => ∃ (cp : Bool) (k i : Nat) (out : List UInt8), cv = .bool cp ∧ kv = .int .i64 k ∧ iv = .int .i64 i ∧ k ≤ i ∧ i ≤ l.length ∧ Hid (EscS wr w4.heap.size s rv l cp k i out ∧ EscAt false l goal i out) ∧ Below w4.heap.size w4 wr)
    (fun _ _ _ iv _ => l.length - (intOf iv).toNat)
  case atStart => exact ⟨false, 0, vu, l.take vu, rfl, rfl, rfl, by omega, hv, ⟨.inl ⟨rfl, rfl, rfl, rfl⟩, HG.out, by simp; omega⟩, Below.refl _ _⟩
  case round =>
    obtain ⟨cp, k, i, out, rfl, rfl, rfl, hki, hil, hR, hbr⟩ := hrel
    have hS := Lib.hid (HS.out.below (Below.trans' hb40 (Nat.le_refl _) hbr))
    have hM1 := Lib.hid (hv1'.out.below hbr)
    have hM2 := Lib.hid (hv2'.out.below hbr)
    have hM3 := Lib.hid (hv3'.out.below hbr)
    have hM4 := Lib.hid (hv4.out.below hbr)
    by_cases hlt : i < l.length
    · have hltI : (i : Int) < (l.length : Int) := by omega
      obtain ⟨a, hidx, hcell⟩ := hS.out.at_ i (by omega) (by omega)
      have hcell := hcell wr hS.out
      simp only [Int.toNat_natCast] at hcell
      generalize hx : l.getD i 0 = x at hcell
      have HXB := Lib.hid (show (false && l.getD i 0 == 10) = false by rfl)
      clear hx hidx hcell
      by_cases h3 : i + 3 ≤ l.length
      · have h3I : (i : Int) + 3 ≤ (l.length : Int) := by omega
        obtain ⟨v2, hsub, hv2⟩ := hS.out.sub i (i + 3) (by omega) (by omega) (by omega)
        have hB := Lib.hid (hv2 wr hS.out); clear hv2
        have hcut : List.drop (i : Int).toNat (List.take ((i : Int) + 3).toNat l) = (l.drop i).take 3 := by rw [List.drop_take]; congr 1; omega
        rw [hcut] at hB
        clear hcut
        by_cases e1 : (l.drop i).take 3 = mkS
        · have HMK := Lib.hid (isMk_of (.inl e1))
          have e1 := beq_iff_eq.2 e1
          obtain ⟨hEs, hEa⟩ := hR.out
          rcases hEs with ⟨rfl, rfl, rfl, ho⟩ | ⟨rfl, acc, hown, hcat, hal⟩
          · obtain ⟨w5, hmk, hown5, hb5⟩ := Own.make' wr (l.length + 1) (l.length + 1) rfl (by omega)
            have hb54 : Below w4.heap.size w4 w5 := Below.trans' hbr (Nat.le_refl _) hb5
            obtain ⟨vk, hsubk, hvk⟩ := hS.out.sub 0 i (by omega) (by omega) (by omega)
            have hown5' := hown5.base hbr.size
            obtain ⟨bv6, w6, hap, hown6, hg6⟩ := hown5'.append (hvk w5 (hS.out.below hb5)) (by simp; omega) (Nat.le_trans hbr.size hb5.size) 31
            have hb6 : Below w4.heap.size w4 w6 := hb54.grown hg6 hb54.size (fun k hk => hown5'.blk k hk)
            have hown6' : Own w6 w4.heap.size bv6 out := by rw [ho]; simpa using hown6
            clear hown6 hown5' hown5 hg6 hvk hb54 hb5 ho
            as_aux_lemma =>
              go_wp2_with fail
              refine (equal_any _ _ _ _ wr hB.out hM1.out).mono ?_
              rintro e w' ⟨rfl, rfl⟩
              have hlo : out.length ≤ 7 * i := hEa.2
              obtain ⟨bv7, w7, hap7, hown7, hg7⟩ := hown6'.append (hv4.out.below hb6) (by simp; omega) hb6.size 31
              have hb7 : Below w4.heap.size w4 w7 := hb6.grown hg7 hb6.size (fun k hk => hown6'.blk k hk)
              have HF := Lib.hid (And.intro hown7 hEa); clear hown7 hEa hown6' hg7 hb6
              clear hR
              go_wp2_with (at_builtin; first | refine wpList_append_known _ rfl _ _ rfl _ _ rfl rfl hap ?_ | refine wpList_append_known _ rfl _ _ rfl _ _ rfl rfl hap7 ?_)
              go_roundw
              case rel => exact ⟨true, i + 3, i + 3, out ++ [63], rfl, by go_num, by go_num, by omega, by omega, ⟨.inr ⟨rfl, _, HF.out.1, by simp, by simp; omega⟩, HF.out.2.mk HXB.out hlt HMK.out⟩, hb7⟩
              case measure => simp [intOf]; omega
          · skip
            obtain ⟨vk, hsubk, hvk⟩ := hS.out.sub k i (by omega) (by omega) (by omega)
            obtain ⟨bv6, w6, hap, hown6, hg6⟩ := hown.append (hvk wr hS.out) (by simp; omega) hbr.size 31
            have hb6 : Below w4.heap.size w4 w6 := hbr.grown hg6 hbr.size (fun k hk => hown.blk k hk)
            have hown6' : Own w6 w4.heap.size bv6 out := by rw [← hcat]; simpa using hown6
            clear hown6 hown hg6 hvk hcat
            as_aux_lemma =>
              go_wp2_with fail
              refine (equal_any _ _ _ _ wr hB.out hM1.out).mono ?_
              rintro e w' ⟨rfl, rfl⟩
              have hlo : out.length ≤ 7 * i := hEa.2
              obtain ⟨bv7, w7, hap7, hown7, hg7⟩ := hown6'.append (hv4.out.below hb6) (by simp; omega) hb6.size 31
              have hb7 : Below w4.heap.size w4 w7 := hb6.grown hg7 hb6.size (fun k hk => hown6'.blk k hk)
              have HF := Lib.hid (And.intro hown7 hEa); clear hown7 hEa hown6' hg7 hb6
              clear hR
              go_wp2_with (at_builtin; first | refine wpList_append_known _ rfl _ _ rfl _ _ rfl rfl hap ?_ | refine wpList_append_known _ rfl _ _ rfl _ _ rfl rfl hap7 ?_)
              go_roundw
              case rel => exact ⟨true, i + 3, i + 3, out ++ [63], rfl, by go_num, by go_num, by omega, by omega, ⟨.inr ⟨rfl, _, HF.out.1, by simp, by simp; omega⟩, HF.out.2.mk HXB.out hlt HMK.out⟩, hb7⟩
              case measure => simp [intOf]; omega
        have e1 := beq_eq_false_iff_ne.2 e1
        by_cases e2 : (l.drop i).take 3 = mkE
        · have HMK := Lib.hid (isMk_of (.inr (.inl e2)))
          have e2 := beq_iff_eq.2 e2
          obtain ⟨hEs, hEa⟩ := hR.out
          rcases hEs with ⟨rfl, rfl, rfl, ho⟩ | ⟨rfl, acc, hown, hcat, hal⟩
          · obtain ⟨w5, hmk, hown5, hb5⟩ := Own.make' wr (l.length + 1) (l.length + 1) rfl (by omega)
            have hb54 : Below w4.heap.size w4 w5 := Below.trans' hbr (Nat.le_refl _) hb5
            obtain ⟨vk, hsubk, hvk⟩ := hS.out.sub 0 i (by omega) (by omega) (by omega)
            have hown5' := hown5.base hbr.size
            obtain ⟨bv6, w6, hap, hown6, hg6⟩ := hown5'.append (hvk w5 (hS.out.below hb5)) (by simp; omega) (Nat.le_trans hbr.size hb5.size) 31
            have hb6 : Below w4.heap.size w4 w6 := hb54.grown hg6 hb54.size (fun k hk => hown5'.blk k hk)
            have hown6' : Own w6 w4.heap.size bv6 out := by rw [ho]; simpa using hown6
            clear hown6 hown5' hown5 hg6 hvk hb54 hb5 ho
            as_aux_lemma =>
              go_wp2_with fail
              refine (equal_any _ _ _ _ wr hB.out hM1.out).mono ?_
              rintro e w' ⟨rfl, rfl⟩
              go_wp2_with fail
              refine (equal_any _ _ _ _ wr hB.out hM2.out).mono ?_
              rintro e w' ⟨rfl, rfl⟩
              have hlo : out.length ≤ 7 * i := hEa.2
              obtain ⟨bv7, w7, hap7, hown7, hg7⟩ := hown6'.append (hv4.out.below hb6) (by simp; omega) hb6.size 31
              have hb7 : Below w4.heap.size w4 w7 := hb6.grown hg7 hb6.size (fun k hk => hown6'.blk k hk)
              have HF := Lib.hid (And.intro hown7 hEa); clear hown7 hEa hown6' hg7 hb6
              clear hR
              go_wp2_with (at_builtin; first | refine wpList_append_known _ rfl _ _ rfl _ _ rfl rfl hap ?_ | refine wpList_append_known _ rfl _ _ rfl _ _ rfl rfl hap7 ?_)
              go_roundw
              case rel => exact ⟨true, i + 3, i + 3, out ++ [63], rfl, by go_num, by go_num, by omega, by omega, ⟨.inr ⟨rfl, _, HF.out.1, by simp, by simp; omega⟩, HF.out.2.mk HXB.out hlt HMK.out⟩, hb7⟩
              case measure => simp [intOf]; omega
          · skip
            obtain ⟨vk, hsubk, hvk⟩ := hS.out.sub k i (by omega) (by omega) (by omega)
            obtain ⟨bv6, w6, hap, hown6, hg6⟩ := hown.append (hvk wr hS.out) (by simp; omega) hbr.size 31
            have hb6 : Below w4.heap.size w4 w6 := hbr.grown hg6 hbr.size (fun k hk => hown.blk k hk)
            have hown6' : Own w6 w4.heap.size bv6 out := by rw [← hcat]; simpa using hown6
            clear hown6 hown hg6 hvk hcat
            as_aux_lemma =>
              go_wp2_with fail
              refine (equal_any _ _ _ _ wr hB.out hM1.out).mono ?_
              rintro e w' ⟨rfl, rfl⟩
              go_wp2_with fail
              refine (equal_any _ _ _ _ wr hB.out hM2.out).mono ?_
              rintro e w' ⟨rfl, rfl⟩
              have hlo : out.length ≤ 7 * i := hEa.2
              obtain ⟨bv7, w7, hap7, hown7, hg7⟩ := hown6'.append (hv4.out.below hb6) (by simp; omega) hb6.size 31
              have hb7 : Below w4.heap.size w4 w7 := hb6.grown hg7 hb6.size (fun k hk => hown6'.blk k hk)
              have HF := Lib.hid (And.intro hown7 hEa); clear hown7 hEa hown6' hg7 hb6
              clear hR
              go_wp2_with (at_builtin; first | refine wpList_append_known _ rfl _ _ rfl _ _ rfl rfl hap ?_ | refine wpList_append_known _ rfl _ _ rfl _ _ rfl rfl hap7 ?_)
              go_roundw
              case rel => exact ⟨true, i + 3, i + 3, out ++ [63], rfl, by go_num, by go_num, by omega, by omega, ⟨.inr ⟨rfl, _, HF.out.1, by simp, by simp; omega⟩, HF.out.2.mk HXB.out hlt HMK.out⟩, hb7⟩
              case measure => simp [intOf]; omega
        have e2 := beq_eq_false_iff_ne.2 e2
        by_cases e3 : (l.drop i).take 3 = mkH
        · have HMK := Lib.hid (isMk_of (.inr (.inr e3)))
          have e3 := beq_iff_eq.2 e3
          obtain ⟨hEs, hEa⟩ := hR.out
          rcases hEs with ⟨rfl, rfl, rfl, ho⟩ | ⟨rfl, acc, hown, hcat, hal⟩
          · obtain ⟨w5, hmk, hown5, hb5⟩ := Own.make' wr (l.length + 1) (l.length + 1) rfl (by omega)
            have hb54 : Below w4.heap.size w4 w5 := Below.trans' hbr (Nat.le_refl _) hb5
            obtain ⟨vk, hsubk, hvk⟩ := hS.out.sub 0 i (by omega) (by omega) (by omega)
            have hown5' := hown5.base hbr.size
            obtain ⟨bv6, w6, hap, hown6, hg6⟩ := hown5'.append (hvk w5 (hS.out.below hb5)) (by simp; omega) (Nat.le_trans hbr.size hb5.size) 31
            have hb6 : Below w4.heap.size w4 w6 := hb54.grown hg6 hb54.size (fun k hk => hown5'.blk k hk)
            have hown6' : Own w6 w4.heap.size bv6 out := by rw [ho]; simpa using hown6
            clear hown6 hown5' hown5 hg6 hvk hb54 hb5 ho
            as_aux_lemma =>
              go_wp2_with fail
              refine (equal_any _ _ _ _ wr hB.out hM1.out).mono ?_
              rintro e w' ⟨rfl, rfl⟩
              go_wp2_with fail
              refine (equal_any _ _ _ _ wr hB.out hM2.out).mono ?_
              rintro e w' ⟨rfl, rfl⟩
              go_wp2_with fail
              refine (equal_any _ _ _ _ wr hB.out hM3.out).mono ?_
              rintro e w' ⟨rfl, rfl⟩
              have hlo : out.length ≤ 7 * i := hEa.2
              obtain ⟨bv7, w7, hap7, hown7, hg7⟩ := hown6'.append (hv4.out.below hb6) (by simp; omega) hb6.size 31
              have hb7 : Below w4.heap.size w4 w7 := hb6.grown hg7 hb6.size (fun k hk => hown6'.blk k hk)
              have HF := Lib.hid (And.intro hown7 hEa); clear hown7 hEa hown6' hg7 hb6
              clear hR
              go_wp2_with (at_builtin; first | refine wpList_append_known _ rfl _ _ rfl _ _ rfl rfl hap ?_ | refine wpList_append_known _ rfl _ _ rfl _ _ rfl rfl hap7 ?_)
              go_roundw
              case rel => exact ⟨true, i + 3, i + 3, out ++ [63], rfl, by go_num, by go_num, by omega, by omega, ⟨.inr ⟨rfl, _, HF.out.1, by simp, by simp; omega⟩, HF.out.2.mk HXB.out hlt HMK.out⟩, hb7⟩
              case measure => simp [intOf]; omega
          · skip
            obtain ⟨vk, hsubk, hvk⟩ := hS.out.sub k i (by omega) (by omega) (by omega)
            obtain ⟨bv6, w6, hap, hown6, hg6⟩ := hown.append (hvk wr hS.out) (by simp; omega) hbr.size 31
            have hb6 : Below w4.heap.size w4 w6 := hbr.grown hg6 hbr.size (fun k hk => hown.blk k hk)
            have hown6' : Own w6 w4.heap.size bv6 out := by rw [← hcat]; simpa using hown6
            clear hown6 hown hg6 hvk hcat
            as_aux_lemma =>
              go_wp2_with fail
              refine (equal_any _ _ _ _ wr hB.out hM1.out).mono ?_
              rintro e w' ⟨rfl, rfl⟩
              go_wp2_with fail
              refine (equal_any _ _ _ _ wr hB.out hM2.out).mono ?_
              rintro e w' ⟨rfl, rfl⟩
              go_wp2_with fail
              refine (equal_any _ _ _ _ wr hB.out hM3.out).mono ?_
              rintro e w' ⟨rfl, rfl⟩
              have hlo : out.length ≤ 7 * i := hEa.2
              obtain ⟨bv7, w7, hap7, hown7, hg7⟩ := hown6'.append (hv4.out.below hb6) (by simp; omega) hb6.size 31
              have hb7 : Below w4.heap.size w4 w7 := hb6.grown hg7 hb6.size (fun k hk => hown6'.blk k hk)
              have HF := Lib.hid (And.intro hown7 hEa); clear hown7 hEa hown6' hg7 hb6
              clear hR
              go_wp2_with (at_builtin; first | refine wpList_append_known _ rfl _ _ rfl _ _ rfl rfl hap ?_ | refine wpList_append_known _ rfl _ _ rfl _ _ rfl rfl hap7 ?_)
              go_roundw
              case rel => exact ⟨true, i + 3, i + 3, out ++ [63], rfl, by go_num, by go_num, by omega, by omega, ⟨.inr ⟨rfl, _, HF.out.1, by simp, by simp; omega⟩, HF.out.2.mk HXB.out hlt HMK.out⟩, hb7⟩
              case measure => simp [intOf]; omega
        have e3 := beq_eq_false_iff_ne.2 e3
        have HMK := Lib.hid (isMk_not e1 e2 e3)
        as_aux_lemma =>
          go_wp2_with fail
          refine (equal_any _ _ _ _ wr hB.out hM1.out).mono ?_
          rintro e w' ⟨rfl, rfl⟩
          go_wp2_with fail
          refine (equal_any _ _ _ _ wr hB.out hM2.out).mono ?_
          rintro e w' ⟨rfl, rfl⟩
          go_wp2_with fail
          refine (equal_any _ _ _ _ wr hB.out hM3.out).mono ?_
          rintro e w' ⟨rfl, rfl⟩
          go_wp2_with fail
          go_roundw
          case rel => exact ⟨cp, k, i + 1, out ++ [l.getD i 0], rfl, rfl, by go_num, by omega, by omega, ⟨hR.out.1.plain hlt hki, hR.out.2.plain HXB.out hlt HMK.out⟩, hbr⟩
          case measure => simp [intOf]; omega
      · have h3I : ¬ (i : Int) + 3 ≤ (l.length : Int) := by omega
        have HMK := Lib.hid (isMk_short (l := (l.drop i).take 3) (by simp; omega))
        as_aux_lemma =>
          go_wp2_with fail
          go_roundw
          case rel => exact ⟨cp, k, i + 1, out ++ [l.getD i 0], rfl, rfl, by go_num, by omega, by omega, ⟨hR.out.1.plain hlt hki, hR.out.2.plain HXB.out hlt HMK.out⟩, hbr⟩
          case measure => simp [intOf]; omega
    · have hltI : ¬ (i : Int) < (l.length : Int) := by omega
      obtain rfl : i = l.length := by omega
      have hTr := Lib.hid (HT.out.below (Below.trans' hb40 (Nat.le_refl _) hbr) hz)
      have hbad := HB.out
      unfold badEnd at hbad
      obtain ⟨hEs, hEa⟩ := hR.out
      have hgo : out = goal := by have := hEa.1; rw [List.drop_length] at this; exact this
      have hb0 : Below w.heap.size w wr := hb40.trans (hbr.mono hz4)
      by_cases hsz : (((Lib.decodeLastL l).2 : Int) == 1) = true
      · have hru : (((Lib.decodeLastL l).1 : Int) == 65533) = false := by
          refine beq_eq_false_iff_ne.2 fun hn => ?_
          have e1 : ((Lib.decodeLastL l).2 == 1) = true := by have := beq_iff_eq.1 hsz; exact beq_iff_eq.2 (by omega)
          have e2 : ((Lib.decodeLastL l).1 == 65533) = true := beq_iff_eq.2 (by omega)
          rw [e1, e2] at hbad; cases hbad
        clear hbad
        rcases hEs with ⟨rfl, rfl, rfl, ho⟩ | ⟨rfl, acc, hown, hcat, hal⟩
        · have HO := Lib.hid (show goal = l by rw [← hgo, ho, List.take_length])
          clear ho hgo hEa hR
          as_aux_lemma =>
            go_wp2_with fail
            refine (decodeLast_any _ l wr hS.out hTr.out).mono ?_
            rintro e w' ⟨rfl, hbw⟩
            go_wp2_with fail
            go_ret
            exact ⟨_, rfl, .inl ⟨rfl, HG.out.trans HO.out⟩, Below.trans' hb0 (Nat.le_refl _) hbw⟩
        · have HO := Lib.hid (And.intro hown (And.intro hcat hgo))
          clear hown hcat hgo hEa hR
          as_aux_lemma =>
            go_wp2_with fail
            refine (decodeLast_any _ l wr hS.out hTr.out).mono ?_
            rintro e w' ⟨rfl, hbw⟩
            obtain ⟨vk, hsubk, hvk⟩ := hS.out.from_ k (by omega) (by omega)
            have hown := HO.out.1.below hbw
            have hzw : w4.heap.size ≤ w'.heap.size := Nat.le_trans hbr.size hbw.size
            obtain ⟨bv6, w6, hap, hown6, hg6⟩ := hown.append (hvk w' (hS.out.below hbw)) (by simp; omega) hzw 31
            have hb6 : Below w.heap.size w w6 := (Below.trans' hb0 (Nat.le_refl _) hbw).grown hg6 (Nat.le_trans hz4 hzw) (fun k hk => Nat.le_trans hz4 (hown.blk k hk))
            have HO6 := Lib.hid hown6
            clear hown6 hown hvk hg6
            go_wp2_with (at_builtin; refine wpList_append_known _ rfl _ _ rfl _ _ rfl rfl hap ?_)
            go_ret
            refine ⟨_, rfl, .inr ?_, hb6⟩
            have := HO6.out.base hz4
            rw [HG.out, ← HO.out.2.2, ← HO.out.2.1, List.take_length]
            simpa using this
      · have hsz : (((Lib.decodeLastL l).2 : Int) == 1) = false := by simpa using hsz
        clear hbad
        rcases hEs with ⟨rfl, rfl, rfl, ho⟩ | ⟨rfl, acc, hown, hcat, hal⟩
        · have HO := Lib.hid (show goal = l by rw [← hgo, ho, List.take_length])
          clear ho hgo hEa hR
          as_aux_lemma =>
            go_wp2_with fail
            refine (decodeLast_any _ l wr hS.out hTr.out).mono ?_
            rintro e w' ⟨rfl, hbw⟩
            go_wp2_with fail
            go_ret
            exact ⟨_, rfl, .inl ⟨rfl, HG.out.trans HO.out⟩, Below.trans' hb0 (Nat.le_refl _) hbw⟩
        · have HO := Lib.hid (And.intro hown (And.intro hcat hgo))
          clear hown hcat hgo hEa hR
          as_aux_lemma =>
            go_wp2_with fail
            refine (decodeLast_any _ l wr hS.out hTr.out).mono ?_
            rintro e w' ⟨rfl, hbw⟩
            obtain ⟨vk, hsubk, hvk⟩ := hS.out.from_ k (by omega) (by omega)
            have hown := HO.out.1.below hbw
            have hzw : w4.heap.size ≤ w'.heap.size := Nat.le_trans hbr.size hbw.size
            obtain ⟨bv6, w6, hap, hown6, hg6⟩ := hown.append (hvk w' (hS.out.below hbw)) (by simp; omega) hzw 31
            have hb6 : Below w.heap.size w w6 := (Below.trans' hb0 (Nat.le_refl _) hbw).grown hg6 (Nat.le_trans hz4 hzw) (fun k hk => Nat.le_trans hz4 (hown.blk k hk))
            have HO6 := Lib.hid hown6
            clear hown6 hown hvk hg6
            go_wp2_with (at_builtin; refine wpList_append_known _ rfl _ _ rfl _ _ rfl rfl hap ?_)
            go_ret
            refine ⟨_, rfl, .inr ?_, hb6⟩
            have := HO6.out.base hz4
            rw [HG.out, ← HO.out.2.2, ← HO.out.2.1, List.take_length]
            simpa using this
end Go.Proofs.YtlmcglaajmjanaaGreatDoor
