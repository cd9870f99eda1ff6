/- The walk of stripMarkersBytes; of what calls it. -/
import Derived.Test.YtlmcglaajmjanaaGreatDoorStp
namespace Go.Proofs.YtlmcglaajmjanaaGreatDoor
open Go.RowKit
/-- A slice that is not nil. -/
def NonNil (s : Value) : Prop := ∃ b o n c, s = .slice (some ⟨b, o, none⟩) n c
theorem indexByte_bat (s : Value) (l : List UInt8) (x : UInt8) (w : World) (hs : BAt w s l) (hn : NonNil s) :
    Calls Tryz.prog 108 #[s, .int .u8 (x.toNat : Int)] w fun e w' => e = .returned (.int .i64 (Lib.indexByte l x)) ∧ w = w' := by
  obtain ⟨p, b, o, c, hv, hc, hm, hp, hx⟩ := hs
  obtain ⟨b2, o2, n2, c2, hv2⟩ := hn
  have e := hv.symm.trans hv2
  injection e with e1 e2 e3
  subst hv
  rw [e1]
  refine indexByte_any b2 o2 c l x w fun j hj => ?_
  rcases hp with hp | hp
  · rw [hp.1] at hj; cases hj
  · rw [hp] at e1
    injection e1 with e1
    injection e1 with e1 e4 _
    subst e1; subst e4
    exact hx j hj
theorem Own.nonNil {w : World} {B : Nat} {v : Value} {l : List UInt8} (h : Own w B v l) (hv : ∃ b n c, v = .slice (some b) n c) : NonNil v := by
  rcases h.2 with ⟨rfl, _⟩ | ⟨g, cap, cur, rfl, _⟩
  · obtain ⟨b, n, c, h⟩ := hv; cases h
  · exact ⟨_, _, _, _, rfl⟩
theorem u8_not {x y : UInt8} (h : x ≠ y) : ((x.toNat : Int) == (y.toNat : Int)) = false := beq_eq_false_iff_ne.2 fun e => h (UInt8.toNat_inj.1 (by omega))
theorem u8_eq {x y : UInt8} : ((x.toNat : Int) == (y.toNat : Int)) = (x == y) := by
  rw [Bool.eq_iff_iff, beq_iff_eq, beq_iff_eq]
  constructor
  · intro h; exact UInt8.toNat_inj.1 (by omega)
  · rintro rfl; rfl
set_option maxHeartbeats 4000000 in
set_option maxRecDepth 100000 in
theorem strip_any (s rv : Value) (l rl : List UInt8) (w : World) (hs : BAt w s l) (hn : NonNil s) (hr : BAt w rv rl) (hrl : rl.length ≤ 3) (hl : l.length ≤ 2000) :
    Calls Tryz.prog 81 #[s, rv] w (BytesQ (stL rl l) w) := by
  have hlen := hs.len 3
  obtain ⟨hf1, hf2⟩ := st_first (rl := rl) l
  have HS := Lib.hid hs; clear hs
  have HN := Lib.hid hn; clear hn
  have HR := Lib.hid hr; clear hr
  generalize hG : stL rl l = goal at hf1 hf2
  have hge := Lib.indexByte_ge l 226
  have HIB := Lib.hid (fun w hs => indexByte_bat s l 226 w hs HN.out)
  obtain ⟨ib, hib⟩ : ∃ ib, Lib.indexByte l 226 = ib := ⟨_, rfl⟩
  rw [hib] at hf1 hf2 hge HIB
  clear hib
  by_cases hn1 : ib = -1
  · have HF : Hid (goal = l) := hf1 hn1
    clear hf1 hf2 hge
    subst hn1
    go_enter Tryz.func81, Tryz.ntmps81
    go_wp2_with fail
    refine (startBytes _).mono ?_
    rintro e w1 ⟨v1, rfl, hv1, hb1, _⟩
    have hB1 : Below w.heap.size w w1 := id hb1
    obtain ⟨a1, hi1, hcc⟩ := hv1.out.at_ 0 (by decide) (by decide)
    have hc1 : w1.cell? a1 = some (.int .u8 226) := hcc _ hv1.out
    clear hcc hv1 hb1
    go_wp2_with fail
    refine (HIB.out _ (HS.out.below hB1)).mono ?_
    rintro e w2 ⟨rfl, rfl⟩
    go_wp2_with fail
    go_ret
    exact ⟨s, rfl, by show BAt _ _ _; rw [HF.out]; exact HS.out.below hB1, hB1⟩
  · obtain ⟨f, rfl⟩ : ∃ f : Nat, ib = f := ⟨ib.toNat, by omega⟩
    obtain ⟨hfl, hfg⟩ := hf2 f rfl
    have hd0 : ((f : Int) == -1) = false := beq_eq_false_iff_ne.2 hn1
    have HG : Hid (l.take f ++ stL rl (l.drop f) = goal) := hfg
    clear hf1 hf2 hge hn1 hfg hG
    go_enter Tryz.func81, Tryz.ntmps81
    go_wp2_with fail
    refine (startBytes _).mono ?_
    rintro e w1 ⟨v1, rfl, hv1, hb1, _⟩
    have hB1 : Below w.heap.size w w1 := id hb1
    obtain ⟨a1, hi1, hcc⟩ := hv1.out.at_ 0 (by decide) (by decide)
    have hc1 : w1.cell? a1 = some (.int .u8 226) := hcc _ hv1.out
    clear hcc hv1 hb1
    go_wp2_with fail
    refine (HIB.out _ (HS.out.below hB1)).mono ?_
    rintro e w2 ⟨rfl, rfl⟩
    clear hi1 hc1
    go_wp2_with fail
    refine (startBytes _).mono ?_
    rintro e w2 ⟨v2, rfl, hv2, hb2, _⟩
    have hB2 : Below w.heap.size w w2 := Below.trans' hB1 (Nat.le_refl _) hb2
    obtain ⟨a2, hi2, hcc⟩ := hv2.out.at_ 1 (by decide) (by decide)
    have hc2 : w2.cell? a2 = some (.int .u8 128) := hcc _ hv2.out
    clear hcc hv2 hb2
    go_wp2_with fail
    clear hi2 hc2
    refine (startBytes _).mono ?_
    rintro e w3 ⟨v3, rfl, hv3, hb3, _⟩
    have hB3 : Below w.heap.size w w3 := Below.trans' hB2 (Nat.le_refl _) hb3
    obtain ⟨a3, hi3, hcc⟩ := hv3.out.at_ 2 (by decide) (by decide)
    have hc3 : w3.cell? a3 = some (.int .u8 185) := hcc _ hv3.out
    clear hcc hv3 hb3
    go_wp2_with fail
    clear hi3 hc3
    refine (endBytes _).mono ?_
    rintro e w4 ⟨v4, rfl, hv4, hb4, _⟩
    have hB4 : Below w.heap.size w w4 := Below.trans' hB3 (Nat.le_refl _) hb4
    obtain ⟨a4, hi4, hcc⟩ := hv4.out.at_ 2 (by decide) (by decide)
    have hc4 : w4.cell? a4 = some (.int .u8 186) := hcc _ hv4.out
    clear hcc hv4 hb4
    go_wp2_with fail
    clear hi4 hc4
    refine (hashBytes _).mono ?_
    rintro e w5 ⟨v5, rfl, hv5, hb5, _⟩
    have hB5 : Below w.heap.size w w5 := Below.trans' hB4 (Nat.le_refl _) hb5
    obtain ⟨a5, hi5, hcc⟩ := hv5.out.at_ 2 (by decide) (by decide)
    have hc5 : w5.cell? a5 = some (.int .u8 160) := hcc _ hv5.out
    clear hcc hv5 hb5 hB1 hB2 hB3 hB4
    obtain ⟨w6, hmk, hown6, hb6⟩ := Own.make w5 l.length (by omega)
    have hB6 : Below w.heap.size w w6 := hB5.trans (hb6.mono hB5.size)
    have hz5 := hB5.size
    have hz6 := hb6.size
    have HO6 := Lib.hid hown6; clear hown6 hb6
    obtain ⟨B, hBB⟩ : ∃ B, w5.heap.size = B := ⟨_, rfl⟩
    go_wp2_with fail
    rw [hBB] at hz5 hz6 HO6
    clear hBB hi5 hc5 hmk
    go_loopw [11, 12, 13] (fun bv pv iv wr => ∃ (pos i : Nat) (acc : List UInt8), pv = .int .i64 pos ∧ iv = .int .i64 i ∧ i ≤ l.length ∧ Hid (StI rl l goal pos i acc) ∧ Hid (Own wr B bv acc) ∧ Below w.heap.size w wr ∧ B ≤ wr.heap.size)
      (fun _ _ iv _ => l.length - (intOf iv).toNat)
    case atStart => exact ⟨0, f, [], rfl, rfl, by omega, ⟨Nat.zero_le _, by omega, by simpa using HG.out, fun _ => rfl, by simp⟩, HO6.out, hB6, hz6⟩
    case round =>
      obtain ⟨pos, i, acc, rfl, rfl, hil, hst, hR, hnx, hwz⟩ := hrel
      clear HO6 hB6 hz6
      by_cases hlt : i < l.length
      · obtain ⟨a0, hx0, hcc0⟩ := HS.out.at_ i (by omega) (by omega)
        have c0 := hcc0 _ (HS.out.below hnx)
        rw [Int.toNat_natCast] at c0
        clear hcc0
        have HMK := Lib.hid (isMk_at (l := l) (i := i))
        obtain ⟨x0, hx0v⟩ : ∃ x, l.getD i 0 = x := ⟨_, rfl⟩
        rw [hx0v] at c0 HMK
        clear hx0v
        by_cases e0 : x0 = 226
        · have t0 : ((x0.toNat : Int) == 226) = true := by rw [e0]; rfl
          by_cases h2 : i + 2 < l.length
          · have h2' : (i : Int) + 2 < (l.length : Int) := by omega
            obtain ⟨a1, hx1, hcc1⟩ := HS.out.at_ ((i : Int) + 1) (by omega) (by omega)
            have c1 := hcc1 _ (HS.out.below hnx)
            rw [show ((i : Int) + 1).toNat = i + 1 by omega] at c1
            clear hcc1
            obtain ⟨x1, hx1v⟩ : ∃ x, l.getD (i + 1) 0 = x := ⟨_, rfl⟩
            rw [hx1v] at c1 HMK
            clear hx1v
            by_cases e1 : x1 = 128
            · have t1 : ((x1.toNat : Int) == 128) = true := by rw [e1]; rfl
              obtain ⟨a2, hx2, hcc2⟩ := HS.out.at_ ((i : Int) + 2) (by omega) (by omega)
              have c2 := hcc2 _ (HS.out.below hnx)
              rw [show ((i : Int) + 2).toNat = i + 2 by omega] at c2
              clear hcc2
              obtain ⟨x2, hx2v⟩ : ∃ x, l.getD (i + 2) 0 = x := ⟨_, rfl⟩
              rw [hx2v] at c2 HMK
              clear hx2v
              by_cases e2 : x2 = 185 ∨ x2 = 186 ∨ x2 = 160
              · have hm : isMk ((l.drop i).take 3) = true := by rw [HMK.out, e0, e1, decide_eq_true h2]; rcases e2 with e | e | e <;> rw [e] <;> rfl
                have hst2 := hst.out.hit hm (by omega) hrl
                have hpi : pos ≤ i := hst.out.1
                have hal : acc.length ≤ 3 * pos := hst.out.2.2.2.2
                obtain ⟨v5, hfr, hv5⟩ := HS.out.sub pos i (by omega) (by omega) (by omega)
                obtain ⟨bv6, w6, hap, hown6, hg6⟩ := hR.out.append (hv5 _ (HS.out.below hnx)) (by simp; omega) hwz 31
                have hb6 : Below w.heap.size w w6 := hnx.grown hg6 hnx.size (fun k hk => Nat.le_trans hz5 (hR.out.blk k hk))
                have hz6 : B ≤ w6.heap.size := Nat.le_trans hwz hg6.size
                obtain ⟨bv7, w7, hap7, hown7, hg7⟩ := hown6.append (HR.out.below hb6) (by simp; omega) hz6 31
                have hb7 : Below w.heap.size w w7 := hb6.grown hg7 hb6.size (fun k hk => Nat.le_trans hz5 (hown6.blk k hk))
                have hz7 : B ≤ w7.heap.size := Nat.le_trans hz6 hg7.size
                have HH : Hid (Hid (StI rl l goal (i + 3) (i + 3) (acc ++ (l.take i).drop pos ++ rl)) ∧ Hid (Own w7 B bv7 (acc ++ (l.take i).drop pos ++ rl)) ∧ Below w.heap.size w w7 ∧ B ≤ w7.heap.size) := ⟨hst2, (by show Own _ _ _ _; simpa using hown7), hb7, hz7⟩
                clear hm hst2 hal hv5 hown6 hg6 hb6 hz6 hown7 hg7 hb7 hz7 HMK e0 e1
                rcases e2 with e | e | e
                · have HX2 := Lib.hid e; clear e
                  have t2 : ((x2.toNat : Int) == 185) = true := by rw [show (185 : Int) = ((185 : UInt8).toNat : Int) from rfl, u8_eq, HX2.out]; decide
                  have t3 : ((x2.toNat : Int) == 186) = false := by rw [show (186 : Int) = ((186 : UInt8).toNat : Int) from rfl, u8_eq, HX2.out]; decide
                  have t4 : ((x2.toNat : Int) == 160) = false := by rw [show (160 : Int) = ((160 : UInt8).toNat : Int) from rfl, u8_eq, HX2.out]; decide
                  go_wp2_with (first | (at_builtin; refine wpList_append_known _ rfl _ _ rfl _ _ rfl rfl hap ?_) | (at_builtin; refine wpList_append_known _ rfl _ _ rfl _ _ rfl rfl hap7 ?_))
                  go_roundw
                  case rel => exact ⟨i + 3, i + 3, _, by go_num, by go_num, by omega, HH.out.1, HH.out.2.1, HH.out.2.2.1, HH.out.2.2.2⟩
                  case measure => simp [intOf]; omega
                · have HX2 := Lib.hid e; clear e
                  have t2 : ((x2.toNat : Int) == 185) = false := by rw [show (185 : Int) = ((185 : UInt8).toNat : Int) from rfl, u8_eq, HX2.out]; decide
                  have t3 : ((x2.toNat : Int) == 186) = true := by rw [show (186 : Int) = ((186 : UInt8).toNat : Int) from rfl, u8_eq, HX2.out]; decide
                  have t4 : ((x2.toNat : Int) == 160) = false := by rw [show (160 : Int) = ((160 : UInt8).toNat : Int) from rfl, u8_eq, HX2.out]; decide
                  go_wp2_with (first | (at_builtin; refine wpList_append_known _ rfl _ _ rfl _ _ rfl rfl hap ?_) | (at_builtin; refine wpList_append_known _ rfl _ _ rfl _ _ rfl rfl hap7 ?_))
                  go_roundw
                  case rel => exact ⟨i + 3, i + 3, _, by go_num, by go_num, by omega, HH.out.1, HH.out.2.1, HH.out.2.2.1, HH.out.2.2.2⟩
                  case measure => simp [intOf]; omega
                · have HX2 := Lib.hid e; clear e
                  have t2 : ((x2.toNat : Int) == 185) = false := by rw [show (185 : Int) = ((185 : UInt8).toNat : Int) from rfl, u8_eq, HX2.out]; decide
                  have t3 : ((x2.toNat : Int) == 186) = false := by rw [show (186 : Int) = ((186 : UInt8).toNat : Int) from rfl, u8_eq, HX2.out]; decide
                  have t4 : ((x2.toNat : Int) == 160) = true := by rw [show (160 : Int) = ((160 : UInt8).toNat : Int) from rfl, u8_eq, HX2.out]; decide
                  go_wp2_with (first | (at_builtin; refine wpList_append_known _ rfl _ _ rfl _ _ rfl rfl hap ?_) | (at_builtin; refine wpList_append_known _ rfl _ _ rfl _ _ rfl rfl hap7 ?_))
                  go_roundw
                  case rel => exact ⟨i + 3, i + 3, _, by go_num, by go_num, by omega, HH.out.1, HH.out.2.1, HH.out.2.2.1, HH.out.2.2.2⟩
                  case measure => simp [intOf]; omega
              · have t2 : ((x2.toNat : Int) == 185) = false := u8_not (fun h => e2 (.inl h))
                have t3 : ((x2.toNat : Int) == 186) = false := u8_not (fun h => e2 (.inr (.inl h)))
                have t4 : ((x2.toNat : Int) == 160) = false := u8_not (fun h => e2 (.inr (.inr h)))
                have n1 : (x2 == 185) = false := beq_eq_false_iff_ne.2 (fun h => e2 (.inl h))
                have n2 : (x2 == 186) = false := beq_eq_false_iff_ne.2 (fun h => e2 (.inr (.inl h)))
                have n3 : (x2 == 160) = false := beq_eq_false_iff_ne.2 (fun h => e2 (.inr (.inr h)))
                have HM := Lib.hid (hst.out.miss hlt (by rw [HMK.out, n1, n2, n3]; simp))
                clear e0 e1 e2 n1 n2 n3 HMK
                go_wp2_with fail
                go_roundw
                case rel => exact ⟨pos, i + 1, acc, rfl, by go_num, by omega, HM.out, hR, hnx, hwz⟩
                case measure => simp [intOf]; omega
            · have t1 : ((x1.toNat : Int) == 128) = false := u8_not e1
              have HM := Lib.hid (hst.out.miss hlt (by rw [HMK.out, beq_eq_false_iff_ne.2 e1]; simp))
              clear e0 e1 HMK
              go_wp2_with fail
              go_roundw
              case rel => exact ⟨pos, i + 1, acc, rfl, by go_num, by omega, HM.out, hR, hnx, hwz⟩
              case measure => simp [intOf]; omega
          · have h2' : ¬ (i : Int) + 2 < (l.length : Int) := by omega
            have HM := Lib.hid (hst.out.miss hlt (by rw [HMK.out, decide_eq_false h2]; rfl))
            clear e0 HMK
            go_wp2_with fail
            go_roundw
            case rel => exact ⟨pos, i + 1, acc, rfl, by go_num, by omega, HM.out, hR, hnx, hwz⟩
            case measure => simp [intOf]; omega
        · have t0 : ((x0.toNat : Int) == 226) = false := u8_not e0
          have HM := Lib.hid (hst.out.miss hlt (by rw [HMK.out, beq_eq_false_iff_ne.2 e0]; simp))
          clear e0 HMK
          go_wp2_with fail
          go_roundw
          case rel => exact ⟨pos, i + 1, acc, rfl, by go_num, by omega, HM.out, hR, hnx, hwz⟩
          case measure => simp [intOf]; omega
      · obtain ⟨hf1, hf2⟩ := hst.out.stop hlt
        have hpi : pos ≤ l.length := by have := hst.out.1; omega
        have hal : acc.length ≤ 3 * pos := hst.out.2.2.2.2
        by_cases hp0 : pos = 0
        · have t0 : ((pos : Int) == 0) = true := beq_iff_eq.2 (by omega)
          have HF : Hid (l = goal) := hf2 hp0
          clear hf1 hf2 hp0
          go_wp2_with fail
          go_ret
          exact ⟨s, rfl, by show BAt _ _ _; rw [← HF.out]; exact HS.out.below hnx, hnx⟩
        · have t0 : ((pos : Int) == 0) = false := beq_eq_false_iff_ne.2 (by omega)
          obtain ⟨v5, hfr, hv5⟩ := HS.out.from_ pos (by omega) (by omega)
          obtain ⟨bv6, w6, hap, hown6, hg6⟩ := hR.out.append (hv5 _ (HS.out.below hnx)) (by simp; omega) hwz 31
          have hb6 : Below w.heap.size w w6 := hnx.grown hg6 hnx.size (fun k hk => Nat.le_trans hz5 (hR.out.blk k hk))
          have HF : Hid (Own w6 B bv6 goal) := by show Own _ _ _ _; rw [← hf1]; simpa using hown6
          clear hf1 hf2 hp0 hv5 hown6 hg6
          go_wp2_with (at_builtin; refine wpList_append_known _ rfl _ _ rfl _ _ rfl rfl hap ?_)
          go_ret
          exact ⟨bv6, rfl, HF.out.bat, hb6⟩
end Go.Proofs.YtlmcglaajmjanaaGreatDoor
