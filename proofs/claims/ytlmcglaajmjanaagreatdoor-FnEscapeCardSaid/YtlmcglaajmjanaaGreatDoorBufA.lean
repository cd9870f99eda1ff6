/- Walks of the buffer's methods: the markers. -/
import Derived.Test.YtlmcglaajmjanaaGreatDoorZd
import Derived.Test.YtlmcglaajmjanaaGreatDoorZd
import Derived.Test.YtlmcglaajmjanaaGreatDoorZc
import Derived.Deep.DeepCutAuto
namespace Go.Proofs.YtlmcglaajmjanaaGreatDoor
open Go.RowKit
/-- What a method leaves. -/
def BufQ (K : Nat → Prop) (p : Nat) (w : World) (r : Value) (l : List UInt8) (vu : Nat) (m : Int) (mo : Bool) (R : Nat → Option Value) (e : Ending) (w' : World) : Prop := e = .returned r ∧ Hid (BufL K w' p l vu m mo R) ∧ Kp K w w'
section
variable {K : Nat → Prop} {w : World} {p : Nat} {a : Option Addr} {n c : Nat} {xs : List Value} {l : List UInt8} {vu : Nat} {m : Int} {mo : Bool} {R : Nat → Option Value}
theorem byteCells_append (l t : List UInt8) : Lib.byteCells (l ++ t) = Lib.byteCells l ++ Lib.byteCells t := by simp [Lib.byteCells]
theorem Buf.toL {k : Nat} {t : List UInt8} (h : Buf K w p a (l.length + k) c (Lib.byteCells l ++ Lib.byteCells t) vu m mo R) (ht : t.length = k) : BufL K w p (l ++ t) vu m mo R :=
  ⟨a, c, by rw [byteCells_append, List.length_append, ht]; exact h⟩
theorem Buf.bat (h : Buf K w p a l.length c (Lib.byteCells l) vu m mo R) : BAt w (.slice a l.length c) l := by
  have hle := h.le
  rcases h.row with ⟨h1, h2, h3, h4⟩ | ⟨g, cur, ha, hg, hh, h1, h2, h3, h4⟩
  · have hl0 : l = [] := List.eq_nil_of_length_eq_zero h2
    subst hl0
    exact ⟨a, 0, 0, c, rfl, hle.1, hle.2.1, .inl ⟨rfl, fun _ => h3⟩, fun j hj => by cases hj⟩
  · refine ⟨a, g, 0, c, rfl, h1, h2, .inr ha, fun j hj => ?_⟩
    have e : (cur.toList.take l.length)[j]? = (Lib.byteCells l)[j]? := by rw [h4]
    simp [World.cell?, hh]
    rw [List.getElem?_take_of_lt hj] at e
    rw [Array.getElem?_toList] at e
    rw [e]; simp [Lib.byteCells, hj]
theorem BAt.cutTo {c : Nat} (h : BAt w (.slice a n c) l) (k : Nat) (hk : k ≤ l.length) : BAt w (.slice a k c) (l.take k) := by
  obtain ⟨p, b, o, c', hv, hc, hm, hp, hx⟩ := h
  injection hv with e1 e2 e3
  subst e1; subst e3
  have hlen : (l.take k).length = k := by simp; omega
  refine ⟨a, b, o, c, by rw [hlen], by rw [hlen]; omega, hm, ?_, fun j hj => ?_⟩
  · rcases hp with ⟨rfl, h2⟩ | h2
    · exact .inl ⟨by simp, h2⟩
    · exact .inr h2
  · rw [hlen] at hj
    rw [hx j (by omega)]; simp
set_option maxHeartbeats 4000000 in
set_option maxRecDepth 100000 in
theorem startRed_new (h : BufL K w p l vu m mo R) (hl : l.length ≤ 100000) (hs : Lib.hasSuffix l mkE = false) :
    Calls Tryz.prog 173 #[.pointer (some ⟨p, 0, none⟩)] w (BufQ K p w (.tuple #[]) (l ++ mkS) vu m true R) := by
  obtain ⟨a, c, h⟩ := h
  have c0 := h.c0
  have hsz := h.lt
  have hbat := Lib.hid h.bat
  have H := Lib.hid h; clear h
  go_enter Tryz.func173, Tryz.ntmps173
  go_upto_region 0 with fail
  go_cut [12] (fun s12 wx => s12 = .bool false ∧ Below w.heap.size w wx)
  case first =>
    go_region_with (first | (go_at_call 97; refine (endBytes _).mono ?_; rintro e w8 ⟨v8, rfl, hv8, hb8, hz8⟩; have c8 := (hb8.cell (p := ⟨p, 0, none⟩) hsz).trans c0) | (go_at_call 110; refine (hasSuffix_any _ _ l mkE _ (by exact hbat.out.drew.below hb8) (by exact hv8.out)).mono ?_; rintro e w9 ⟨rfl, rfl⟩))
    all_goals (go_wp2_with fail; go_meet; exact ⟨rfl, Below.trans' (Below.refl _ _).drew (Nat.le_refl _) hb8⟩)
  case rest =>
    obtain ⟨rfl, hbx⟩ := hcut
    have HC := Lib.hid (H.out.below hbx)
    have hbP : Kp K w wc := Kp.of_below H.out.hK hbx
    clear hbx
    go_wp2_with fail
    by_cases hroom : l.length + 3 ≤ c
    · refine (tryGrow_yes HC.out 3 3 rfl hroom (by omega) (by omega)).mono ?_
      rintro e w' ⟨rfl, ⟨g, hg, hB⟩, hb⟩
      obtain ⟨v', w2, hsl, hcp, hB2, hb2⟩ := hB.fillS (Lib.byteCells_length l) l.length rfl ⟨#[226, 128, 185]⟩ rfl
      have d0 := hB.c0
      have f3 := hB2.fz 3
      have c3 := hB2.c3
      have HB2 := Lib.hid hB2
      clear hB hB2
      go_wp2_with (refine wpList_copy_known _ rfl _ _ _ _ rfl _ _ rfl rfl hcp ?_)
      first | go_end0 | ((try simp only [Exit.inBlock, Exit.then]); refine bodyPost_ret (results_none rfl _ _ _) rfl ?_)
      exact ⟨rfl, (HB2.out.setMo true).toL rfl, (hbP.trans (hb.trans hb2)).setCell HB2.out.hp _ _⟩
    · refine (tryGrow_no HC.out 3 3 rfl (by omega)).mono ?_
      rintro e w' ⟨rfl, rfl⟩
      go_wp2_with fail
      refine (grow_any (k := 3) HC.out 3 rfl (by omega) (by omega) (by omega)).mono ?_
      rintro e w' ⟨rfl, ⟨a', c', g, hg, hB⟩, hb⟩
      obtain ⟨v', w2, hsl, hcp, hB2, hb2⟩ := hB.fillS (Lib.byteCells_length l) l.length rfl ⟨#[226, 128, 185]⟩ rfl
      have d0 := hB.c0
      have f3 := hB2.fz 3
      have c3 := hB2.c3
      have HB2 := Lib.hid hB2
      clear hB hB2
      go_wp2_with (refine wpList_copy_known _ rfl _ _ _ _ rfl _ _ rfl rfl hcp ?_)
      first | go_end0 | ((try simp only [Exit.inBlock, Exit.then]); refine bodyPost_ret (results_none rfl _ _ _) rfl ?_)
      exact ⟨rfl, (HB2.out.setMo true).toL rfl, (hbP.trans (hb.trans hb2)).setCell HB2.out.hp _ _⟩
theorem Buf.lessL (h : Buf K w p a l.length c (Lib.byteCells l) vu m mo R) (k : Nat) (hk : k ≤ l.length) : Buf K (w.setCell ⟨p, 0, none⟩ (.slice a k c)) p a (l.take k).length c (Lib.byteCells (l.take k)) vu m mo R := by
  have e1 : (l.take k).length = k := by simp; omega
  have e2 : Lib.byteCells (l.take k) = (Lib.byteCells l).take k := by simp [Lib.byteCells, List.map_take]
  rw [e1, e2]; exact h.less k hk
theorem noHash_cut (hz : NoHash l) (k i : Nat) (hi : i + 3 ≤ k) (hm : ((l.take k).drop i).take 3 = mkS) : (((l.take k).drop (i + 3)).take mkH.length == mkH) = false := by
  refine beq_eq_false_iff_ne.2 fun hn => ?_
  have e3 : mkH.length = 3 := rfl
  rw [e3] at hn
  have hlen := congrArg List.length hn
  simp [mkH] at hlen
  refine hz i ?_ ?_
  · rw [List.drop_take, List.take_take] at hm
    rw [← hm]; congr 1; omega
  · rw [List.drop_take, List.take_take] at hn
    rw [← hn]; congr 1; omega
theorem hasPrefix_not (s t : Value) (l m : List UInt8) (w : World) (hs : BAt w s l) (ht : BAt w t m) (hb : (l.take m.length == m) = false) : Calls Tryz.prog 188 #[s, t] w fun e w' => e = .returned (.bool false) ∧ w = w' := by
  refine (hasPrefix_any s t l m w hs ht).mono ?_
  rintro e w' ⟨rfl, rfl⟩
  rw [hb]; exact ⟨rfl, rfl⟩
set_option maxHeartbeats 4000000 in
set_option maxRecDepth 100000 in
theorem startRed_merge (h : BufL K w p l vu m mo R) (hl : l.length ≤ 100000) (hs : Lib.hasSuffix l mkE = true) (hz : NoHash l) :
    Calls Tryz.prog 173 #[.pointer (some ⟨p, 0, none⟩)] w (BufQ K p w (.tuple #[]) (l.take (l.length - 3)) vu m true R) := by
  obtain ⟨a, c, h⟩ := h
  have hl3 : 3 ≤ l.length := suffix_len hs
  have c0 := h.c0
  have hsz := h.lt
  have hbat := Lib.hid h.bat
  have hsl := fun w => slice_hi a l.length c ((l.length : Int) - 3) (by omega) (by have := h.le; omega) h.spot w
  have e3 : ((l.length : Int) - 3).toNat = l.length - 3 := by omega
  rw [e3] at hsl
  clear e3
  have H := Lib.hid h; clear h
  go_enter Tryz.func173, Tryz.ntmps173
  go_upto_region 0 with fail
  go_cut [12] (fun s12 wx => s12 = .bool true ∧ Below w.heap.size w wx)
  case first =>
    go_region_with (first | (go_at_call 97; refine (endBytes _).mono ?_; rintro e w8 ⟨v8, rfl, hv8, hb8, hz8⟩; have c8 := (hb8.cell (p := ⟨p, 0, none⟩) hsz).trans c0) | (go_at_call 110; refine (hasSuffix_any _ _ l mkE _ (by exact hbat.out.drew.below hb8) (by exact hv8.out)).mono ?_; rintro e w9 ⟨rfl, rfl⟩))
    all_goals (go_wp2_with fail; go_meet; exact ⟨rfl, Below.trans' (Below.refl _ _).drew (Nat.le_refl _) hb8⟩)
  case rest =>
    obtain ⟨rfl, hbx⟩ := hcut
    have c0 := (hbx.cell (p := ⟨p, 0, none⟩) hsz).trans c0
    go_wp2_with fail
    go_quiet (fail)
    have hb1 := below_drewN' hbx nq
    clear hbx c0
    generalize wc.drewN nq = w1 at hb1
    go_wp2_with fail
    refine (startBytes _).mono ?_
    rintro e w2 ⟨v2, rfl, hv2, hb2, _⟩
    have hb2 := Below.trans' hb1 (Nat.le_refl _) hb2
    clear hb1
    have hpre := Lib.hid ((hbat.out.cutTo (l.length - 3) (by omega)).below hb2)
    go_wp2_with fail
    refine (lastIndex_any _ _ (l.take (l.length - 3)) mkS w2 hpre.out hv2.out rfl (by simp; omega)).mono ?_
    rintro e w3 ⟨r, rfl, hr, n, rfl⟩
    have hb3 := below_drewN' hb2 n
    clear hb2 hpre hv2 hsl
    generalize w2.drewN n = w3 at hb3
    rcases hr with rfl | ⟨i, rfl, hi, hm⟩
    · go_wp2_with fail
      go_quiet (fail)
      have hb4 := below_drewN' hb3 nq
      clear hb3
      generalize w3.drewN nq = w4 at hb4
      have HD := Lib.hid (H.out.below hb4)
      have hbP : Kp K w w4 := Kp.of_below H.out.hK hb4
      clear hb4
      have f0 := HD.out.fz 0
      have f3 := HD.out.fz 3
      have d0 := HD.out.c0
      have d3 := HD.out.c3
      go_wp2_with fail
      first | go_end0 | ((try simp only [Exit.inBlock, Exit.then]); refine bodyPost_ret (results_none rfl _ _ _) rfl ?_)
      skip
      exact ⟨rfl, ⟨_, _, (HD.out.lessL _ (by omega)).setMo true⟩, (hbP.setCell HD.out.hp _ _).setCell HD.out.hp _ _⟩
    · have hi2 : i + 3 ≤ l.length - 3 := by have : mkS.length = 3 := rfl; simp at hi; omega
      have hge : (0 : Int) ≤ (i : Int) := by omega
      have hpre3 := (hbat.out.cutTo (l.length - 3) (by omega)).below hb3
      generalize hvp : Value.slice a (l.length - 3) c = vp
      rw [hvp] at hpre3
      have HVP := Lib.hid hvp
      clear hvp
      obtain ⟨v5, hfr, hv5⟩ := hpre3.from_ ((i : Int) + 3) (by omega) (by simp; omega)
      have hfr2 := fun w' => (run_sliceAt_slice (P := Tryz.prog) w' 31 vp (some (.int .i64 ((i : Int) + 3))) none none und_bytes).symm.trans (hfr w')
      have hib : (i : Int) + 3 ≤ 1000000 := by omega
      have hwr : IntKind.i64.wrap ((i : Int) + 3) = (i : Int) + 3 := by rw [IntKind.wrap_i64]; omega
      have hnot := noHash_cut hz (l.length - 3) i hi2 hm
      have e5 : ((i : Int) + 3).toNat = i + 3 := by omega
      have HP5 := Lib.hid (hv5 w3 hpre3)
      rw [e5] at HP5
      clear hv5 e5 hpre3 hm hi
      go_upto_region 3 with fail
      go_cut [4] (fun s4 wx => s4 = .bool false ∧ Below w3.heap.size w3 wx)
      case first =>
        go_region_with (first | (go_at_call 109; refine (hashBytes _).mono ?_; rintro e w8 ⟨v8, rfl, hv8, hb8, hz8⟩) | (go_at_call 188; refine (hasPrefix_not _ _ _ mkH _ (by exact HP5.out.drew.below hb8) (by exact hv8.out) hnot).mono ?_; rintro e w9 ⟨rfl, rfl⟩))
        all_goals (go_wp2_with fail; go_meet; exact ⟨rfl, Below.trans' (Below.refl _ _).drew (Nat.le_refl _) hb8⟩)
      case rest =>
        obtain ⟨rfl, hb4⟩ := hcut
        have hb4 := Below.trans' hb3 (Nat.le_refl _) hb4
        have HD := Lib.hid (H.out.below hb4)
        have hbP : Kp K w wc := Kp.of_below H.out.hK hb4
        clear hb4 hfr hfr2 hwr hnot HP5
        have hvp := HVP.out
        clear HVP
        subst hvp
        have f0 := HD.out.fz 0
        have f3 := HD.out.fz 3
        have d0 := HD.out.c0
        have d3 := HD.out.c3
        go_wp2_with fail
        first | go_end0 | ((try simp only [Exit.inBlock, Exit.then]); refine bodyPost_ret (results_none rfl _ _ _) rfl ?_)
        skip
        exact ⟨rfl, ⟨_, _, (HD.out.lessL _ (by omega)).setMo true⟩, (hbP.setCell HD.out.hp _ _).setCell HD.out.hp _ _⟩
theorem startRed_any (h : BufL K w p l vu m mo R) (hl : l.length ≤ 100000) (hz : NoHash l) :
    Calls Tryz.prog 173 #[.pointer (some ⟨p, 0, none⟩)] w (BufQ K p w (.tuple #[]) (openL l) vu m true R) := by
  unfold openL
  cases hs : Lib.hasSuffix l mkE with
  | true => exact startRed_merge h hl hs hz
  | false => exact startRed_new h hl hs
end
end Go.Proofs.YtlmcglaajmjanaaGreatDoor
