/- Walks of the buffer's methods: ending a marked part, escaping. -/
import Derived.Test.YtlmcglaajmjanaaGreatDoorBufA
import Derived.Test.YtlmcglaajmjanaaGreatDoorEscW
import Derived.Test.YtlmcglaajmjanaaGreatDoorEscV
namespace Go.Proofs.YtlmcglaajmjanaaGreatDoor
open Go.RowKit
section
variable {K : Nat → Prop} {w : World} {p : Nat} {a : Option Addr} {n c : Nat} {xs : List Value} {l : List UInt8} {vu : Nat} {m : Int} {mo : Bool} {R : Nat → Option Value}
set_option maxHeartbeats 4000000 in
set_option maxRecDepth 100000 in
theorem endRed_any (h : BufL K w p l vu m mo R) (hl : l.length ≤ 100000) (h0 : l ≠ []) :
    Calls Tryz.prog 129 #[.pointer (some ⟨p, 0, none⟩)] w (BufQ K p w (.tuple #[]) (closeL l) vu m false R) := by
  obtain ⟨a, c, h⟩ := h
  have c0 := h.c0
  have hsz := h.lt
  have hbat := Lib.hid h.bat
  have hl0 : 0 < l.length := List.length_pos_iff.2 h0
  have hl0b : ((l.length : Int) == 0) = false := beq_eq_false_iff_ne.2 (by omega)
  clear h0
  have hcap := h.le
  have hspot := Lib.hid h.spot
  have H := Lib.hid h; clear h
  unfold closeL
  cases hs : Lib.hasSuffix l mkS with
  | false =>
    simp only [Bool.false_eq_true, if_false]
    go_enter Tryz.func129, Tryz.ntmps129
    go_upto_region 1 with fail
    go_cut [15] (fun s15 wx => s15 = .bool false ∧ Below w.heap.size w wx)
    case first =>
      go_region_with (first | (go_at_call 69; refine (startBytes _).mono ?_; rintro e w8 ⟨v8, rfl, hv8, hb8, hz8⟩; have c8 := (hb8.cell (p := ⟨p, 0, none⟩) hsz).trans c0) | (go_at_call 110; refine (hasSuffix_any _ _ l mkS _ (by exact hbat.out.drew.below hb8) (by exact hv8.out)).mono ?_; rintro e w9 ⟨rfl, rfl⟩))
      all_goals (go_wp2_with fail; go_meet; exact ⟨rfl, Below.trans' (Below.refl _ _).drew (Nat.le_refl _) hb8⟩)
    case rest =>
      obtain ⟨rfl, hbx⟩ := hcut
      have HC := Lib.hid (H.out.below hbx)
      have hbP : Kp K w wc := Kp.of_below H.out.hK hbx
      clear hbx
      go_wp2_with fail
      by_cases hroom : l.length + 3 ≤ c
      · refine (tryGrow_yes HC.out 3 3 rfl hroom (by omega) (by omega)).mono ?_
        rintro e w' ⟨rfl, ⟨g, hg, hB⟩, hb⟩
        obtain ⟨v', w2, hsl, hcp, hB2, hb2⟩ := hB.fillS (Lib.byteCells_length l) l.length rfl ⟨#[226, 128, 186]⟩ rfl
        have d0 := hB.c0
        have f3 := hB2.fz 3
        have c3 := hB2.c3
        have HB2 := Lib.hid hB2
        clear hB hB2
        go_wp2_with (refine wpList_copy_known _ rfl _ _ _ _ rfl _ _ rfl rfl hcp ?_)
        first | go_end0 | ((try simp only [Exit.inBlock, Exit.then]); refine bodyPost_ret (results_none rfl _ _ _) rfl ?_)
        exact ⟨rfl, (HB2.out.setMo false).toL rfl, (hbP.trans (hb.trans hb2)).setCell HB2.out.hp _ _⟩
      · refine (tryGrow_no HC.out 3 3 rfl (by omega)).mono ?_
        rintro e w' ⟨rfl, rfl⟩
        go_wp2_with fail
        refine (grow_any (k := 3) HC.out 3 rfl (by omega) (by omega) (by omega)).mono ?_
        rintro e w' ⟨rfl, ⟨a', c', g, hg, hB⟩, hb⟩
        obtain ⟨v', w2, hsl, hcp, hB2, hb2⟩ := hB.fillS (Lib.byteCells_length l) l.length rfl ⟨#[226, 128, 186]⟩ rfl
        have d0 := hB.c0
        have f3 := hB2.fz 3
        have c3 := hB2.c3
        have HB2 := Lib.hid hB2
        clear hB hB2
        go_wp2_with (refine wpList_copy_known _ rfl _ _ _ _ rfl _ _ rfl rfl hcp ?_)
        first | go_end0 | ((try simp only [Exit.inBlock, Exit.then]); refine bodyPost_ret (results_none rfl _ _ _) rfl ?_)
        exact ⟨rfl, (HB2.out.setMo false).toL rfl, (hbP.trans (hb.trans hb2)).setCell HB2.out.hp _ _⟩
  | true =>
    have hl3 : 3 ≤ l.length := suffix_len hs
    simp only [if_true]
    have hsl := fun w => slice_hi a l.length c ((l.length : Int) - 3) (by omega) (by omega) hspot.out w
    have e3 : ((l.length : Int) - 3).toNat = l.length - 3 := by omega
    rw [e3] at hsl
    clear e3
    go_enter Tryz.func129, Tryz.ntmps129
    go_upto_region 1 with fail
    go_cut [15] (fun s15 wx => s15 = .bool true ∧ Below w.heap.size w wx)
    case first =>
      go_region_with (first | (go_at_call 69; refine (startBytes _).mono ?_; rintro e w8 ⟨v8, rfl, hv8, hb8, hz8⟩; have c8 := (hb8.cell (p := ⟨p, 0, none⟩) hsz).trans c0) | (go_at_call 110; refine (hasSuffix_any _ _ l mkS _ (by exact hbat.out.drew.below hb8) (by exact hv8.out)).mono ?_; rintro e w9 ⟨rfl, rfl⟩))
      all_goals (go_wp2_with fail; go_meet; exact ⟨rfl, Below.trans' (Below.refl _ _).drew (Nat.le_refl _) hb8⟩)
    case rest =>
      obtain ⟨rfl, hbx⟩ := hcut
      have HC := Lib.hid (H.out.below hbx)
      have hbP : Kp K w wc := Kp.of_below H.out.hK hbx
      have c0 := (hbx.cell (p := ⟨p, 0, none⟩) hsz).trans c0
      have f0 := HC.out.fz 0
      have f3 := HC.out.fz 3
      have c3 := HC.out.c3
      clear hbx
      go_upto_region 2 with fail
      go_region
      go_wp2_with fail
      first | go_end0 | ((try simp only [Exit.inBlock, Exit.then]); refine bodyPost_ret (results_none rfl _ _ _) rfl ?_)
      exact ⟨rfl, ⟨_, _, (HC.out.drew.lessL _ (by omega)).setMo false⟩, ((hbP.drewN 1).setCell HC.out.hp _ _).setCell HC.out.hp _ _⟩
/-- Behind the escaping of a buffer's text. -/
def EscRow (K : Nat → Prop) (w : World) (p : Nat) (goal : List UInt8) (vu : Nat) (m : Int) (mo : Bool) (R : Nat → Option Value) (e : Ending) (w' : World) : Prop :=
  ∃ a' c', e = .returned (.slice a' goal.length c') ∧ Hid (∀ w2, Below w'.heap.size w' w2 → Buf K (w2.setCell ⟨p, 0, none⟩ (.slice a' goal.length c')) p a' goal.length c' (Lib.byteCells goal) vu m mo R) ∧ Below w.heap.size w w'
theorem escRow_of {goal : List UInt8} (h : Buf K w p a l.length c (Lib.byteCells l) vu m mo R) {e : Ending} {w' : World} (hq : EscQ (.slice a l.length c) l goal w e w') : EscRow K w p goal vu m mo R e w' := by
  obtain ⟨v, he, hv, hb⟩ := hq
  have h' := h.below hb
  have hv := hv.out
  rcases hv with ⟨rfl, rfl⟩ | ⟨hlen, ho⟩
  · refine ⟨a, c, he, fun w2 hb2 => ?_, hb⟩
    have h2 := h'.below hb2
    exact h2.setSl h2.row
  · rcases ho with ⟨rfl, hn⟩ | ⟨g, cap, cur, rfl, hg, hh, hc, hm, hcs, ht⟩
    · have hg0 : goal = [] := List.eq_nil_of_length_eq_zero hn
      subst hg0
      exact ⟨none, 0, he, fun w2 hb2 => (h'.below hb2).setSl (.inl ⟨rfl, rfl, rfl, rfl⟩), hb⟩
    · refine ⟨some ⟨g, 0, none⟩, cap, he, fun w2 hb2 => (h'.below hb2).setSl (.inr ⟨g, cur, rfl, h.fresh hg, ?_, hc, by unfold maxLen at hm; omega, by omega, ?_⟩), hb⟩
      · rw [hb2.block g (Array.getElem?_eq_some_iff.1 hh).1]; exact hh
      · rw [← ht]; congr 1; omega
theorem esc_any (h : Buf K w p a l.length c (Lib.byteCells l) vu m mo R) (brk : Bool) (hl : l.length ≤ 50000) (hv : vu ≤ l.length) (hT : Tabs w) (hz : 2 < w.heap.size) (hbad : badEnd l = false) :
    Calls Tryz.prog 82 #[.slice a l.length c, .int .i64 vu, .bool brk, .bool false] w (EscRow K w p (escT l vu brk) vu m mo R) := by
  cases brk with
  | true => exact (escBytes_true _ l vu vu rfl w h.bat hl hv hT hz hbad).mono fun e w' hq => escRow_of h hq
  | false => exact (escBytes_false _ l vu vu rfl w h.bat hl hv hT hz hbad).mono fun e w' hq => escRow_of h hq
set_option maxHeartbeats 4000000 in
set_option maxRecDepth 100000 in
theorem escapeToEnd_any (brk : Bool) (h : BufL K w p l vu m mo R) (hl : l.length ≤ 50000) (hv : vu ≤ l.length) (hT : Tabs w) (hz : 2 < p) (hbad : badEnd l = false) :
    Calls Tryz.prog 128 #[.pointer (some ⟨p, 0, none⟩), .bool brk] w (BufQ K p w (.tuple #[]) (escT l vu brk) (escT l vu brk).length m mo R) := by
  obtain ⟨a, c, h⟩ := h
  have c0 := h.c0
  have c1 := h.c1
  have f0 := h.fz 0
  have f1 := h.fz 1
  have hsz := h.lt
  have H := Lib.hid h; clear h
  have HT := Lib.hid hT; clear hT
  have HV := Lib.hid hbad; clear hbad
  generalize hG : escT l vu brk = goal
  have HG := Lib.hid hG; clear hG
  go_enter Tryz.func128, Tryz.ntmps128
  go_upto_region 0 with fail
  go_cut [0] (fun s0 wx => s0 = .pointer (some ⟨p, 0, none⟩) ∧ BufL K wx p goal vu m mo R ∧ Kp K w wx)
  case first =>
    go_region_with (go_at_call 82; refine (esc_any (w := w.drew) H.out.drew brk hl hv (by exact HT.out) (by exact Nat.lt_trans hz hsz) HV.out).mono ?_; rintro e w8 ⟨a8, c8, rfl, hB8, hb8⟩; have d0 := (hb8.cell (p := ⟨p, 0, none⟩) hsz).trans c0; have g0 := (hb8.frozen (p := ⟨p, 0, none⟩) hsz).trans f0; rw [HG.out] at hB8)
    all_goals
      rw [HG.out]
      go_wp2_with fail
      go_meet
      exact ⟨rfl, ⟨_, _, hB8.out _ (Below.refl _ _)⟩, (((Kp.refl K w).drewN 1).trans (Kp.of_below H.out.drew.hK hb8)).setCell H.out.hp _ _⟩
  case rest =>
    obtain ⟨rfl, ⟨a8, c8, h8⟩, hb8⟩ := hcut
    have d0 := h8.c0
    have d1 := h8.c1
    have g1 := h8.fz 1
    have H8 := Lib.hid h8; clear h8
    go_wp2_with fail
    first | go_end0 | ((try simp only [Exit.inBlock, Exit.then]); refine bodyPost_ret (results_none rfl _ _ _) rfl ?_)
    exact ⟨rfl, ⟨_, _, H8.out.setVu _⟩, hb8.setCell H8.out.hp _ _⟩
end
end Go.Proofs.YtlmcglaajmjanaaGreatDoor
