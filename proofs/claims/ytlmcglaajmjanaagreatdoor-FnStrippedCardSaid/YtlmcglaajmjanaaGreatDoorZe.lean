/- Walks of the buffer's methods: ending a marked part, escaping. -/
/- Walks of the buffer's methods: writing, modes, the end. -/
/- Walks of the buffer's methods: what is taken out, single bytes. -/
import Derived.Test.YtlmcglaajmjanaaGreatDoorBufA
import Derived.Test.YtlmcglaajmjanaaGreatDoorEscW
import Derived.Test.YtlmcglaajmjanaaGreatDoorEscV
namespace Go.Proofs.YtlmcglaajmjanaaGreatDoor
open Go.RowKit
section
variable {K : Nat → Prop} {w : World} {p : Nat} {a : Option Addr} {n c : Nat} {xs : List Value} {l : List UInt8} {vu : Nat} {m : Int} {mo : Bool} {R : Nat → Option Value}
set_option maxHeartbeats 4000000 in
set_option maxRecDepth 100000 in
theorem endRed_any (h : BufL K w p l vu m mo R) (hl : l.length ≤ 100000) (h0 : l ≠ []) :
    Calls Tryz.prog 129 #[.pointer (some ⟨p, 0, none⟩)] w (BufQ K p w (.tuple #[]) (closeL l) vu m false R) := by
  obtain ⟨a, c, h⟩ := h
  have c0 := h.c0
  have hsz := h.lt
  have hbat := Lib.hid h.bat
  have hl0 : 0 < l.length := List.length_pos_iff.2 h0
  have hl0b : ((l.length : Int) == 0) = false := beq_eq_false_iff_ne.2 (by omega)
  clear h0
  have hcap := h.le
  have hspot := Lib.hid h.spot
  have H := Lib.hid h; clear h
  unfold closeL
  cases hs : Lib.hasSuffix l mkS with
  | false =>
    simp only [Bool.false_eq_true, if_false]
    go_enter Tryz.func129, Tryz.ntmps129
    go_upto_region 1 with fail
    go_cut [15] (fun s15 wx => s15 = .bool false ∧ Below w.heap.size w wx)
    case first =>
      go_region_with (first | (go_at_call 69; refine (startBytes _).mono ?_; rintro e w8 ⟨v8, rfl, hv8, hb8, hz8⟩; have c8 := (hb8.cell (p := ⟨p, 0, none⟩) hsz).trans c0) | (go_at_call 110; refine (hasSuffix_any _ _ l mkS _ (by exact hbat.out.drew.below hb8) (by exact hv8.out)).mono ?_; rintro e w9 ⟨rfl, rfl⟩))
      all_goals (go_wp2_with fail; go_meet; exact ⟨rfl, Below.trans' (Below.refl _ _).drew (Nat.le_refl _) hb8⟩)
    case rest =>
      obtain ⟨rfl, hbx⟩ := hcut
      have HC := Lib.hid (H.out.below hbx)
      have hbP : Kp K w wc := Kp.of_below H.out.hK hbx
      clear hbx
      go_wp2_with fail
      by_cases hroom : l.length + 3 ≤ c
      · refine (tryGrow_yes HC.out 3 3 rfl hroom (by omega) (by omega)).mono ?_
        rintro e w' ⟨rfl, ⟨g, hg, hB⟩, hb⟩
        obtain ⟨v', w2, hsl, hcp, hB2, hb2⟩ := hB.fillS (Lib.byteCells_length l) l.length rfl ⟨#[226, 128, 186]⟩ rfl
        have d0 := hB.c0
        have f3 := hB2.fz 3
        have c3 := hB2.c3
        have HB2 := Lib.hid hB2
        clear hB hB2
        go_wp2_with (refine wpList_copy_known _ rfl _ _ _ _ rfl _ _ rfl rfl hcp ?_)
        first | go_end0 | ((try simp only [Exit.inBlock, Exit.then]); refine bodyPost_ret (results_none rfl _ _ _) rfl ?_)
        exact ⟨rfl, (HB2.out.setMo false).toL rfl, (hbP.trans (hb.trans hb2)).setCell HB2.out.hp _ _⟩
      · refine (tryGrow_no HC.out 3 3 rfl (by omega)).mono ?_
        rintro e w' ⟨rfl, rfl⟩
        go_wp2_with fail
        refine (grow_any (k := 3) HC.out 3 rfl (by omega) (by omega) (by omega)).mono ?_
        rintro e w' ⟨rfl, ⟨a', c', g, hg, hB⟩, hb⟩
        obtain ⟨v', w2, hsl, hcp, hB2, hb2⟩ := hB.fillS (Lib.byteCells_length l) l.length rfl ⟨#[226, 128, 186]⟩ rfl
        have d0 := hB.c0
        have f3 := hB2.fz 3
        have c3 := hB2.c3
        have HB2 := Lib.hid hB2
        clear hB hB2
        go_wp2_with (refine wpList_copy_known _ rfl _ _ _ _ rfl _ _ rfl rfl hcp ?_)
        first | go_end0 | ((try simp only [Exit.inBlock, Exit.then]); refine bodyPost_ret (results_none rfl _ _ _) rfl ?_)
        exact ⟨rfl, (HB2.out.setMo false).toL rfl, (hbP.trans (hb.trans hb2)).setCell HB2.out.hp _ _⟩
  | true =>
    have hl3 : 3 ≤ l.length := suffix_len hs
    simp only [if_true]
    have hsl := fun w => slice_hi a l.length c ((l.length : Int) - 3) (by omega) (by omega) hspot.out w
    have e3 : ((l.length : Int) - 3).toNat = l.length - 3 := by omega
    rw [e3] at hsl
    clear e3
    go_enter Tryz.func129, Tryz.ntmps129
    go_upto_region 1 with fail
    go_cut [15] (fun s15 wx => s15 = .bool true ∧ Below w.heap.size w wx)
    case first =>
      go_region_with (first | (go_at_call 69; refine (startBytes _).mono ?_; rintro e w8 ⟨v8, rfl, hv8, hb8, hz8⟩; have c8 := (hb8.cell (p := ⟨p, 0, none⟩) hsz).trans c0) | (go_at_call 110; refine (hasSuffix_any _ _ l mkS _ (by exact hbat.out.drew.below hb8) (by exact hv8.out)).mono ?_; rintro e w9 ⟨rfl, rfl⟩))
      all_goals (go_wp2_with fail; go_meet; exact ⟨rfl, Below.trans' (Below.refl _ _).drew (Nat.le_refl _) hb8⟩)
    case rest =>
      obtain ⟨rfl, hbx⟩ := hcut
      have HC := Lib.hid (H.out.below hbx)
      have hbP : Kp K w wc := Kp.of_below H.out.hK hbx
      have c0 := (hbx.cell (p := ⟨p, 0, none⟩) hsz).trans c0
      have f0 := HC.out.fz 0
      have f3 := HC.out.fz 3
      have c3 := HC.out.c3
      clear hbx
      go_upto_region 2 with fail
      go_region
      go_wp2_with fail
      first | go_end0 | ((try simp only [Exit.inBlock, Exit.then]); refine bodyPost_ret (results_none rfl _ _ _) rfl ?_)
      exact ⟨rfl, ⟨_, _, (HC.out.drew.lessL _ (by omega)).setMo false⟩, ((hbP.drewN 1).setCell HC.out.hp _ _).setCell HC.out.hp _ _⟩
/-- Behind the escaping of a buffer's text. -/
def EscRow (K : Nat → Prop) (w : World) (p : Nat) (goal : List UInt8) (vu : Nat) (m : Int) (mo : Bool) (R : Nat → Option Value) (e : Ending) (w' : World) : Prop :=
  ∃ a' c', e = .returned (.slice a' goal.length c') ∧ Hid (∀ w2, Below w'.heap.size w' w2 → Buf K (w2.setCell ⟨p, 0, none⟩ (.slice a' goal.length c')) p a' goal.length c' (Lib.byteCells goal) vu m mo R) ∧ Below w.heap.size w w'
theorem escRow_of {goal : List UInt8} (h : Buf K w p a l.length c (Lib.byteCells l) vu m mo R) {e : Ending} {w' : World} (hq : EscQ (.slice a l.length c) l goal w e w') : EscRow K w p goal vu m mo R e w' := by
  obtain ⟨v, he, hv, hb⟩ := hq
  have h' := h.below hb
  have hv := hv.out
  rcases hv with ⟨rfl, rfl⟩ | ⟨hlen, ho⟩
  · refine ⟨a, c, he, fun w2 hb2 => ?_, hb⟩
    have h2 := h'.below hb2
    exact h2.setSl h2.row
  · rcases ho with ⟨rfl, hn⟩ | ⟨g, cap, cur, rfl, hg, hh, hc, hm, hcs, ht⟩
    · have hg0 : goal = [] := List.eq_nil_of_length_eq_zero hn
      subst hg0
      exact ⟨none, 0, he, fun w2 hb2 => (h'.below hb2).setSl (.inl ⟨rfl, rfl, rfl, rfl⟩), hb⟩
    · refine ⟨some ⟨g, 0, none⟩, cap, he, fun w2 hb2 => (h'.below hb2).setSl (.inr ⟨g, cur, rfl, h.fresh hg, ?_, hc, by unfold maxLen at hm; omega, by omega, ?_⟩), hb⟩
      · rw [hb2.block g (Array.getElem?_eq_some_iff.1 hh).1]; exact hh
      · rw [← ht]; congr 1; omega
theorem esc_any (h : Buf K w p a l.length c (Lib.byteCells l) vu m mo R) (brk : Bool) (hl : l.length ≤ 50000) (hv : vu ≤ l.length) (hT : Tabs w) (hz : 2 < w.heap.size) (hbad : badEnd l = false) :
    Calls Tryz.prog 82 #[.slice a l.length c, .int .i64 vu, .bool brk, .bool false] w (EscRow K w p (escT l vu brk) vu m mo R) := by
  cases brk with
  | true => exact (escBytes_true _ l vu vu rfl w h.bat hl hv hT hz hbad).mono fun e w' hq => escRow_of h hq
  | false => exact (escBytes_false _ l vu vu rfl w h.bat hl hv hT hz hbad).mono fun e w' hq => escRow_of h hq
set_option maxHeartbeats 4000000 in
set_option maxRecDepth 100000 in
theorem escapeToEnd_any (brk : Bool) (h : BufL K w p l vu m mo R) (hl : l.length ≤ 50000) (hv : vu ≤ l.length) (hT : Tabs w) (hz : 2 < p) (hbad : badEnd l = false) :
    Calls Tryz.prog 128 #[.pointer (some ⟨p, 0, none⟩), .bool brk] w (BufQ K p w (.tuple #[]) (escT l vu brk) (escT l vu brk).length m mo R) := by
  obtain ⟨a, c, h⟩ := h
  have c0 := h.c0
  have c1 := h.c1
  have f0 := h.fz 0
  have f1 := h.fz 1
  have hsz := h.lt
  have H := Lib.hid h; clear h
  have HT := Lib.hid hT; clear hT
  have HV := Lib.hid hbad; clear hbad
  generalize hG : escT l vu brk = goal
  have HG := Lib.hid hG; clear hG
  go_enter Tryz.func128, Tryz.ntmps128
  go_upto_region 0 with fail
  go_cut [0] (fun s0 wx => s0 = .pointer (some ⟨p, 0, none⟩) ∧ BufL K wx p goal vu m mo R ∧ Kp K w wx)
  case first =>
    go_region_with (go_at_call 82; refine (esc_any (w := w.drew) H.out.drew brk hl hv (by exact HT.out) (by exact Nat.lt_trans hz hsz) HV.out).mono ?_; rintro e w8 ⟨a8, c8, rfl, hB8, hb8⟩; have d0 := (hb8.cell (p := ⟨p, 0, none⟩) hsz).trans c0; have g0 := (hb8.frozen (p := ⟨p, 0, none⟩) hsz).trans f0; rw [HG.out] at hB8)
    all_goals
      rw [HG.out]
      go_wp2_with fail
      go_meet
      exact ⟨rfl, ⟨_, _, hB8.out _ (Below.refl _ _)⟩, (((Kp.refl K w).drewN 1).trans (Kp.of_below H.out.drew.hK hb8)).setCell H.out.hp _ _⟩
  case rest =>
    obtain ⟨rfl, ⟨a8, c8, h8⟩, hb8⟩ := hcut
    have d0 := h8.c0
    have d1 := h8.c1
    have g1 := h8.fz 1
    have H8 := Lib.hid h8; clear h8
    go_wp2_with fail
    first | go_end0 | ((try simp only [Exit.inBlock, Exit.then]); refine bodyPost_ret (results_none rfl _ _ _) rfl ?_)
    exact ⟨rfl, ⟨_, _, H8.out.setVu _⟩, hb8.setCell H8.out.hp _ _⟩
end
end Go.Proofs.YtlmcglaajmjanaaGreatDoor

namespace Go.Proofs.YtlmcglaajmjanaaGreatDoor
open Go.RowKit
section
variable {K : Nat → Prop} {w : World} {p : Nat} {a : Option Addr} {n c : Nat} {xs : List Value} {l : List UInt8} {vu : Nat} {m : Int} {mo : Bool} {R : Nat → Option Value}
def swl (l : List UInt8) (m : Int) (mo : Bool) : List UInt8 := if m == 0 && !mo then openL l else l
def swv (l : List UInt8) (vu : Nat) (m : Int) (mo : Bool) : Nat := if m == 0 && !mo then (openL l).length else vu
def swm (m : Int) (mo : Bool) : Bool := m == 0 || mo
theorem openL_le (l : List UInt8) : (openL l).length ≤ l.length + 3 := by
  unfold openL; split
  · simp; omega
  · simp [mkS]
theorem closeL_le (l : List UInt8) : (closeL l).length ≤ l.length + 3 := by
  unfold closeL; split
  · simp; omega
  · simp [mkE]
theorem swl_le (l : List UInt8) (m : Int) (mo : Bool) : (swl l m mo).length ≤ l.length + 3 := by
  unfold swl; split
  · exact openL_le l
  · omega
set_option maxRecDepth 100000 in
theorem startWrite_any (h : BufL K w p l vu m mo R) (hl : l.length ≤ 100000) (hz : m = 0 → mo = false → NoHash l) :
    Calls Tryz.prog 150 #[.pointer (some ⟨p, 0, none⟩)] w (BufQ K p w (.tuple #[]) (swl l m mo) (swv l vu m mo) m (swm m mo) R) := by
  have HB := Lib.hid h
  obtain ⟨a, c, h⟩ := h
  have c2 := h.c2
  have c3 := h.c3
  have H := Lib.hid h; clear h
  by_cases hm : m = 0
  · subst hm
    cases mo with
    | false =>
      have HZ := Lib.hid (hz rfl rfl); clear hz
      go_enter Tryz.func150, Tryz.ntmps150
      go_wp2_with fail
      refine (startRed_any HB.out hl HZ.out).mono ?_
      rintro e w1 ⟨rfl, h1, hb1⟩
      obtain ⟨a1, c1, h1⟩ := h1.out
      have d0 := h1.c0
      have d1 := h1.c1
      have g1 := h1.fz 1
      have H1 := Lib.hid h1; clear h1
      go_wp2_with fail
      first | go_end0 | ((try simp only [Exit.inBlock, Exit.then]); refine bodyPost_ret (results_none rfl _ _ _) rfl ?_)
      exact ⟨rfl, ⟨_, _, H1.out.setVu _⟩, hb1.setCell H1.out.hp _ _⟩
    | true =>
      clear hz
      go_enter Tryz.func150, Tryz.ntmps150
      go_wp2_with fail
      first | go_end0 | ((try simp only [Exit.inBlock, Exit.then]); refine bodyPost_ret (results_none rfl _ _ _) rfl ?_)
      exact ⟨rfl, HB.out, Kp.refl _ _⟩
  · have hmb : (m == 0) = false := beq_eq_false_iff_ne.2 hm
    have e1 : swl l m mo = l := by unfold swl; rw [hmb]; rfl
    have e2 : swv l vu m mo = vu := by unfold swv; rw [hmb]; rfl
    have e3 : swm m mo = mo := by unfold swm; rw [hmb]; rfl
    rw [e1, e2, e3]
    clear hz e1 e2 e3 hm
    go_enter Tryz.func150, Tryz.ntmps150
    go_wp2_with fail
    first | go_end0 | ((try simp only [Exit.inBlock, Exit.then]); refine bodyPost_ret (results_none rfl _ _ _) rfl ?_)
    exact ⟨rfl, HB.out, Kp.refl _ _⟩
set_option maxHeartbeats 1000000 in
set_option maxRecDepth 100000 in
theorem writeString_any (s : ByteArray) (h : BufL K w p l vu m mo R) (hl : l.length ≤ 90000) (hs : s.size ≤ 90000) (hz : m = 0 → mo = false → NoHash l) :
    Calls Tryz.prog 122 #[.pointer (some ⟨p, 0, none⟩), .string s] w (BufQ K p w (.tuple #[.int .i64 s.size, .nilIface]) (swl l m mo ++ s.data.toList) (swv l vu m mo) m (swm m mo) R) := by
  have HB := Lib.hid h; clear h
  have hl1 := swl_le l m mo
  have HS := startWrite_any HB.out (by omega) hz
  generalize swl l m mo = l1 at HS hl1
  generalize swv l vu m mo = vu1 at HS
  generalize swm m mo = mo1 at HS
  have HS := Lib.hid HS
  clear hz
  go_enter Tryz.func122, Tryz.ntmps122
  go_wp2_with fail
  refine HS.out.mono ?_
  rintro e w1 ⟨rfl, h1, hbP⟩
  obtain ⟨a1, c1, h1⟩ := h1.out
  have H1 := Lib.hid h1; clear h1
  go_wp2_with fail
  by_cases hroom : l1.length + s.size ≤ c1
  · refine (tryGrow_yes H1.out s.size s.size rfl hroom (by omega) (by omega)).mono ?_
    rintro e w' ⟨rfl, ⟨g, hg, hB⟩, hb⟩
    obtain ⟨v', w3, hsl, hcp, hB2, hb3⟩ := hB.fillS (Lib.byteCells_length l1) l1.length rfl s rfl
    have d0 := hB.c0
    have HB2 := Lib.hid hB2
    clear hB hB2
    go_wp2_with (refine wpList_copy_known _ rfl _ _ _ _ rfl _ _ rfl rfl hcp ?_)
    go_ret2
    exact ⟨rfl, HB2.out.toL (by rw [← Lib.size_eq]), hbP.trans (hb.trans hb3)⟩
  · refine (tryGrow_no H1.out s.size s.size rfl (by omega)).mono ?_
    rintro e w' ⟨rfl, rfl⟩
    go_wp2_with fail
    refine (grow_any (k := s.size) H1.out s.size rfl (by omega) (by omega) (by omega)).mono ?_
    rintro e w' ⟨rfl, ⟨a', c', g, hg, hB⟩, hb⟩
    obtain ⟨v', w3, hsl, hcp, hB2, hb3⟩ := hB.fillS (Lib.byteCells_length l1) l1.length rfl s rfl
    have d0 := hB.c0
    have HB2 := Lib.hid hB2
    clear hB hB2
    go_wp2_with (refine wpList_copy_known _ rfl _ _ _ _ rfl _ _ rfl rfl hcp ?_)
    go_ret2
    exact ⟨rfl, HB2.out.toL (by rw [← Lib.size_eq]), hbP.trans (hb.trans hb3)⟩
set_option maxHeartbeats 1000000 in
set_option maxRecDepth 100000 in
theorem write_any (s : Value) (t : List UInt8) (h : BufL K w p l vu m mo R) (hs : BAt w s t) (hl : l.length ≤ 90000) (hs2 : t.length ≤ 90000) (hz : m = 0 → mo = false → NoHash l) (hp : ∀ w' a' n' c' xs' vu' mo', Buf K w' p a' n' c' xs' vu' m mo' R → Kp K w w' → BAt w' s t) :
    Calls Tryz.prog 125 #[.pointer (some ⟨p, 0, none⟩), s] w (BufQ K p w (.tuple #[.int .i64 t.length, .nilIface]) (swl l m mo ++ t) (swv l vu m mo) m (swm m mo) R) := by
  have hlen := hs.len 3
  have HP := Lib.hid hp
  clear hp hs
  have HB := Lib.hid h; clear h
  have hl1 := swl_le l m mo
  have HS := startWrite_any HB.out (by omega) hz
  generalize swl l m mo = l1 at HS hl1
  generalize swv l vu m mo = vu1 at HS
  generalize swm m mo = mo1 at HS
  have HS := Lib.hid HS
  clear hz
  go_enter Tryz.func125, Tryz.ntmps125
  go_wp2_with fail
  refine HS.out.mono ?_
  rintro e w1 ⟨rfl, h1, hbP⟩
  obtain ⟨a1, c1, h1⟩ := h1.out
  have H1 := Lib.hid h1; clear h1
  go_wp2_with fail
  by_cases hroom : l1.length + t.length ≤ c1
  · refine (tryGrow_yes H1.out t.length t.length rfl hroom (by omega) (by omega)).mono ?_
    rintro e w' ⟨rfl, ⟨g, hg, hB⟩, hb⟩
    obtain ⟨v', w3, hsl, hcp, hB2, hb3⟩ := hB.fillB (Lib.byteCells_length l1) l1.length rfl s t (HP.out _ _ _ _ _ _ _ hB (hbP.trans hb)) rfl
    have d0 := hB.c0
    have HB2 := Lib.hid hB2
    clear hB hB2
    go_wp2_with (refine wpList_copy_known _ rfl _ _ _ _ rfl _ _ rfl rfl hcp ?_)
    go_ret2
    exact ⟨rfl, HB2.out.toL rfl, hbP.trans (hb.trans hb3)⟩
  · refine (tryGrow_no H1.out t.length t.length rfl (by omega)).mono ?_
    rintro e w' ⟨rfl, rfl⟩
    go_wp2_with fail
    refine (grow_any (k := t.length) H1.out t.length rfl (by omega) (by omega) (by omega)).mono ?_
    rintro e w' ⟨rfl, ⟨a', c', g, hg, hB⟩, hb⟩
    obtain ⟨v', w3, hsl, hcp, hB2, hb3⟩ := hB.fillB (Lib.byteCells_length l1) l1.length rfl s t (HP.out _ _ _ _ _ _ _ hB (hbP.trans hb)) rfl
    have d0 := hB.c0
    have HB2 := Lib.hid hB2
    clear hB hB2
    go_wp2_with (refine wpList_copy_known _ rfl _ _ _ _ rfl _ _ rfl rfl hcp ?_)
    go_ret2
    exact ⟨rfl, HB2.out.toL rfl, hbP.trans (hb.trans hb3)⟩
/-- What a change of mode makes of the text. -/
def smE (l : List UInt8) (vu : Nat) (m : Int) : List UInt8 := if m == 0 || m == 1 then escT l vu (m == 0) else l
def smL (l : List UInt8) (vu : Nat) (m : Int) (mo : Bool) : List UInt8 := if mo then closeL (smE l vu m) else smE l vu m
theorem setMode_same (h : BufL K w p l vu m mo R) : Calls Tryz.prog 101 #[.pointer (some ⟨p, 0, none⟩), .int .i64 m] w fun e w' => e = .returned (.tuple #[]) ∧ w = w' := by
  obtain ⟨a, c, h⟩ := h
  have c2 := h.c2
  clear h
  go_enter Tryz.func101, Tryz.ntmps101
  go_wp2_with fail
  first | go_end0 | ((try simp only [Exit.inBlock, Exit.then]); refine bodyPost_ret (results_none rfl _ _ _) rfl ?_)
  exact ⟨rfl, rfl⟩
set_option maxHeartbeats 1000000 in
set_option maxRecDepth 100000 in
theorem setMode_any (m' : Int) (h : BufL K w p l vu m mo R) (hmm : m ≠ m') (hm : m = 0 ∨ m = 1 ∨ m = 2) (hl : l.length ≤ 50000) (hl2 : (smE l vu m).length ≤ 90000) (hv : vu ≤ l.length) (hT : Tabs w) (hz : 2 < p) (hbad : badEnd l = false) (hn : mo = true → smE l vu m ≠ []) :
    Calls Tryz.prog 101 #[.pointer (some ⟨p, 0, none⟩), .int .i64 m'] w (BufQ K p w (.tuple #[]) (smL l vu m mo) (smL l vu m mo).length m' false R) := by
  have HB := Lib.hid h
  obtain ⟨a, c, h⟩ := h
  have c2 := h.c2
  have c3 := h.c3
  clear h
  have hmb : (m == m') = false := beq_eq_false_iff_ne.2 hmm
  have HN := Lib.hid hn; clear hn
  have HT := Lib.hid hT; clear hT
  have HV := Lib.hid hbad; clear hbad
  obtain ⟨l1, hl1⟩ : ∃ l1, smE l vu m = l1 := ⟨_, rfl⟩
  rw [hl1] at hl2 HN
  have HE := Lib.hid hl1; clear hl1
  obtain ⟨lf, hlf⟩ : ∃ lf, lf = smL l vu m mo := ⟨_, rfl⟩
  have HF : Hid (lf = if mo then closeL l1 else l1) := by show _ = _; rw [hlf]; unfold smL; rw [HE.out]
  rw [← hlf]
  clear hlf
  rcases hm with rfl | rfl | rfl
  · go_enter Tryz.func101, Tryz.ntmps101
    go_wp2_with fail
    refine (escapeToEnd_any true HB.out hl hv HT.out hz HV.out).mono ?_
    have hE : escT l vu true = l1 := HE.out
    rw [hE]
    clear hE
    rintro e w1 ⟨rfl, h1, hb1⟩
    clear c2 c3
    obtain ⟨a1, c1, h2⟩ := h1.out
    have e3 := h2.c3
    have hF := HF.out
    clear HF
    cases mo with
    | false =>
      simp only [Bool.false_eq_true, if_false] at hF
      subst hF
      have d0 := h2.c0
      have d1 := h2.c1
      have d2 := h2.c2
      have g1 := h2.fz 1
      have g2 := h2.fz 2
      have H2 := Lib.hid h2; clear h2
      go_wp2_with fail
      first | go_end0 | ((try simp only [Exit.inBlock, Exit.then]); refine bodyPost_ret (results_none rfl _ _ _) rfl ?_)
      exact ⟨rfl, ⟨_, _, (H2.out.setVu _).setMode _⟩, (hb1.setCell H2.out.hp _ _).setCell H2.out.hp _ _⟩
    | true =>
      simp only [if_true] at hF
      subst hF
      clear h2
      go_wp2_with fail
      refine (endRed_any h1.out (by omega) (HN.out (by first | rfl | trivial))).mono ?_
      rintro e w2 ⟨rfl, h1', hb2⟩
      obtain ⟨a2, c2, h2⟩ := h1'.out
      have d0 := h2.c0
      have d1 := h2.c1
      have d2 := h2.c2
      have g1 := h2.fz 1
      have g2 := h2.fz 2
      have H2 := Lib.hid h2; clear h2
      go_wp2_with fail
      first | go_end0 | ((try simp only [Exit.inBlock, Exit.then]); refine bodyPost_ret (results_none rfl _ _ _) rfl ?_)
      exact ⟨rfl, ⟨_, _, (H2.out.setVu _).setMode _⟩, ((hb1.trans hb2).setCell H2.out.hp _ _).setCell H2.out.hp _ _⟩
  · go_enter Tryz.func101, Tryz.ntmps101
    go_wp2_with fail
    refine (escapeToEnd_any false HB.out hl hv HT.out hz HV.out).mono ?_
    have hE : escT l vu false = l1 := HE.out
    rw [hE]
    clear hE
    rintro e w1 ⟨rfl, h1, hb1⟩
    clear c2 c3
    obtain ⟨a1, c1, h2⟩ := h1.out
    have e3 := h2.c3
    have hF := HF.out
    clear HF
    cases mo with
    | false =>
      simp only [Bool.false_eq_true, if_false] at hF
      subst hF
      have d0 := h2.c0
      have d1 := h2.c1
      have d2 := h2.c2
      have g1 := h2.fz 1
      have g2 := h2.fz 2
      have H2 := Lib.hid h2; clear h2
      go_wp2_with fail
      first | go_end0 | ((try simp only [Exit.inBlock, Exit.then]); refine bodyPost_ret (results_none rfl _ _ _) rfl ?_)
      exact ⟨rfl, ⟨_, _, (H2.out.setVu _).setMode _⟩, (hb1.setCell H2.out.hp _ _).setCell H2.out.hp _ _⟩
    | true =>
      simp only [if_true] at hF
      subst hF
      clear h2
      go_wp2_with fail
      refine (endRed_any h1.out (by omega) (HN.out (by first | rfl | trivial))).mono ?_
      rintro e w2 ⟨rfl, h1', hb2⟩
      obtain ⟨a2, c2, h2⟩ := h1'.out
      have d0 := h2.c0
      have d1 := h2.c1
      have d2 := h2.c2
      have g1 := h2.fz 1
      have g2 := h2.fz 2
      have H2 := Lib.hid h2; clear h2
      go_wp2_with fail
      first | go_end0 | ((try simp only [Exit.inBlock, Exit.then]); refine bodyPost_ret (results_none rfl _ _ _) rfl ?_)
      exact ⟨rfl, ⟨_, _, (H2.out.setVu _).setMode _⟩, ((hb1.trans hb2).setCell H2.out.hp _ _).setCell H2.out.hp _ _⟩
  · go_enter Tryz.func101, Tryz.ntmps101
    have hE : l = l1 := HE.out
    subst hE
    have h1 := HB
    have hb1 := Kp.refl K w
    clear c3
    obtain ⟨a1, c1, h2⟩ := h1.out
    have e3 := h2.c3
    have hF := HF.out
    clear HF
    cases mo with
    | false =>
      simp only [Bool.false_eq_true, if_false] at hF
      subst hF
      have d0 := h2.c0
      have d1 := h2.c1
      have d2 := h2.c2
      have g1 := h2.fz 1
      have g2 := h2.fz 2
      have H2 := Lib.hid h2; clear h2
      go_wp2_with fail
      first | go_end0 | ((try simp only [Exit.inBlock, Exit.then]); refine bodyPost_ret (results_none rfl _ _ _) rfl ?_)
      exact ⟨rfl, ⟨_, _, (H2.out.setVu _).setMode _⟩, (hb1.setCell H2.out.hp _ _).setCell H2.out.hp _ _⟩
    | true =>
      simp only [if_true] at hF
      subst hF
      clear h2
      go_wp2_with fail
      refine (endRed_any h1.out (by omega) (HN.out (by first | rfl | trivial))).mono ?_
      rintro e w2 ⟨rfl, h1', hb2⟩
      obtain ⟨a2, c2, h2⟩ := h1'.out
      have d0 := h2.c0
      have d1 := h2.c1
      have d2 := h2.c2
      have g1 := h2.fz 1
      have g2 := h2.fz 2
      have H2 := Lib.hid h2; clear h2
      go_wp2_with fail
      first | go_end0 | ((try simp only [Exit.inBlock, Exit.then]); refine bodyPost_ret (results_none rfl _ _ _) rfl ?_)
      exact ⟨rfl, ⟨_, _, (H2.out.setVu _).setMode _⟩, ((hb1.trans hb2).setCell H2.out.hp _ _).setCell H2.out.hp _ _⟩
/-- What a buffer holds in the end. -/
def finE (l : List UInt8) (vu : Nat) (m : Int) : List UInt8 := if m == 2 then l else escT l vu (m == 0)
def finL (l : List UInt8) (vu : Nat) (m : Int) (mo : Bool) : List UInt8 := if mo then closeL (finE l vu m) else finE l vu m
set_option maxHeartbeats 1000000 in
set_option maxRecDepth 100000 in
theorem finalize_any (h : BufL K w p l vu m mo R) (hm : m = 0 ∨ m = 1 ∨ m = 2) (hl : l.length ≤ 50000) (hl2 : (finE l vu m).length ≤ 90000) (hv : vu ≤ l.length) (hT : Tabs w) (hz : 2 < p) (hbad : badEnd l = false) (hn : mo = true → finE l vu m ≠ []) :
    Calls Tryz.prog 96 #[.pointer (some ⟨p, 0, none⟩)] w (BufQ K p w (.tuple #[]) (finL l vu m mo) (finL l vu m mo).length m false R) := by
  have HB := Lib.hid h
  obtain ⟨a, c, h⟩ := h
  have c0 := h.c0
  have c1 := h.c1
  have f1 := h.fz 1
  have c2 := h.c2
  have H := Lib.hid h; clear h
  have HN := Lib.hid hn; clear hn
  have HT := Lib.hid hT; clear hT
  have HV := Lib.hid hbad; clear hbad
  obtain ⟨l1, hl1⟩ : ∃ l1, finE l vu m = l1 := ⟨_, rfl⟩
  rw [hl1] at hl2 HN
  have HE := Lib.hid hl1; clear hl1
  obtain ⟨lf, hlf⟩ : ∃ lf, lf = finL l vu m mo := ⟨_, rfl⟩
  have HF : Hid (lf = if mo then closeL l1 else l1) := by show _ = _; rw [hlf]; unfold finL; rw [HE.out]
  rw [← hlf]
  clear hlf
  rcases hm with rfl | rfl | rfl
  · go_enter Tryz.func96, Tryz.ntmps96
    go_wp2_with fail
    refine (escapeToEnd_any true HB.out hl hv HT.out hz HV.out).mono ?_
    have hE : escT l vu true = l1 := HE.out
    rw [hE]
    clear hE
    rintro e w1 ⟨rfl, h1, hb1⟩
    clear c0 c1 c2 f1
    obtain ⟨a1, c1, h2⟩ := h1.out
    have e3 := h2.c3
    have hF := HF.out
    clear HF
    cases mo with
    | false =>
      simp only [Bool.false_eq_true, if_false] at hF
      subst hF
      clear h2
      go_wp2_with fail
      first | go_end0 | ((try simp only [Exit.inBlock, Exit.then]); refine bodyPost_ret (results_none rfl _ _ _) rfl ?_)
      exact ⟨rfl, h1.out, hb1⟩
    | true =>
      simp only [if_true] at hF
      subst hF
      clear h2
      go_wp2_with fail
      refine (endRed_any h1.out (by omega) (HN.out (by first | rfl | trivial))).mono ?_
      rintro e w2 ⟨rfl, h1', hb2⟩
      obtain ⟨a2, c2, h2⟩ := h1'.out
      have d0 := h2.c0
      have d1 := h2.c1
      have g1 := h2.fz 1
      have H2 := Lib.hid h2; clear h2
      go_wp2_with fail
      first | go_end0 | ((try simp only [Exit.inBlock, Exit.then]); refine bodyPost_ret (results_none rfl _ _ _) rfl ?_)
      exact ⟨rfl, ⟨_, _, H2.out.setVu _⟩, (hb1.trans hb2).setCell H2.out.hp _ _⟩
  · go_enter Tryz.func96, Tryz.ntmps96
    go_wp2_with fail
    refine (escapeToEnd_any false HB.out hl hv HT.out hz HV.out).mono ?_
    have hE : escT l vu false = l1 := HE.out
    rw [hE]
    clear hE
    rintro e w1 ⟨rfl, h1, hb1⟩
    clear c0 c1 c2 f1
    obtain ⟨a1, c1, h2⟩ := h1.out
    have e3 := h2.c3
    have hF := HF.out
    clear HF
    cases mo with
    | false =>
      simp only [Bool.false_eq_true, if_false] at hF
      subst hF
      clear h2
      go_wp2_with fail
      first | go_end0 | ((try simp only [Exit.inBlock, Exit.then]); refine bodyPost_ret (results_none rfl _ _ _) rfl ?_)
      exact ⟨rfl, h1.out, hb1⟩
    | true =>
      simp only [if_true] at hF
      subst hF
      clear h2
      go_wp2_with fail
      refine (endRed_any h1.out (by omega) (HN.out (by first | rfl | trivial))).mono ?_
      rintro e w2 ⟨rfl, h1', hb2⟩
      obtain ⟨a2, c2, h2⟩ := h1'.out
      have d0 := h2.c0
      have d1 := h2.c1
      have g1 := h2.fz 1
      have H2 := Lib.hid h2; clear h2
      go_wp2_with fail
      first | go_end0 | ((try simp only [Exit.inBlock, Exit.then]); refine bodyPost_ret (results_none rfl _ _ _) rfl ?_)
      exact ⟨rfl, ⟨_, _, H2.out.setVu _⟩, (hb1.trans hb2).setCell H2.out.hp _ _⟩
  · have hE : l = l1 := HE.out
    subst hE
    have c3 := H.out.c3
    have h1 : Hid (BufL K (w.setCell ⟨p, 1, none⟩ (.int .i64 l.length)) p l l.length 2 mo R) := ⟨_, _, H.out.setVu _⟩
    have hb1 := (Kp.refl K w).setCell H.out.hp 1 (.int .i64 l.length)
    have hF := HF.out
    clear HF
    cases mo with
    | false =>
      simp only [Bool.false_eq_true, if_false] at hF
      subst hF
      go_enter Tryz.func96, Tryz.ntmps96
      go_wp2_with fail
      first | go_end0 | ((try simp only [Exit.inBlock, Exit.then]); refine bodyPost_ret (results_none rfl _ _ _) rfl ?_)
      exact ⟨rfl, h1.out, hb1⟩
    | true =>
      simp only [if_true] at hF
      subst hF
      go_enter Tryz.func96, Tryz.ntmps96
      go_wp2_with fail
      refine (endRed_any h1.out (by omega) (HN.out (by first | rfl | trivial))).mono ?_
      rintro e w2 ⟨rfl, h1', hb2⟩
      obtain ⟨a2, c2, h2⟩ := h1'.out
      have d0 := h2.c0
      have d1 := h2.c1
      have g1 := h2.fz 1
      have H2 := Lib.hid h2; clear h2
      go_wp2_with fail
      first | go_end0 | ((try simp only [Exit.inBlock, Exit.then]); refine bodyPost_ret (results_none rfl _ _ _) rfl ?_)
      exact ⟨rfl, ⟨_, _, H2.out.setVu _⟩, (hb1.trans hb2).setCell H2.out.hp _ _⟩
end
end Go.Proofs.YtlmcglaajmjanaaGreatDoor

namespace Go.Proofs.YtlmcglaajmjanaaGreatDoor
open Go.RowKit
section
variable {K : Nat → Prop} {w : World} {p : Nat} {a : Option Addr} {n c : Nat} {xs : List Value} {l : List UInt8} {vu : Nat} {m : Int} {mo : Bool} {R : Nat → Option Value}
/-- What taking the text out gives: the text, and an empty buffer. -/
def TakeQ (K : Nat → Prop) (p : Nat) (w : World) (L : List UInt8) (R : Nat → Option Value) (e : Ending) (w' : World) : Prop := ∃ y : ByteArray, e = .returned (.string y) ∧ Hid (y.data.toList = L) ∧ Hid (BufL K w' p [] 0 0 false R) ∧ Kp K w w'
def TakeBQ (K : Nat → Prop) (p : Nat) (w : World) (L : List UInt8) (R : Nat → Option Value) (e : Ending) (w' : World) : Prop := ∃ v, e = .returned v ∧ Hid (BAt w' v L) ∧ Hid (BufL K w' p [] 0 0 false R) ∧ Kp K w w'
theorem Buf.emptied (h : Buf K w p a n c xs vu m mo R) : BufL K (((w.setCell ⟨p, 0, none⟩ (.slice none 0 0)).setCell ⟨p, 1, none⟩ (.int .i64 0)).setCell ⟨p, 2, none⟩ (.int .i64 0)) p [] 0 0 mo R :=
  ⟨none, 0, ((h.setSl (.inl ⟨rfl, rfl, rfl, rfl⟩)).setVu 0).setMode 0⟩
/-- A slice of bytes in a block above p reads on where cells of p are stored to. -/
theorem BAt.setCell {v : Value} {t : List UInt8} (h : BAt w v t) (q : Nat) (hq : ∀ b c n, v = .slice (some b) n c → t ≠ [] → b.block ≠ q) (i : Nat) (x : Value) : BAt (w.setCell ⟨q, i, none⟩ x) v t := by
  obtain ⟨p, b, o, c, rfl, hc, hm, hp, hx⟩ := h
  refine ⟨p, b, o, c, rfl, hc, hm, hp, fun j hj => ?_⟩
  have hne : t ≠ [] := by intro hn; rw [hn] at hj; cases hj
  rcases hp with ⟨h0, _⟩ | rfl
  · exact absurd h0 hne
  · have hb : b ≠ q := hq ⟨b, o, none⟩ c t.length rfl hne
    rw [← hx j hj]
    exact World.cell?_of_block (Below.heap_setCell _ _ _ _ hb)
theorem Buf.bat_off (h : Buf K w p a l.length c (Lib.byteCells l) vu m mo R) (x y z : Value) (i j k : Nat) : BAt (((w.setCell ⟨p, i, none⟩ x).setCell ⟨p, j, none⟩ y).setCell ⟨p, k, none⟩ z) (.slice a l.length c) l := by
  have hq : ∀ b c' n, Value.slice a l.length c = .slice (some b) n c' → l ≠ [] → b.block ≠ p := by
    intro b c' n hv hne
    injection hv with e1 _ _
    rcases h.row with ⟨h1, h2, _⟩ | ⟨g, cur, ha, hg, _⟩
    · exact absurd (List.eq_nil_of_length_eq_zero h2) hne
    · rw [ha] at e1; cases e1; exact hg.1
  exact ((h.bat.setCell p hq i x).setCell p hq j y).setCell p hq k z
set_option maxHeartbeats 1000000 in
set_option maxRecDepth 100000 in
theorem takeString_any (h : BufL K w p l vu m mo R) (hm : m = 0 ∨ m = 1 ∨ m = 2) (hl : l.length ≤ 50000) (hl2 : (finE l vu m).length ≤ 90000) (hv : vu ≤ l.length) (hT : Tabs w) (hz : 2 < p) (hbad : badEnd l = false) (hn : mo = true → finE l vu m ≠ []) :
    Calls Tryz.prog 77 #[.pointer (some ⟨p, 0, none⟩)] w (TakeQ K p w (finL l vu m mo) R) := by
  have HFin := Lib.hid (finalize_any h hm hl hl2 hv hT hz hbad hn)
  clear h hm hl hl2 hv hT hbad hn
  generalize finL l vu m mo = L at HFin
  go_enter Tryz.func77, Tryz.ntmps77
  go_wp2_with fail
  refine HFin.out.mono ?_
  rintro e w1 ⟨rfl, h1, hb1⟩
  obtain ⟨a1, c1, h1⟩ := h1.out
  have hst := h1.bat.str 50 Tryz.underlying50
  have d0 := h1.c0
  have d1 := h1.c1
  have d2 := h1.c2
  have g0 := h1.fz 0
  have g1 := h1.fz 1
  have g2 := h1.fz 2
  have H1 := Lib.hid h1; clear h1
  go_wp2_with fail
  go_ret
  exact ⟨_, rfl, rfl, H1.out.emptied, ((hb1.setCell H1.out.hp _ _).setCell H1.out.hp _ _).setCell H1.out.hp _ _⟩
set_option maxHeartbeats 1000000 in
set_option maxRecDepth 100000 in
theorem takeBytes_any (h : BufL K w p l vu m mo R) (hm : m = 0 ∨ m = 1 ∨ m = 2) (hl : l.length ≤ 50000) (hl2 : (finE l vu m).length ≤ 90000) (hv : vu ≤ l.length) (hT : Tabs w) (hz : 2 < p) (hbad : badEnd l = false) (hn : mo = true → finE l vu m ≠ []) :
    Calls Tryz.prog 153 #[.pointer (some ⟨p, 0, none⟩)] w (TakeBQ K p w (finL l vu m mo) R) := by
  have HFin := Lib.hid (finalize_any h hm hl hl2 hv hT hz hbad hn)
  clear h hm hl hl2 hv hT hbad hn
  generalize finL l vu m mo = L at HFin
  go_enter Tryz.func153, Tryz.ntmps153
  go_wp2_with fail
  refine HFin.out.mono ?_
  rintro e w1 ⟨rfl, h1, hb1⟩
  obtain ⟨a1, c1, h1⟩ := h1.out
  have d0 := h1.c0
  have d1 := h1.c1
  have d2 := h1.c2
  have g0 := h1.fz 0
  have g1 := h1.fz 1
  have g2 := h1.fz 2
  have H1 := Lib.hid h1; clear h1
  go_wp2_with fail
  go_ret
  refine ⟨_, rfl, ?_, H1.out.emptied, ((hb1.setCell H1.out.hp _ _).setCell H1.out.hp _ _).setCell H1.out.hp _ _⟩
  show BAt _ _ _
  exact H1.out.bat_off _ _ _ 0 1 2
theorem getMode_any (h : BufL K w p l vu m mo R) : Calls Tryz.prog 156 #[.pointer (some ⟨p, 0, none⟩)] w fun e w' => e = .returned (.int .i64 m) ∧ w = w' := by
  obtain ⟨a, c, h⟩ := h
  have c2 := h.c2
  clear h
  go_enter Tryz.func156, Tryz.ntmps156
  go_wp2_with fail
  go_ret
  exact ⟨rfl, rfl⟩
/-- A store into the last cell of the room. -/
theorem Buf.put {g : Nat} {y : Value} (h : Buf K w p (some ⟨g, 0, none⟩) (n + 1) c (xs ++ [y]) vu m mo R) (hx : xs.length = n) (v : Value) :
    w.cell? ⟨g, n, none⟩ = some y ∧ w.frozen? ⟨g, n, none⟩ = false ∧ Buf K (w.setCell ⟨g, n, none⟩ v) p (some ⟨g, 0, none⟩) (n + 1) c (xs ++ [v]) vu m mo R ∧ Kp K w (w.setCell ⟨g, n, none⟩ v) := by
  rcases h.row with ⟨h1, _⟩ | ⟨g', cur, ha, hg, hh, h1, h2, h3, h4⟩
  · cases h1
  · cases ha
    have hn : n < cur.size := by omega
    refine ⟨?_, by simp [World.frozen?, hh], ?_, (Kp.refl K w).setCell hg.2 _ _⟩
    · have e : (cur.toList.take (n + 1))[n]? = (xs ++ [y])[n]? := by rw [h4]
      rw [List.getElem?_take_of_lt (by omega), Array.getElem?_toList, List.getElem?_append_right (by omega), hx] at e
      simp only [Nat.sub_self, List.getElem?_cons_zero] at e
      simp [World.cell?, hh, e]
    · rw [setCell_eq_setRow w g n cur 5 (0, 0) v hh]
      have hf := h.filled (k := 1) hx rfl hg hh h3 [v] rfl
      have e : cur.setIfInBounds n v = (cur.toList.take n ++ [v] ++ cur.toList.drop (n + [v].length)).toArray := by
        apply Array.ext'
        rw [Array.toList_setIfInBounds, List.toList_toArray]
        rw [List.set_eq_take_append_cons_drop, if_pos (by simpa using hn)]
        simp
      rw [e]; exact hf.1
theorem list_one {α : Type} {g : List α} (h : g.length = 1) : ∃ y, g = [y] := by
  match g, h with
  | [y], _ => exact ⟨y, rfl⟩
theorem Buf.some_ (h : Buf K w p a (n + 1) c xs vu m mo R) : ∃ g, a = some ⟨g, 0, none⟩ := by
  rcases h.row with ⟨_, h1, _⟩ | ⟨g, cur, ha, _⟩
  · omega
  · exact ⟨g, ha⟩
set_option maxHeartbeats 1000000 in
set_option maxRecDepth 100000 in
theorem writeByte_any (x : UInt8) (h : BufL K w p l vu m mo R) (hl : l.length ≤ 90000) (hz : m = 0 → mo = false → NoHash l) (hx : m = 0 → x.toNat < 128) :
    Calls Tryz.prog 127 #[.pointer (some ⟨p, 0, none⟩), .int .u8 x.toNat] w (BufQ K p w .nilIface (swl l m mo ++ [x]) (swv l vu m mo) m (swm m mo) R) := by
  have HB := Lib.hid h; clear h
  have hl1 := swl_le l m mo
  have HS := startWrite_any HB.out (by omega) hz
  generalize swl l m mo = l1 at HS hl1
  generalize swv l vu m mo = vu1 at HS
  generalize swm m mo = mo1 at HS
  have HS := Lib.hid HS
  clear hz
  by_cases hm : m = 0
  · subst hm
    have hx := hx rfl
    have hxI : (x.toNat : Int) < 128 := by omega
    have hx2 : ((x.toNat : Int) == (((⟨#[226, 128, 185]⟩ : ByteArray)[0]'(by decide)).toNat : Int)) = false := by
      show ((x.toNat : Int) == 226) = false
      exact beq_eq_false_iff_ne.2 (by omega)
    have hx3 : ((x.toNat : Int) == (((⟨#[226, 128, 186]⟩ : ByteArray)[0]'(by decide)).toNat : Int)) = false := by
      show ((x.toNat : Int) == 226) = false
      exact beq_eq_false_iff_ne.2 (by omega)
    go_enter Tryz.func127, Tryz.ntmps127
    go_wp2_with fail
    refine HS.out.mono ?_
    rintro e w1 ⟨rfl, h1, hbP⟩
    obtain ⟨a1, c1, h1⟩ := h1.out
    have c2 := h1.c2
    have H1 := Lib.hid h1; clear h1
    go_wp2_with fail
    by_cases hroom : l1.length + 1 ≤ c1
    · refine (tryGrow_yes H1.out 1 1 rfl hroom (by omega) (by omega)).mono ?_
      rintro e w' ⟨rfl, ⟨g, hg, hB⟩, hb⟩
      obtain ⟨y, rfl⟩ := list_one hg
      obtain ⟨g, rfl⟩ := hB.some_
      obtain ⟨hc1, hc2, hB2, hb2⟩ := hB.put (Lib.byteCells_length l1) (.int .u8 x.toNat)
      have d0 := hB.c0
      have hcap := hB.le
      have HB2 := Lib.hid hB2
      clear hB hB2
      go_wp2_with fail
      go_ret
      exact ⟨rfl, HB2.out.toL (t := [x]) rfl, hbP.trans (hb.trans hb2)⟩
    · refine (tryGrow_no H1.out 1 1 rfl (by omega)).mono ?_
      rintro e w' ⟨rfl, rfl⟩
      go_wp2_with fail
      refine (grow_any (k := 1) H1.out 1 rfl (by omega) (by omega) (by omega)).mono ?_
      rintro e w' ⟨rfl, ⟨a', c', g, hg, hB⟩, hb⟩
      obtain ⟨y, rfl⟩ := list_one hg
      obtain ⟨g, rfl⟩ := hB.some_
      obtain ⟨hc1, hc2, hB2, hb2⟩ := hB.put (Lib.byteCells_length l1) (.int .u8 x.toNat)
      have d0 := hB.c0
      have hcap := hB.le
      have HB2 := Lib.hid hB2
      clear hB hB2
      go_wp2_with fail
      go_ret
      exact ⟨rfl, HB2.out.toL (t := [x]) rfl, hbP.trans (hb.trans hb2)⟩
  · have hmb : (m == 0) = false := beq_eq_false_iff_ne.2 hm
    clear hx hm
    go_enter Tryz.func127, Tryz.ntmps127
    go_wp2_with fail
    refine HS.out.mono ?_
    rintro e w1 ⟨rfl, h1, hbP⟩
    obtain ⟨a1, c1, h1⟩ := h1.out
    have c2 := h1.c2
    have H1 := Lib.hid h1; clear h1
    go_wp2_with fail
    by_cases hroom : l1.length + 1 ≤ c1
    · refine (tryGrow_yes H1.out 1 1 rfl hroom (by omega) (by omega)).mono ?_
      rintro e w' ⟨rfl, ⟨g, hg, hB⟩, hb⟩
      obtain ⟨y, rfl⟩ := list_one hg
      obtain ⟨g, rfl⟩ := hB.some_
      obtain ⟨hc1, hc2, hB2, hb2⟩ := hB.put (Lib.byteCells_length l1) (.int .u8 x.toNat)
      have d0 := hB.c0
      have hcap := hB.le
      have HB2 := Lib.hid hB2
      clear hB hB2
      go_wp2_with fail
      go_ret
      exact ⟨rfl, HB2.out.toL (t := [x]) rfl, hbP.trans (hb.trans hb2)⟩
    · refine (tryGrow_no H1.out 1 1 rfl (by omega)).mono ?_
      rintro e w' ⟨rfl, rfl⟩
      go_wp2_with fail
      refine (grow_any (k := 1) H1.out 1 rfl (by omega) (by omega) (by omega)).mono ?_
      rintro e w' ⟨rfl, ⟨a', c', g, hg, hB⟩, hb⟩
      obtain ⟨y, rfl⟩ := list_one hg
      obtain ⟨g, rfl⟩ := hB.some_
      obtain ⟨hc1, hc2, hB2, hb2⟩ := hB.put (Lib.byteCells_length l1) (.int .u8 x.toNat)
      have d0 := hB.c0
      have hcap := hB.le
      have HB2 := Lib.hid hB2
      clear hB hB2
      go_wp2_with fail
      go_ret
      exact ⟨rfl, HB2.out.toL (t := [x]) rfl, hbP.trans (hb.trans hb2)⟩
end
end Go.Proofs.YtlmcglaajmjanaaGreatDoor
