/- Walks of the buffer's methods: writing, modes, the end. -/
import Derived.Test.YtlmcglaajmjanaaGreatDoorBufB
namespace Go.Proofs.YtlmcglaajmjanaaGreatDoor
open Go.RowKit
section
variable {K : Nat → Prop} {w : World} {p : Nat} {a : Option Addr} {n c : Nat} {xs : List Value} {l : List UInt8} {vu : Nat} {m : Int} {mo : Bool} {R : Nat → Option Value}
def swl (l : List UInt8) (m : Int) (mo : Bool) : List UInt8 := if m == 0 && !mo then openL l else l
def swv (l : List UInt8) (vu : Nat) (m : Int) (mo : Bool) : Nat := if m == 0 && !mo then (openL l).length else vu
def swm (m : Int) (mo : Bool) : Bool := m == 0 || mo
theorem openL_le (l : List UInt8) : (openL l).length ≤ l.length + 3 := by
  unfold openL; split
  · simp; omega
  · simp [mkS]
theorem closeL_le (l : List UInt8) : (closeL l).length ≤ l.length + 3 := by
  unfold closeL; split
  · simp; omega
  · simp [mkE]
theorem swl_le (l : List UInt8) (m : Int) (mo : Bool) : (swl l m mo).length ≤ l.length + 3 := by
  unfold swl; split
  · exact openL_le l
  · omega
set_option maxRecDepth 100000 in
theorem startWrite_any (h : BufL K w p l vu m mo R) (hl : l.length ≤ 100000) (hz : m = 0 → mo = false → NoHash l) :
    Calls Tryz.prog 150 #[.pointer (some ⟨p, 0, none⟩)] w (BufQ K p w (.tuple #[]) (swl l m mo) (swv l vu m mo) m (swm m mo) R) := by
  have HB := Lib.hid h
  obtain ⟨a, c, h⟩ := h
  have c2 := h.c2
  have c3 := h.c3
  have H := Lib.hid h; clear h
  by_cases hm : m = 0
  · subst hm
    cases mo with
    | false =>
      have HZ := Lib.hid (hz rfl rfl); clear hz
      go_enter Tryz.func150, Tryz.ntmps150
      go_wp2_with fail
      refine (startRed_any HB.out hl HZ.out).mono ?_
      rintro e w1 ⟨rfl, h1, hb1⟩
      obtain ⟨a1, c1, h1⟩ := h1.out
      have d0 := h1.c0
      have d1 := h1.c1
      have g1 := h1.fz 1
      have H1 := Lib.hid h1; clear h1
      go_wp2_with fail
      first | go_end0 | ((try simp only [Exit.inBlock, Exit.then]); refine bodyPost_ret (results_none rfl _ _ _) rfl ?_)
      exact ⟨rfl, ⟨_, _, H1.out.setVu _⟩, hb1.setCell H1.out.hp _ _⟩
    | true =>
      clear hz
      go_enter Tryz.func150, Tryz.ntmps150
      go_wp2_with fail
      first | go_end0 | ((try simp only [Exit.inBlock, Exit.then]); refine bodyPost_ret (results_none rfl _ _ _) rfl ?_)
      exact ⟨rfl, HB.out, Kp.refl _ _⟩
  · have hmb : (m == 0) = false := beq_eq_false_iff_ne.2 hm
    have e1 : swl l m mo = l := by unfold swl; rw [hmb]; rfl
    have e2 : swv l vu m mo = vu := by unfold swv; rw [hmb]; rfl
    have e3 : swm m mo = mo := by unfold swm; rw [hmb]; rfl
    rw [e1, e2, e3]
    clear hz e1 e2 e3 hm
    go_enter Tryz.func150, Tryz.ntmps150
    go_wp2_with fail
    first | go_end0 | ((try simp only [Exit.inBlock, Exit.then]); refine bodyPost_ret (results_none rfl _ _ _) rfl ?_)
    exact ⟨rfl, HB.out, Kp.refl _ _⟩
set_option maxHeartbeats 1000000 in
set_option maxRecDepth 100000 in
theorem writeString_any (s : ByteArray) (h : BufL K w p l vu m mo R) (hl : l.length ≤ 90000) (hs : s.size ≤ 90000) (hz : m = 0 → mo = false → NoHash l) :
    Calls Tryz.prog 122 #[.pointer (some ⟨p, 0, none⟩), .string s] w (BufQ K p w (.tuple #[.int .i64 s.size, .nilIface]) (swl l m mo ++ s.data.toList) (swv l vu m mo) m (swm m mo) R) := by
  have HB := Lib.hid h; clear h
  have hl1 := swl_le l m mo
  have HS := startWrite_any HB.out (by omega) hz
  generalize swl l m mo = l1 at HS hl1
  generalize swv l vu m mo = vu1 at HS
  generalize swm m mo = mo1 at HS
  have HS := Lib.hid HS
  clear hz
  go_enter Tryz.func122, Tryz.ntmps122
  go_wp2_with fail
  refine HS.out.mono ?_
  rintro e w1 ⟨rfl, h1, hbP⟩
  obtain ⟨a1, c1, h1⟩ := h1.out
  have H1 := Lib.hid h1; clear h1
  go_wp2_with fail
  by_cases hroom : l1.length + s.size ≤ c1
  · refine (tryGrow_yes H1.out s.size s.size rfl hroom (by omega) (by omega)).mono ?_
    rintro e w' ⟨rfl, ⟨g, hg, hB⟩, hb⟩
    obtain ⟨v', w3, hsl, hcp, hB2, hb3⟩ := hB.fillS (Lib.byteCells_length l1) l1.length rfl s rfl
    have d0 := hB.c0
    have HB2 := Lib.hid hB2
    clear hB hB2
    go_wp2_with (refine wpList_copy_known _ rfl _ _ _ _ rfl _ _ rfl rfl hcp ?_)
    go_ret2
    exact ⟨rfl, HB2.out.toL (by rw [← Lib.size_eq]), hbP.trans (hb.trans hb3)⟩
  · refine (tryGrow_no H1.out s.size s.size rfl (by omega)).mono ?_
    rintro e w' ⟨rfl, rfl⟩
    go_wp2_with fail
    refine (grow_any (k := s.size) H1.out s.size rfl (by omega) (by omega) (by omega)).mono ?_
    rintro e w' ⟨rfl, ⟨a', c', g, hg, hB⟩, hb⟩
    obtain ⟨v', w3, hsl, hcp, hB2, hb3⟩ := hB.fillS (Lib.byteCells_length l1) l1.length rfl s rfl
    have d0 := hB.c0
    have HB2 := Lib.hid hB2
    clear hB hB2
    go_wp2_with (refine wpList_copy_known _ rfl _ _ _ _ rfl _ _ rfl rfl hcp ?_)
    go_ret2
    exact ⟨rfl, HB2.out.toL (by rw [← Lib.size_eq]), hbP.trans (hb.trans hb3)⟩
set_option maxHeartbeats 1000000 in
set_option maxRecDepth 100000 in
theorem write_any (s : Value) (t : List UInt8) (h : BufL K w p l vu m mo R) (hs : BAt w s t) (hl : l.length ≤ 90000) (hs2 : t.length ≤ 90000) (hz : m = 0 → mo = false → NoHash l) (hp : ∀ w' a' n' c' xs' vu' mo', Buf K w' p a' n' c' xs' vu' m mo' R → Kp K w w' → BAt w' s t) :
    Calls Tryz.prog 125 #[.pointer (some ⟨p, 0, none⟩), s] w (BufQ K p w (.tuple #[.int .i64 t.length, .nilIface]) (swl l m mo ++ t) (swv l vu m mo) m (swm m mo) R) := by
  have hlen := hs.len 3
  have HP := Lib.hid hp
  clear hp hs
  have HB := Lib.hid h; clear h
  have hl1 := swl_le l m mo
  have HS := startWrite_any HB.out (by omega) hz
  generalize swl l m mo = l1 at HS hl1
  generalize swv l vu m mo = vu1 at HS
  generalize swm m mo = mo1 at HS
  have HS := Lib.hid HS
  clear hz
  go_enter Tryz.func125, Tryz.ntmps125
  go_wp2_with fail
  refine HS.out.mono ?_
  rintro e w1 ⟨rfl, h1, hbP⟩
  obtain ⟨a1, c1, h1⟩ := h1.out
  have H1 := Lib.hid h1; clear h1
  go_wp2_with fail
  by_cases hroom : l1.length + t.length ≤ c1
  · refine (tryGrow_yes H1.out t.length t.length rfl hroom (by omega) (by omega)).mono ?_
    rintro e w' ⟨rfl, ⟨g, hg, hB⟩, hb⟩
    obtain ⟨v', w3, hsl, hcp, hB2, hb3⟩ := hB.fillB (Lib.byteCells_length l1) l1.length rfl s t (HP.out _ _ _ _ _ _ _ hB (hbP.trans hb)) rfl
    have d0 := hB.c0
    have HB2 := Lib.hid hB2
    clear hB hB2
    go_wp2_with (refine wpList_copy_known _ rfl _ _ _ _ rfl _ _ rfl rfl hcp ?_)
    go_ret2
    exact ⟨rfl, HB2.out.toL rfl, hbP.trans (hb.trans hb3)⟩
  · refine (tryGrow_no H1.out t.length t.length rfl (by omega)).mono ?_
    rintro e w' ⟨rfl, rfl⟩
    go_wp2_with fail
    refine (grow_any (k := t.length) H1.out t.length rfl (by omega) (by omega) (by omega)).mono ?_
    rintro e w' ⟨rfl, ⟨a', c', g, hg, hB⟩, hb⟩
    obtain ⟨v', w3, hsl, hcp, hB2, hb3⟩ := hB.fillB (Lib.byteCells_length l1) l1.length rfl s t (HP.out _ _ _ _ _ _ _ hB (hbP.trans hb)) rfl
    have d0 := hB.c0
    have HB2 := Lib.hid hB2
    clear hB hB2
    go_wp2_with (refine wpList_copy_known _ rfl _ _ _ _ rfl _ _ rfl rfl hcp ?_)
    go_ret2
    exact ⟨rfl, HB2.out.toL rfl, hbP.trans (hb.trans hb3)⟩
/-- What a change of mode makes of the text. -/
def smE (l : List UInt8) (vu : Nat) (m : Int) : List UInt8 := if m == 0 || m == 1 then escT l vu (m == 0) else l
def smL (l : List UInt8) (vu : Nat) (m : Int) (mo : Bool) : List UInt8 := if mo then closeL (smE l vu m) else smE l vu m
theorem setMode_same (h : BufL K w p l vu m mo R) : Calls Tryz.prog 101 #[.pointer (some ⟨p, 0, none⟩), .int .i64 m] w fun e w' => e = .returned (.tuple #[]) ∧ w = w' := by
  obtain ⟨a, c, h⟩ := h
  have c2 := h.c2
  clear h
  go_enter Tryz.func101, Tryz.ntmps101
  go_wp2_with fail
  first | go_end0 | ((try simp only [Exit.inBlock, Exit.then]); refine bodyPost_ret (results_none rfl _ _ _) rfl ?_)
  exact ⟨rfl, rfl⟩
set_option maxHeartbeats 1000000 in
set_option maxRecDepth 100000 in
theorem setMode_any (m' : Int) (h : BufL K w p l vu m mo R) (hmm : m ≠ m') (hm : m = 0 ∨ m = 1 ∨ m = 2) (hl : l.length ≤ 50000) (hl2 : (smE l vu m).length ≤ 90000) (hv : vu ≤ l.length) (hT : Tabs w) (hz : 2 < p) (hbad : badEnd l = false) (hn : mo = true → smE l vu m ≠ []) :
    Calls Tryz.prog 101 #[.pointer (some ⟨p, 0, none⟩), .int .i64 m'] w (BufQ K p w (.tuple #[]) (smL l vu m mo) (smL l vu m mo).length m' false R) := by
  have HB := Lib.hid h
  obtain ⟨a, c, h⟩ := h
  have c2 := h.c2
  have c3 := h.c3
  clear h
  have hmb : (m == m') = false := beq_eq_false_iff_ne.2 hmm
  have HN := Lib.hid hn; clear hn
  have HT := Lib.hid hT; clear hT
  have HV := Lib.hid hbad; clear hbad
  obtain ⟨l1, hl1⟩ : ∃ l1, smE l vu m = l1 := ⟨_, rfl⟩
  rw [hl1] at hl2 HN
  have HE := Lib.hid hl1; clear hl1
  obtain ⟨lf, hlf⟩ : ∃ lf, lf = smL l vu m mo := ⟨_, rfl⟩
  have HF : Hid (lf = if mo then closeL l1 else l1) := by show _ = _; rw [hlf]; unfold smL; rw [HE.out]
  rw [← hlf]
  clear hlf
  rcases hm with rfl | rfl | rfl
  · go_enter Tryz.func101, Tryz.ntmps101
    go_wp2_with fail
    refine (escapeToEnd_any true HB.out hl hv HT.out hz HV.out).mono ?_
    have hE : escT l vu true = l1 := HE.out
    rw [hE]
    clear hE
    rintro e w1 ⟨rfl, h1, hb1⟩
    clear c2 c3
    obtain ⟨a1, c1, h2⟩ := h1.out
    have e3 := h2.c3
    have hF := HF.out
    clear HF
    cases mo with
    | false =>
      simp only [Bool.false_eq_true, if_false] at hF
      subst hF
      have d0 := h2.c0
      have d1 := h2.c1
      have d2 := h2.c2
      have g1 := h2.fz 1
      have g2 := h2.fz 2
      have H2 := Lib.hid h2; clear h2
      go_wp2_with fail
      first | go_end0 | ((try simp only [Exit.inBlock, Exit.then]); refine bodyPost_ret (results_none rfl _ _ _) rfl ?_)
      exact ⟨rfl, ⟨_, _, (H2.out.setVu _).setMode _⟩, (hb1.setCell H2.out.hp _ _).setCell H2.out.hp _ _⟩
    | true =>
      simp only [if_true] at hF
      subst hF
      clear h2
      go_wp2_with fail
      refine (endRed_any h1.out (by omega) (HN.out (by first | rfl | trivial))).mono ?_
      rintro e w2 ⟨rfl, h1', hb2⟩
      obtain ⟨a2, c2, h2⟩ := h1'.out
      have d0 := h2.c0
      have d1 := h2.c1
      have d2 := h2.c2
      have g1 := h2.fz 1
      have g2 := h2.fz 2
      have H2 := Lib.hid h2; clear h2
      go_wp2_with fail
      first | go_end0 | ((try simp only [Exit.inBlock, Exit.then]); refine bodyPost_ret (results_none rfl _ _ _) rfl ?_)
      exact ⟨rfl, ⟨_, _, (H2.out.setVu _).setMode _⟩, ((hb1.trans hb2).setCell H2.out.hp _ _).setCell H2.out.hp _ _⟩
  · go_enter Tryz.func101, Tryz.ntmps101
    go_wp2_with fail
    refine (escapeToEnd_any false HB.out hl hv HT.out hz HV.out).mono ?_
    have hE : escT l vu false = l1 := HE.out
    rw [hE]
    clear hE
    rintro e w1 ⟨rfl, h1, hb1⟩
    clear c2 c3
    obtain ⟨a1, c1, h2⟩ := h1.out
    have e3 := h2.c3
    have hF := HF.out
    clear HF
    cases mo with
    | false =>
      simp only [Bool.false_eq_true, if_false] at hF
      subst hF
      have d0 := h2.c0
      have d1 := h2.c1
      have d2 := h2.c2
      have g1 := h2.fz 1
      have g2 := h2.fz 2
      have H2 := Lib.hid h2; clear h2
      go_wp2_with fail
      first | go_end0 | ((try simp only [Exit.inBlock, Exit.then]); refine bodyPost_ret (results_none rfl _ _ _) rfl ?_)
      exact ⟨rfl, ⟨_, _, (H2.out.setVu _).setMode _⟩, (hb1.setCell H2.out.hp _ _).setCell H2.out.hp _ _⟩
    | true =>
      simp only [if_true] at hF
      subst hF
      clear h2
      go_wp2_with fail
      refine (endRed_any h1.out (by omega) (HN.out (by first | rfl | trivial))).mono ?_
      rintro e w2 ⟨rfl, h1', hb2⟩
      obtain ⟨a2, c2, h2⟩ := h1'.out
      have d0 := h2.c0
      have d1 := h2.c1
      have d2 := h2.c2
      have g1 := h2.fz 1
      have g2 := h2.fz 2
      have H2 := Lib.hid h2; clear h2
      go_wp2_with fail
      first | go_end0 | ((try simp only [Exit.inBlock, Exit.then]); refine bodyPost_ret (results_none rfl _ _ _) rfl ?_)
      exact ⟨rfl, ⟨_, _, (H2.out.setVu _).setMode _⟩, ((hb1.trans hb2).setCell H2.out.hp _ _).setCell H2.out.hp _ _⟩
  · go_enter Tryz.func101, Tryz.ntmps101
    have hE : l = l1 := HE.out
    subst hE
    have h1 := HB
    have hb1 := Kp.refl K w
    clear c3
    obtain ⟨a1, c1, h2⟩ := h1.out
    have e3 := h2.c3
    have hF := HF.out
    clear HF
    cases mo with
    | false =>
      simp only [Bool.false_eq_true, if_false] at hF
      subst hF
      have d0 := h2.c0
      have d1 := h2.c1
      have d2 := h2.c2
      have g1 := h2.fz 1
      have g2 := h2.fz 2
      have H2 := Lib.hid h2; clear h2
      go_wp2_with fail
      first | go_end0 | ((try simp only [Exit.inBlock, Exit.then]); refine bodyPost_ret (results_none rfl _ _ _) rfl ?_)
      exact ⟨rfl, ⟨_, _, (H2.out.setVu _).setMode _⟩, (hb1.setCell H2.out.hp _ _).setCell H2.out.hp _ _⟩
    | true =>
      simp only [if_true] at hF
      subst hF
      clear h2
      go_wp2_with fail
      refine (endRed_any h1.out (by omega) (HN.out (by first | rfl | trivial))).mono ?_
      rintro e w2 ⟨rfl, h1', hb2⟩
      obtain ⟨a2, c2, h2⟩ := h1'.out
      have d0 := h2.c0
      have d1 := h2.c1
      have d2 := h2.c2
      have g1 := h2.fz 1
      have g2 := h2.fz 2
      have H2 := Lib.hid h2; clear h2
      go_wp2_with fail
      first | go_end0 | ((try simp only [Exit.inBlock, Exit.then]); refine bodyPost_ret (results_none rfl _ _ _) rfl ?_)
      exact ⟨rfl, ⟨_, _, (H2.out.setVu _).setMode _⟩, ((hb1.trans hb2).setCell H2.out.hp _ _).setCell H2.out.hp _ _⟩
/-- What a buffer holds in the end. -/
def finE (l : List UInt8) (vu : Nat) (m : Int) : List UInt8 := if m == 2 then l else escT l vu (m == 0)
def finL (l : List UInt8) (vu : Nat) (m : Int) (mo : Bool) : List UInt8 := if mo then closeL (finE l vu m) else finE l vu m
set_option maxHeartbeats 1000000 in
set_option maxRecDepth 100000 in
theorem finalize_any (h : BufL K w p l vu m mo R) (hm : m = 0 ∨ m = 1 ∨ m = 2) (hl : l.length ≤ 50000) (hl2 : (finE l vu m).length ≤ 90000) (hv : vu ≤ l.length) (hT : Tabs w) (hz : 2 < p) (hbad : badEnd l = false) (hn : mo = true → finE l vu m ≠ []) :
    Calls Tryz.prog 96 #[.pointer (some ⟨p, 0, none⟩)] w (BufQ K p w (.tuple #[]) (finL l vu m mo) (finL l vu m mo).length m false R) := by
  have HB := Lib.hid h
  obtain ⟨a, c, h⟩ := h
  have c0 := h.c0
  have c1 := h.c1
  have f1 := h.fz 1
  have c2 := h.c2
  have H := Lib.hid h; clear h
  have HN := Lib.hid hn; clear hn
  have HT := Lib.hid hT; clear hT
  have HV := Lib.hid hbad; clear hbad
  obtain ⟨l1, hl1⟩ : ∃ l1, finE l vu m = l1 := ⟨_, rfl⟩
  rw [hl1] at hl2 HN
  have HE := Lib.hid hl1; clear hl1
  obtain ⟨lf, hlf⟩ : ∃ lf, lf = finL l vu m mo := ⟨_, rfl⟩
  have HF : Hid (lf = if mo then closeL l1 else l1) := by show _ = _; rw [hlf]; unfold finL; rw [HE.out]
  rw [← hlf]
  clear hlf
  rcases hm with rfl | rfl | rfl
  · go_enter Tryz.func96, Tryz.ntmps96
    go_wp2_with fail
    refine (escapeToEnd_any true HB.out hl hv HT.out hz HV.out).mono ?_
    have hE : escT l vu true = l1 := HE.out
    rw [hE]
    clear hE
    rintro e w1 ⟨rfl, h1, hb1⟩
    clear c0 c1 c2 f1
    obtain ⟨a1, c1, h2⟩ := h1.out
    have e3 := h2.c3
    have hF := HF.out
    clear HF
    cases mo with
    | false =>
      simp only [Bool.false_eq_true, if_false] at hF
      subst hF
      clear h2
      go_wp2_with fail
      first | go_end0 | ((try simp only [Exit.inBlock, Exit.then]); refine bodyPost_ret (results_none rfl _ _ _) rfl ?_)
      exact ⟨rfl, h1.out, hb1⟩
    | true =>
      simp only [if_true] at hF
      subst hF
      clear h2
      go_wp2_with fail
      refine (endRed_any h1.out (by omega) (HN.out (by first | rfl | trivial))).mono ?_
      rintro e w2 ⟨rfl, h1', hb2⟩
      obtain ⟨a2, c2, h2⟩ := h1'.out
      have d0 := h2.c0
      have d1 := h2.c1
      have g1 := h2.fz 1
      have H2 := Lib.hid h2; clear h2
      go_wp2_with fail
      first | go_end0 | ((try simp only [Exit.inBlock, Exit.then]); refine bodyPost_ret (results_none rfl _ _ _) rfl ?_)
      exact ⟨rfl, ⟨_, _, H2.out.setVu _⟩, (hb1.trans hb2).setCell H2.out.hp _ _⟩
  · go_enter Tryz.func96, Tryz.ntmps96
    go_wp2_with fail
    refine (escapeToEnd_any false HB.out hl hv HT.out hz HV.out).mono ?_
    have hE : escT l vu false = l1 := HE.out
    rw [hE]
    clear hE
    rintro e w1 ⟨rfl, h1, hb1⟩
    clear c0 c1 c2 f1
    obtain ⟨a1, c1, h2⟩ := h1.out
    have e3 := h2.c3
    have hF := HF.out
    clear HF
    cases mo with
    | false =>
      simp only [Bool.false_eq_true, if_false] at hF
      subst hF
      clear h2
      go_wp2_with fail
      first | go_end0 | ((try simp only [Exit.inBlock, Exit.then]); refine bodyPost_ret (results_none rfl _ _ _) rfl ?_)
      exact ⟨rfl, h1.out, hb1⟩
    | true =>
      simp only [if_true] at hF
      subst hF
      clear h2
      go_wp2_with fail
      refine (endRed_any h1.out (by omega) (HN.out (by first | rfl | trivial))).mono ?_
      rintro e w2 ⟨rfl, h1', hb2⟩
      obtain ⟨a2, c2, h2⟩ := h1'.out
      have d0 := h2.c0
      have d1 := h2.c1
      have g1 := h2.fz 1
      have H2 := Lib.hid h2; clear h2
      go_wp2_with fail
      first | go_end0 | ((try simp only [Exit.inBlock, Exit.then]); refine bodyPost_ret (results_none rfl _ _ _) rfl ?_)
      exact ⟨rfl, ⟨_, _, H2.out.setVu _⟩, (hb1.trans hb2).setCell H2.out.hp _ _⟩
  · have hE : l = l1 := HE.out
    subst hE
    have c3 := H.out.c3
    have h1 : Hid (BufL K (w.setCell ⟨p, 1, none⟩ (.int .i64 l.length)) p l l.length 2 mo R) := ⟨_, _, H.out.setVu _⟩
    have hb1 := (Kp.refl K w).setCell H.out.hp 1 (.int .i64 l.length)
    have hF := HF.out
    clear HF
    cases mo with
    | false =>
      simp only [Bool.false_eq_true, if_false] at hF
      subst hF
      go_enter Tryz.func96, Tryz.ntmps96
      go_wp2_with fail
      first | go_end0 | ((try simp only [Exit.inBlock, Exit.then]); refine bodyPost_ret (results_none rfl _ _ _) rfl ?_)
      exact ⟨rfl, h1.out, hb1⟩
    | true =>
      simp only [if_true] at hF
      subst hF
      go_enter Tryz.func96, Tryz.ntmps96
      go_wp2_with fail
      refine (endRed_any h1.out (by omega) (HN.out (by first | rfl | trivial))).mono ?_
      rintro e w2 ⟨rfl, h1', hb2⟩
      obtain ⟨a2, c2, h2⟩ := h1'.out
      have d0 := h2.c0
      have d1 := h2.c1
      have g1 := h2.fz 1
      have H2 := Lib.hid h2; clear h2
      go_wp2_with fail
      first | go_end0 | ((try simp only [Exit.inBlock, Exit.then]); refine bodyPost_ret (results_none rfl _ _ _) rfl ?_)
      exact ⟨rfl, ⟨_, _, H2.out.setVu _⟩, (hb1.trans hb2).setCell H2.out.hp _ _⟩
end
end Go.Proofs.YtlmcglaajmjanaaGreatDoor
