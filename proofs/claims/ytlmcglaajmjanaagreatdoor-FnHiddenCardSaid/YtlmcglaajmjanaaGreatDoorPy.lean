/- Walk of doPrintf: its loop, and all of it. -/
import Derived.Test.YtlmcglaajmjanaaGreatDoorPx
namespace Go.Proofs.YtlmcglaajmjanaaGreatDoor
open Go.RowKit
section
variable {K : Nat → Prop} {w0 w : World} {p : Nat} {fs : ByteArray} {v : Value} {pcs : List (List Nat)} {its : List PIt} {g : List Nat} {a : Act} {Q : Exit → Act → World → Prop}
/-- The loop's relation, its measure, how it is left. -/
def LoopI (K : Nat → Prop) (w0 : World) (p : Nat) (fs : ByteArray) (v : Value) (pcs : List (List Nat)) (its : List PIt) (g : List Nat) (a : Act) (w : World) : Prop :=
  ∃ (k i : Nat) (o : List Nat), Frm p fs v k i a ∧ k ≤ its.length ∧ i ≤ fs.size ∧ FmAt fs.data.toList pcs its g k i o ∧ Ps K w p o 0 ∧ Kp K w0 w
def LoopM (fs : ByteArray) (a : Act) (_ : World) : Nat := fs.size - (intOf (a.tmps.getD 9 undef)).toNat
def LoopX (K : Nat → Prop) (w0 : World) (p : Nat) (fs : ByteArray) (v : Value) (its : List PIt) (g : List Nat) (a : Act) (w : World) : Prop :=
  ∃ i : Nat, Frm p fs v its.length i a ∧ Ps K w p g 0 ∧ Kp K w0 w
theorem loopM_is {k i : Nat} (h : Frm p fs v k i a) : LoopM fs a w = fs.size - i := by
  unfold LoopM
  rw [h.t9]
  show fs.size - ((i : Int)).toNat = _
  rw [Int.toNat_natCast]
theorem out_0 {a : Act} {w : World} (h : Q (.exit 0) a w) : Exit.noGoto (Exit.inBlock 1 Q) (.exit 0) a w := by
  rw [Exit.noGoto_exit]
  show (if (0 : Nat) = 1 then Q .normal a w else Q (.exit 0) a w)
  rw [if_neg (by decide)]; exact h
theorem out_1 {a : Act} {w : World} (h : Q .normal a w) : Exit.noGoto (Exit.inBlock 1 Q) (.exit 1) a w := by
  rw [Exit.noGoto_exit]
  show (if (1 : Nat) = 1 then Q .normal a w else Q (.exit 1) a w)
  rw [if_pos rfl]; exact h
theorem round_f (hI : LoopI K w0 p fs v pcs its g a w) (hv : IfAt K w0 v (its.map PIt.xv)) (hp : ∀ x ∈ pcs, Pce x) (hlen : pcs.length = its.length + 1) (hl : its.length ≤ 10) (hfs : fs.size ≤ 10000) (hok : ∀ it ∈ its, it.Ok K p)
    (hX : ∀ a' w', LoopX K w0 p fs v its g a' w' → Q (.exit 0) a' w') :
    cRound.wp Tryz.prog (Exit.then (fun a' w' => LoopI K w0 p fs v pcs its g a' w' ∧ LoopM fs a' w' < LoopM fs a w) Q) a w := by
  obtain ⟨k, i, o, hF, hk, hi, hfm, hps, hkp⟩ := hI
  have hg : GoodT o 40000 := hfm.2.2.mono (by omega)
  have hM : LoopM fs a w = fs.size - i := loopM_is hF
  have hsz : fs.data.toList.length = fs.size := (Lib.size_eq fs).symm
  rw [cRound_is]
  by_cases hkl : k = its.length
  · obtain ⟨x, hx, hdrop, hgo⟩ := fm_last hfm hlen hkl
    subst hkl
    obtain ⟨L, hL⟩ : ∃ L, (encs x).length = L := ⟨_, rfl⟩
    have hsum : i + L = fs.size := by
      have := congrArg List.length hdrop
      rw [List.length_drop, hsz, hL] at this; omega
    by_cases hL0 : L = 0
    · have hx0 : x = [] := by
        cases x with
        | nil => rfl
        | cons r t =>
          have := encL_pos (hp _ hx).sc.head
          rw [encs_cons, List.length_append] at hL; omega
      subst hx0
      rw [List.append_nil] at hgo
      subst hgo
      exact head_end _ hF (by omega) fun a' hF' => hX _ _ ⟨i, hF', hps, hkp⟩
    · subst hgo
      refine head_more _ hF (by omega) fun a1 h1 => wp_block (wp_scope_straight ?_)
      refine scan_end _ o x L h1 hfs hL (by omega) hsum (by rw [List.append_nil]; exact hdrop) (hp x hx) hps hg fun a2 w2 h2 hp2 hk2 => ?_
      exact tail_end _ h2 hsum fun a3 h3 => out_0 (hX _ _ ⟨_, h3, hp2, hkp.trans hk2⟩)
  · have hk' : k < its.length := by omega
    obtain ⟨x, hx, ⟨R, hdrop⟩, hfm'⟩ := fm_more hfm hlen hk' hp (hok _ (List.getElem_mem hk')).2.2
    obtain ⟨it, hit⟩ : ∃ it, its[k]'hk' = it := ⟨_, rfl⟩
    have hio := hok _ (List.getElem_mem hk')
    rw [hit] at hdrop hfm' hio
    obtain ⟨hvbs, hcall, _⟩ := hio
    obtain ⟨L, hL⟩ : ∃ L, (encs x).length = L := ⟨_, rfl⟩
    rw [hL] at hfm'
    have hsum : i + L + 2 ≤ fs.size := by
      have := congrArg List.length hdrop
      rw [List.length_drop, hsz, List.length_append, hL, List.length_cons, List.length_cons] at this; omega
    have hdr1 : fs.data.toList.drop (i + L) = 37 :: it.verb :: R := by rw [← List.drop_drop, hdrop]; exact List.drop_left' hL
    have hdr2 : fs.data.toList.drop (i + L + 1) = it.verb :: R := (at_drop hdr1).2.2
    have hnext : ∀ a4 w4, Frm p fs v ((k : Int) + 1) (((i + L : Nat) : Int) + 1 + 1) a4 → Ps K w4 p (it.f (o ++ x)) 0 → Kp K w0 w4 → LoopI K w0 p fs v pcs its g a4 w4 ∧ LoopM fs a4 w4 < LoopM fs a w := by
      intro a4 w4 h4 hp4 hk4
      have h5 : Frm p fs v ((k + 1 : Nat) : Int) ((i + L + 2 : Nat) : Int) a4 := by
        rw [show ((k + 1 : Nat) : Int) = (k : Int) + 1 by omega, show ((i + L + 2 : Nat) : Int) = ((i + L : Nat) : Int) + 1 + 1 by omega]; exact h4
      exact ⟨⟨k + 1, i + L + 2, _, h5, hk', hsum, hfm', hp4, hk4⟩, by rw [loopM_is h5, hM]; omega⟩
    have main : ∀ a2 w2, Frm p fs v k ((i + L : Nat) : Int) a2 → Ps K w2 p (o ++ x) 0 → Kp K w w2 →
        (cTail (cVerb cRest)).wp Tryz.prog (Exit.noGoto (Exit.inBlock 1 (Exit.then (fun a' w' => LoopI K w0 p fs v pcs its g a' w' ∧ LoopM fs a' w' < LoopM fs a w) Q))) a2 w2 := by
      intro a2 w2 h2 hp2 hk2
      refine tail_more _ h2 (by omega) fun a3 h3 => ?_
      rcases hvbs with hvb | hvb | hvb
      ·
        rw [hvb] at hdr2 hcall
        refine verb_118 cRest (o ++ x) it.f (its.map PIt.xv) R (i + L) h3 hfs (by rw [List.length_map]; omega) (by rw [List.length_map]; exact hk') (hv.kp (hkp.trans hk2)) (by omega) hdr2 hp2 ((hfm.2.2.piece (hp x hx)).mono (by omega)) (fun o w h1 h2 => ?_) fun a4 w4 h4 hp4 hk4 => out_1 ?_
        · rw [List.getElem_map, hit]; exact hcall o w h1 h2
        · exact hnext a4 w4 h4 hp4 ((hkp.trans hk2).trans hk4)
      ·
        rw [hvb] at hdr2 hcall
        refine verb_115 cRest (o ++ x) it.f (its.map PIt.xv) R (i + L) h3 hfs (by rw [List.length_map]; omega) (by rw [List.length_map]; exact hk') (hv.kp (hkp.trans hk2)) (by omega) hdr2 hp2 ((hfm.2.2.piece (hp x hx)).mono (by omega)) (fun o w h1 h2 => ?_) fun a4 w4 h4 hp4 hk4 => out_1 ?_
        · rw [List.getElem_map, hit]; exact hcall o w h1 h2
        · exact hnext a4 w4 h4 hp4 ((hkp.trans hk2).trans hk4)
      ·
        rw [hvb] at hdr2 hcall
        refine verb_100 cRest (o ++ x) it.f (its.map PIt.xv) R (i + L) h3 hfs (by rw [List.length_map]; omega) (by rw [List.length_map]; exact hk') (hv.kp (hkp.trans hk2)) (by omega) hdr2 hp2 ((hfm.2.2.piece (hp x hx)).mono (by omega)) (fun o w h1 h2 => ?_) fun a4 w4 h4 hp4 hk4 => out_1 ?_
        · rw [List.getElem_map, hit]; exact hcall o w h1 h2
        · exact hnext a4 w4 h4 hp4 ((hkp.trans hk2).trans hk4)
    refine head_more _ hF (by omega) fun a1 h1 => wp_block (wp_scope_straight ?_)
    by_cases hL0 : L = 0
    · have hx0 : x = [] := by
        cases x with
        | nil => rfl
        | cons r t =>
          have := encL_pos (hp _ hx).sc.head
          rw [encs_cons, List.length_append] at hL; omega
      subst hx0
      subst hL0
      rw [List.append_nil] at main
      exact scan_none _ o _ h1 (by omega) hdrop hps main
    · exact scan_pct _ o x _ L h1 hfs hL (by omega) (by omega) hdrop (hp x hx) hps hg main
theorem loop_f (hI : LoopI K w0 p fs v pcs its g a w) (hv : IfAt K w0 v (its.map PIt.xv)) (hp : ∀ x ∈ pcs, Pce x) (hlen : pcs.length = its.length + 1) (hl : its.length ≤ 10) (hfs : fs.size ≤ 10000) (hok : ∀ it ∈ its, it.Ok K p)
    (hX : ∀ a' w', LoopX K w0 p fs v its g a' w' → Q (.exit 0) a' w') : (Code.loop cRound).wp Tryz.prog Q a w :=
  wp_loop (LoopI K w0 p fs v pcs its g) (LoopM fs) hI fun _ _ hI => round_f hI hv hp hlen hl hfs hok hX
end
section
variable {K : Nat → Prop} {w : World} {p : Nat}
set_option maxHeartbeats 8000000 in
set_option maxRecDepth 1000000 in
theorem doPrintf_any (v : Value) (fs : ByteArray) (pcs : List (List Nat)) (its : List PIt) (h : PP K w p [] 0 0 false 0) (hv : IfAt K w v (its.map PIt.xv)) (hf : fs.data.toList = fmtB (pcs.map encs) (its.map PIt.verb))
    (hp : ∀ x ∈ pcs, Pce x) (hlen : pcs.length = its.length + 1) (hl : its.length ≤ 10) (hfs : fs.size ≤ 10000) (hok : ∀ it ∈ its, it.Ok K p) :
    Calls Tryz.prog 85 #[.pointer (some ⟨p, 0, none⟩), .string fs, v] w (PsQ K p w (fmtN [] pcs (its.map PIt.f)) 0) := by
  have hal := hv.len 3
  rw [List.length_map] at hal
  have hgen : FmAt fs.data.toList pcs its (fmtN [] pcs (its.map PIt.f)) 0 0 [] := ⟨hf, rfl, GoodT.nil⟩
  generalize fmtN [] pcs (its.map PIt.f) = g at hgen ⊢
  have HLoop : Hid (∀ Q a1 w1, LoopI K w p fs v pcs its g a1 w1 → (∀ a' w', LoopX K w p fs v its g a' w' → Q (.exit 0) a' w') → (Code.loop cRound).wp Tryz.prog Q a1 w1) := fun Q a1 w1 h1 h2 => loop_f h1 hv hp hlen hl hfs hok h2
  have HF := Lib.hid hgen; clear hgen hf hv hp hlen hok
  have H := Lib.hid h; clear h
  go_enter Tryz.func85, Tryz.ntmps85
  go_step3
  go_wp2_with fail
  refine (setMode_new H.out).mono ?_
  rintro e w1 ⟨rfl, h1, hb1⟩
  obtain ⟨b86, c86⟩ := h1.out.er 86 (by decide) (by decide)
  have f86 := h1.out.fz 86
  go_wp2_with fail
  clear c86 f86
  go_step3
  go_wp2_with fail
  refine HLoop.out _ _ _ ⟨0, 0, [], ⟨rfl, rfl, rfl, rfl, rfl, rfl, rfl, rfl⟩, Nat.zero_le _, Nat.zero_le _, HF.out, h1.out.setB 86 false (.inr ⟨by decide, by decide⟩), hb1.setCell h1.out.hp _ _⟩ ?_
  rintro a' w' ⟨i, hI, hps, hkp⟩
  have HPS := Lib.hid hps; clear hps
  have HKP := Lib.hid hkp; clear hkp
  obtain ⟨f, rfl, h0, h1, h2, h6, h7, h9⟩ := hI.lit
  rw [h0, h1, h2, h6, h7, h9]
  clear hI h0 h1 h2 h6 h7 h9
  obtain ⟨b86, c86⟩ := HPS.out.er 86 (by decide) (by decide)
  cases b86
  all_goals
    go_wp2_with fail
    (try rw [Exit.noGoto_ret])
    first | go_end0 | ((try simp only [Exit.inBlock, Exit.then]); refine bodyPost_ret (results_none rfl _ _ _) rfl ?_)
    exact ⟨rfl, HPS.out, HKP.out⟩
end
end Go.Proofs.YtlmcglaajmjanaaGreatDoor
