/- Walks: redactfmt.Sprintf, impl.Sprintf. -/
import Derived.Test.YtlmcglaajmjanaaGreatDoorPy
import Derived.Test.YtlmcglaajmjanaaGreatDoorZn
import Derived.Test.YtlmcglaajmjanaaGreatDoorZj
namespace Go.Proofs.YtlmcglaajmjanaaGreatDoor
open Go.RowKit
attribute [local irreducible] Utf8.encode Utf8.decode
theorem fmtN_good : ∀ (ps : List (List Nat)) (fs : List (List Nat → List Nat)) (o : List Nat) (n : Nat), GoodT o n → (∀ x ∈ ps, Pce x) → (∀ f ∈ fs, ∀ o n, GoodT o n → GoodT (f o) (n + 410)) → GoodT (fmtN o ps fs) (n + 510 * ps.length) := by
  intro ps
  induction ps with
  | nil => intro fs o n h _ _; exact h
  | cons x ps ih =>
    intro fs o n h hp hf
    have h1 := h.piece (hp x (List.mem_cons_self ..))
    cases fs with
    | nil => exact h1.mono (by simp; omega)
    | cons f fs =>
      have h2 := ih fs _ _ (hf f (List.mem_cons_self ..) _ _ h1) (fun y hy => hp y (List.mem_cons_of_mem _ hy)) (fun y hy => hf y (List.mem_cons_of_mem _ hy))
      exact h2.mono (by simp; omega)
/-- Arguments with their verbs. -/
def itsOf (short : Bool) (l : List AArg) : List PIt := l.map fun a => ⟨a.pv, vb short a, fun o => putN o a⟩
theorem its_xv (short : Bool) (l : List AArg) : (itsOf short l).map PIt.xv = l.map AArg.pv := by unfold itsOf; rw [List.map_map]; rfl
theorem its_vb (short : Bool) (l : List AArg) : (itsOf short l).map PIt.verb = l.map (vb short) := by unfold itsOf; rw [List.map_map]; rfl
theorem its_f (short : Bool) (l : List AArg) : (itsOf short l).map PIt.f = putF l := by unfold itsOf; rw [List.map_map]; rfl
theorem its_len (short : Bool) (l : List AArg) : (itsOf short l).length = l.length := by unfold itsOf; rw [List.length_map]
theorem its_ok {K : Nat → Prop} {p : Nat} {short : Bool} {l : List AArg} (h : ∀ a ∈ l, a.Ok) : ∀ it ∈ itsOf short l, it.Ok K p := by
  intro it hit
  obtain ⟨a, ha, rfl⟩ := List.mem_map.1 hit
  have hk := h a ha
  refine ⟨vb_ok short a, fun o w hps hg => printArg_any a _ ?_ hk hps hg, fun o n hg => hg.put hk⟩
  have hkd := hk.kd
  show ((vb short a).toNat : Int) = 118 ∨ _
  unfold vb
  cases short with
  | false => exact .inl rfl
  | true =>
    by_cases h2 : a.kind = 2 ∨ a.kind = 3
    · rw [if_pos rfl, if_pos h2]; exact .inr (.inr ⟨rfl, h2⟩)
    · rw [if_pos rfl, if_neg h2]; exact .inr (.inl ⟨rfl, by omega⟩)
theorem fmt_pcs {ss : List ByteArray} {l : List AArg} {short : Bool} {f : ByteArray} (h : FmtOk ss l short f) : (∀ x ∈ ss.map runes, Pce x) ∧ f.data.toList = fmtB ((ss.map runes).map encs) ((itsOf short l).map PIt.verb) ∧ (∀ s ∈ ss, Saf s) := by
  obtain ⟨h1, h2, h3, h4, h5⟩ := h
  refine ⟨fun x hx => ?_, ?_, fun s hs => (h3 s hs).saf⟩
  · obtain ⟨s, hs, rfl⟩ := List.mem_map.1 hx
    exact (h3 s hs).saf.pc
  · rw [h4, its_vb]
    unfold fmtS
    congr 1
    rw [List.map_map]
    exact List.map_congr_left fun s hs => (h3 s hs).saf.tx.en
theorem fmt_good {ss : List ByteArray} {l : List AArg} {short : Bool} {f : ByteArray} (h : FmtOk ss l short f) (hok : ∀ a ∈ l, a.Ok) : GoodT (fmtN [] (ss.map runes) (putF l)) 6000 := by
  have h1 := fmtN_good (ss.map runes) (putF l) [] 0 GoodT.nil (fmt_pcs h).1 (fun g hg => by
    obtain ⟨a, ha, rfl⟩ := List.mem_map.1 hg
    exact fun o n ho => ho.put (hok a ha))
  exact h1.mono (by have := h.1; have := h.2.1; simp; omega)
set_option maxRecDepth 100000 in
theorem rfmtSprintf_any (v : Value) (f : ByteArray) (ss : List ByteArray) (l : List AArg) (short : Bool) (w : World) (hT : TabW w) (hv : IfAt (· < w.heap.size) w v (l.map AArg.pv)) (hf : FmtOk ss l short f) (hok : ∀ a ∈ l, a.Ok) :
    Calls Tryz.prog 62 #[.string f, v] w (SprQ w (encs (fmtN [] (ss.map runes) (putF l)))) := by
  have hP := newPP_pp w hT
  have hK0 : Kp (· < w.heap.size) w (initW (w.alloc (.cells Z0 89)).drew w.heap.size) := Kp.of_below (fun _ h => h) (initW_below w)
  have hfp := fmt_pcs hf
  have HG := Lib.hid ((fmt_good hf hok).mono (show 6000 ≤ 40000 by omega))
  have hD := doPrintf_any v f (ss.map runes) (itsOf short l) hP (by rw [its_xv]; exact hv.kp hK0) hfp.2.1 hfp.1 (by rw [List.length_map, its_len]; exact hf.1) (by rw [its_len]; exact hf.2.1) (by have := hf.2.2.2.2; omega) (its_ok hok)
  rw [its_f] at hD
  have HD := Lib.hid hD
  have HK0 := Lib.hid hK0
  clear hP hK0 hv hok hT hf hfp hD
  generalize fmtN [] (ss.map runes) (putF l) = g at HD HG ⊢
  generalize hW : initW (w.alloc (.cells Z0 89)).drew w.heap.size = W at HD HK0
  have HW := Lib.hid hW; clear hW
  go_enter Tryz.func62, Tryz.ntmps62
  go_wp2_with fail
  refine (newPrinter_any w).mono ?_
  rintro e w1 ⟨rfl, hw1⟩
  obtain rfl : w1 = W := hw1.trans HW.out
  clear hw1
  go_wp2_with fail
  refine HD.out.mono ?_
  rintro e w2 ⟨rfl, h2, hb2⟩
  go_wp2_with fail
  refine (take_ps h2.out HG.out).mono ?_
  rintro e w3 ⟨y, rfl, hy, hb3⟩
  go_wp2_with fail
  go_ret
  exact ⟨y, rfl, hy, (HK0.out.trans (hb2.trans hb3)).below⟩
set_option maxHeartbeats 1000000 in
theorem sprintfClo_any (v : Value) (f : ByteArray) (ss : List ByteArray) (l : List AArg) (short : Bool) (fb lb ob : Nat) (s0 : ByteArray) (w : World) (hT : TabW w) (hA : ArgsAt w v l) (hf : FmtOk ss l short f) (hok : ∀ a ∈ l, a.Ok)
    (cf : w.cell? ⟨fb, 0, none⟩ = some (.string f)) (cl : w.cell? ⟨lb, 0, none⟩ = some v) (co : w.cell? ⟨ob, 0, none⟩ = some (.string s0)) (fo : w.frozen? ⟨ob, 0, none⟩ = false) :
    Calls Tryz.prog 61 #[.pointer (some ⟨fb, 0, none⟩), .pointer (some ⟨lb, 0, none⟩), .pointer (some ⟨ob, 0, none⟩)] w (CloQ ob (encs (fmtN [] (ss.map runes) (putF l))) w) := by
  have hbd : Below w.heap.size w w.drew := (Below.refl _ w).drew
  have hob := World.block_lt_of_cell? w _ co
  have hfb := World.block_lt_of_cell? w _ cf
  have HV := Lib.hid (valuesOf_any v l w.drew (hA.below hbd) (by have := hf.2.1; omega) (fun a ha => (hok a ha).kd))
  have HOK := Lib.hid hok
  have HT := Lib.hid hT
  have HF := Lib.hid hf
  have cf : w.drew.cell? ⟨fb, 0, none⟩ = some (.string f) := cf
  have cl : w.drew.cell? ⟨lb, 0, none⟩ = some v := cl
  have HC := Lib.hid (And.intro co (And.intro fo cf))
  clear hA hok hT hf co fo
  generalize hg : encs (fmtN [] (ss.map runes) (putF l)) = g
  have HG := Lib.hid hg; clear hg
  go_enter Tryz.func61, Tryz.ntmps61
  go_wp2_with fail
  go_region_with (first
    | (go_at_call 50; refine HV.out.mono ?_; rintro e w1 ⟨v1, rfl, hi, hb1⟩; have cf1 := (hb1.cell (p := ⟨fb, 0, none⟩) hfb).trans HC.out.2.2; have HB1 := Lib.hid (hbd.trans hb1); have HS := Lib.hid (rfmtSprintf_any v1 f ss l short w1 (HT.out.below HB1.out) hi.out HF.out HOK.out); rw [HG.out] at HS; clear hi hb1)
    | (go_at_call 62; refine HS.out.mono ?_; rintro e w2 ⟨y, rfl, hy, hb2⟩; have HB2 := Lib.hid (HB1.out.trans (hb2.mono HB1.out.size)); have co2 := (HB2.out.cell (p := ⟨ob, 0, none⟩) hob).trans HC.out.1; have fo2 := (HB2.out.frozen (p := ⟨ob, 0, none⟩) hob).trans HC.out.2.1; clear hb2))
  all_goals
    (try go_wp2_with fail)
    first | go_end0 | ((try simp only [Exit.inBlock, Exit.then]); refine bodyPost_ret (results_none rfl _ _ _) rfl ?_)
    exact ⟨y, rfl, hy, cell_set co2, (Kp.of_below (fun k hk => hk.1) HB2.out).setCell (fun hk => hk.2 rfl) _ _⟩
theorem tried_sprintf (fb lb : Nat) (ob : Nat) (l : List UInt8) (w : World) (hob : ob < w.heap.size)
    (hC : Calls Tryz.prog 61 #[.pointer (some ⟨fb, 0, none⟩), .pointer (some ⟨lb, 0, none⟩), .pointer (some ⟨ob, 0, none⟩)] (w.alloc (.cells #[.bool false] 4)) (CloQ ob l (w.alloc (.cells #[.bool false] 4)))) :
    Calls Tryz.prog 47 #[.func (.func 61) #[] #[.pointer (some ⟨fb, 0, none⟩), .pointer (some ⟨lb, 0, none⟩), .pointer (some ⟨ob, 0, none⟩)]] w (TriQ ob l w) := by
  have hmf : ∀ (fn : Fn) (first cap : Array Value) (w : World), (Instr.makeFunc fn first cap).run Tryz.prog w = .ok (.func fn first cap) w := fun _ _ _ _ => rfl
  have HC := Lib.hid hC; clear hC
  go_enter_defers Tryz.func47, Tryz.ntmps47
  go_wp2_with fail
  refine HC.out.mono ?_
  rintro e w1 ⟨y, rfl, hy, hcy, hb⟩
  have hrb : But (w.alloc (.cells #[.bool false] 4)) ob w.heap.size := ⟨by simp, by omega⟩
  have hr : w1.cell? ⟨w.heap.size, 0, none⟩ = some (.bool false) := (hb.cell hrb 0).trans (cell_new _ _ _ _)
  have hf : w1.frozen? ⟨w.heap.size, 0, none⟩ = false := (hb.frozen hrb 0).trans (frozen_new _ _ _ _)
  have HY := Lib.hid (And.intro hcy hb); clear hcy hb
  go_wp2_with fail
  refine leaves_cons (f := 74) (args := #[.pointer (some ⟨w.heap.size, 0, none⟩)]) (by simp) (by simp [go_sem]) ?_
  refine (tried1_idle _ _).mono ?_
  rintro e u' w'' ⟨rfl, rfl, rfl⟩
  have hcell := cell_set (v := .bool true) hr
  simp only [Leaves, settle]
  refine ⟨.bool true, by simp [results, Tryz.results47, go_sem, hr], y, rfl, hy, ?_, ?_⟩
  · exact (World.cell?_of_block (Below.heap_setCell _ _ _ _ (show ob ≠ w.heap.size by omega))).trans HY.out.1
  · exact (((Kp.of_below (fun k hk => hk.1) ((Below.refl _ w).alloc (Nat.le_refl _) _) : Kp (But w ob) w _)).trans (HY.out.2.anti fun k hk => ⟨Nat.lt_of_lt_of_le hk.1 (by simp), hk.2⟩)).setCell (fun hk => Nat.lt_irrefl _ hk.1) _ _
set_option maxHeartbeats 1000000 in
theorem implSprintf_any (v : Value) (f : ByteArray) (ss : List ByteArray) (l : List AArg) (short : Bool) (w : World) (hT : TabW w) (hA : ArgsAt w v l) (hf : FmtOk ss l short f) (hok : ∀ a ∈ l, a.Ok) :
    Calls Tryz.prog 34 #[.string f, v] w (SprQ w (encs (fmtN [] (ss.map runes) (putF l)))) := by
  obtain ⟨q, n, c, rfl⟩ := hA.slice_
  have hmf : ∀ (fn : Fn) (first cap : Array Value) (w : World), (Instr.makeFunc fn first cap).run Tryz.prog w = .ok (.func fn first cap) w := fun _ _ _ _ => rfl
  generalize hW : ((w.alloc (.cells #[.string f] 9)).alloc (.cells #[.slice q n c] 22)).alloc (.cells #[.string ⟨#[]⟩] 9) = W
  have hbW : Below w.heap.size w W := by rw [← hW]; exact (((Below.refl _ w).alloc (Nat.le_refl _) _).alloc (by simp) _).alloc (by simp <;> omega) _
  have hsz : W.heap.size = w.heap.size + 3 := by rw [← hW]; simp
  have s1 : (w.alloc (.cells #[.string f] 9)).heap.size = w.heap.size + 1 := by simp
  have s2 : ((w.alloc (.cells #[.string f] 9)).alloc (.cells #[.slice q n c] 22)).heap.size = w.heap.size + 2 := by simp
  have hf0 : W.cell? ⟨w.heap.size, 0, none⟩ = some (.string f) := by
    rw [← hW]
    have h1 := cell_new w #[.string f] 9 0
    exact (World.cell?_alloc_past _ _ _ (by simp <;> omega)).trans ((World.cell?_alloc_past _ _ _ (by simp)).trans h1)
  have hl0 : W.cell? ⟨w.heap.size + 1, 0, none⟩ = some (.slice q n c) := by
    have h1 := cell_new (w.alloc (.cells #[.string f] 9)) #[.slice q n c] 22 0
    rw [s1] at h1
    rw [← hW]
    exact (World.cell?_alloc_past _ _ _ (by simp)).trans h1
  have ho0 : W.cell? ⟨w.heap.size + 2, 0, none⟩ = some (.string ⟨#[]⟩) := by
    have h1 := cell_new ((w.alloc (.cells #[.string f] 9)).alloc (.cells #[.slice q n c] 22)) #[.string ⟨#[]⟩] 9 0
    rw [s2, hW] at h1
    exact h1
  have hz0 : W.frozen? ⟨w.heap.size + 2, 0, none⟩ = false := by
    have h1 := frozen_new ((w.alloc (.cells #[.string f] 9)).alloc (.cells #[.slice q n c] 22)) #[.string ⟨#[]⟩] 9 0
    rw [s2, hW] at h1
    exact h1
  have hAW := hA.below hbW
  have HOKA := Lib.hid (argsOk_yes _ l 7 W hAW (by have := hf.2.1; omega) (fun a ha => (hok a ha).taken))
  have HR := Lib.hid (And.intro hbW (And.intro hsz (And.intro hl0 (And.intro ho0 (And.intro hz0 hf0))))); clear hbW hsz ho0 hz0 s1 s2
  have HA := Lib.hid hAW; clear hAW hA
  have HOK := Lib.hid hok; clear hok
  have HF := Lib.hid hf; clear hf
  have HT := Lib.hid hT; clear hT
  have HW := Lib.hid hW; clear hW
  generalize hg : fmtN [] (ss.map runes) (putF l) = g
  have HG := Lib.hid hg; clear hg
  go_enter Tryz.func34, Tryz.ntmps34
  go_upto_region 2 with fail
  rw [HW.out]
  go_wp2_with fail
  refine HOKA.out.mono ?_
  rintro e w3 ⟨rfl, hb3⟩
  have hsz := HR.out.2.1
  have hf3 := (hb3.cell (p := ⟨w.heap.size, 0, none⟩) (by show w.heap.size < _; omega)).trans HR.out.2.2.2.2.2
  have hl3 := (hb3.cell (p := ⟨w.heap.size + 1, 0, none⟩) (by show w.heap.size + 1 < _; omega)).trans HR.out.2.2.1
  have HFO := Lib.hid (formatOk_any f _ l w3 (HA.out.below hb3) (by have := HF.out.2.1; omega) (fun a ha => by have := (HOK.out a ha).kd; omega) HF.out.fok (by have := HF.out.2.2.2.2; omega))
  clear hl0 hf0
  go_wp2_with fail
  refine HFO.out.mono ?_
  rintro e w4 ⟨rfl, hb4⟩
  clear hf3 hl3
  have hb4 := hb3.trans (hb4.mono hb3.size)
  have hb4s := hb4.size
  obtain ⟨hbW, _, hl0, ho0, hz0, hf0⟩ := HR.out
  have hba : Below W.heap.size W (w4.alloc (.cells #[.bool false] 4)) := hb4.alloc hb4s _
  have hf1 := (hba.cell (p := ⟨w.heap.size, 0, none⟩) (by show w.heap.size < _; omega)).trans hf0
  have hl1 := (hba.cell (p := ⟨w.heap.size + 1, 0, none⟩) (by show w.heap.size + 1 < _; omega)).trans hl0
  have ho1 := (hba.cell (p := ⟨w.heap.size + 2, 0, none⟩) (by show w.heap.size + 2 < _; omega)).trans ho0
  have hz1 := (hba.frozen (p := ⟨w.heap.size + 2, 0, none⟩) (by show w.heap.size + 2 < _; omega)).trans hz0
  have hT3 : TabW (w4.alloc (.cells #[.bool false] 4)) := (HT.out.below hbW).below hba
  have HTR := Lib.hid (tried_sprintf w.heap.size (w.heap.size + 1) (w.heap.size + 2) _ w4 (by omega) (sprintfClo_any _ f ss l short w.heap.size (w.heap.size + 1) (w.heap.size + 2) _ _ hT3 (HA.out.below hba) HF.out HOK.out hf1 hl1 ho1 hz1))
  have HB3 := Lib.hid (And.intro hsz hb4)
  rw [HG.out] at HTR
  clear hbW hsz hl0 ho0 hf0 hz0 hl1 ho1 hf1 hz1 hT3 hba hb3 hb4 hb4s
  go_wp2_with fail
  refine HTR.out.mono ?_
  rintro e w5 ⟨y, rfl, hy, hcy, hk4⟩
  go_wp2_with fail
  go_ret
  exact ⟨y, rfl, hy, Kp.below_but (HR.out.1.trans (HB3.out.2.mono (by have := HB3.out.1; omega))) (by have := HB3.out.1; have := HB3.out.2.size; omega) (by omega) hk4⟩
end Go.Proofs.YtlmcglaajmjanaaGreatDoor
