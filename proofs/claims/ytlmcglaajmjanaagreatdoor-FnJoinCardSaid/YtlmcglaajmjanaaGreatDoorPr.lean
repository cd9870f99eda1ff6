/- Walks of package redactfmt: restoring; texts printed. -/
import Derived.Test.YtlmcglaajmjanaaGreatDoorPo
import Derived.Deep.RegionWith
namespace Go.Proofs.YtlmcglaajmjanaaGreatDoor
open Go.RowKit
section
variable {K : Nat → Prop} {w : World} {p : Nat} {l l2 : List UInt8} {vu vu2 : Nat} {m m' : Int} {mo mo2 : Bool} {R : Nat → Option Value} {ov ov' : Int}
set_option maxHeartbeats 1000000 in
set_option maxRecDepth 100000 in
theorem restore_of (h : PP K w p l vu m mo ov) (hc : ∀ K' W, PP K' W p l vu m mo ov → Calls Tryz.prog 101 #[.pointer (some ⟨p, 0, none⟩), .int .i64 m'] W (PPQ K' p W (.tuple #[]) l2 vu2 m' mo2 ov)) (u : FrameMode) :
    CallsD Tryz.prog 131 #[Rv p m' ov'] u w fun e u' w' => u' = u ∧ PPQ K p w (.tuple #[]) l2 vu2 m' mo2 ov' e w' := by
  have hp := h.lt
  have hz := h.env.2.2.1
  have hk := h.keep (.cells #[.pointer (some ⟨p, 0, none⟩), .int .i64 m', .int .i64 ov'] 144)
  have H := Lib.hid h; clear h
  have HC := Lib.hid hc; clear hc
  have q0 := cell_new w #[.pointer (some ⟨p, 0, none⟩), .int .i64 m', .int .i64 ov'] 144 0
  have q1 := cell_new w #[.pointer (some ⟨p, 0, none⟩), .int .i64 m', .int .i64 ov'] 144 1
  have q2 := cell_new w #[.pointer (some ⟨p, 0, none⟩), .int .i64 m', .int .i64 ov'] 144 2
  simp only [List.getElem?_toArray, List.getElem?_cons_zero, List.getElem?_cons_succ] at q0 q1 q2
  have HK := Lib.hid hk; clear hk
  unfold Rv
  go_enter_d Tryz.func131, Tryz.ntmps131
  go_upto_region 1 with fail
  go_region_with (go_at_call 101; refine (HC.out (fun k => K k ∨ k = w.heap.size) _ (by exact HK.out.drewN 1)).mono ?_; rintro e w1 ⟨rfl, h1, hb1⟩; have r0 := (hb1.cell (.inr rfl) 0).trans q0; have r2 := (hb1.cell (.inr rfl) 2).trans q2; have g4 := h1.out.fz 4; have d4 := h1.out.c4)
  all_goals
    go_wp2_with fail
    go_end0
    exact ⟨rfl, (h1.out.setOv ov').anti (fun k hk => .inl hk) H.out.env.1 H.out.env.2.1, (((Kp.of_below H.out.hK ((Below.refl _ w).alloc (Nat.le_refl _) _)).drewN 1).trans (hb1.anti fun k hk => .inl hk)).setCell H.out.hp _ _⟩
theorem PP.fl (h : PP K w p l vu m mo ov) (i : Nat) (h1 : 7 ≤ i) (h2 : i < 16) : w.cell? ⟨p, i, none⟩ = some (.bool false) := by obtain ⟨R, hR, h, hE⟩ := h; rw [h.cR i (by omega)]; exact hR.fl i h1 h2
theorem restore_same (h : PP K w p l vu m mo ov) : CallsD Tryz.prog 131 #[Rv p m ov'] .returning w fun e u' w' => u' = .returning ∧ PPQ K p w (.tuple #[]) l vu m mo ov' e w' :=
  restore_of h (fun _ _ hP => setModeP_same hP) .returning
theorem restore_to (h : PP K w p l vu m mo ov) (hmm : m ≠ m') (hs : SM l vu m mo) : CallsD Tryz.prog 131 #[Rv p m' ov'] .returning w fun e u' w' => u' = .returning ∧ PPQ K p w (.tuple #[]) (smL l vu m mo) (smL l vu m mo).length m' false ov' e w' :=
  restore_of h (fun _ _ hP => setModeP m' hP hmm hs) .returning
section
variable {l1 l3 : List UInt8} {vu1 vu3 : Nat} {m0 m1 : Int} {mo1 mo3 : Bool} {ov0 ov1 : Int}
set_option maxHeartbeats 1000000 in
set_option maxRecDepth 100000 in
theorem fmtString_of (s : ByteArray) (verb : Int) (hv : verb = 118 ∨ verb = 115)
    (hS : Calls Tryz.prog 159 #[.pointer (some ⟨p, 0, none⟩)] w (PPQ K p w (Rv p m0 ov0) l1 vu1 m1 mo1 ov1))
    (hW : ∀ W, PP K W p l1 vu1 m1 mo1 ov1 → Calls Tryz.prog 167 #[.pointer (some ⟨p, 6, none⟩), .string s] W (PPQ K p W (.tuple #[]) l2 vu2 m1 mo2 ov1))
    (hR : ∀ W, PP K W p l2 vu2 m1 mo2 ov1 → CallsD Tryz.prog 131 #[Rv p m0 ov0] .returning W fun e u' w' => u' = .returning ∧ PPQ K p W (.tuple #[]) l3 vu3 m0 mo3 ov0 e w') :
    Calls Tryz.prog 139 #[.pointer (some ⟨p, 0, none⟩), .string s, .int .i32 verb] w (PPQ K p w (.tuple #[]) l3 vu3 m0 mo3 ov0) := by
  have HS := Lib.hid hS; clear hS
  have HW := Lib.hid hW; clear hW
  have HR := Lib.hid hR; clear hR
  rcases hv with rfl | rfl
  ·
    go_enter_defers Tryz.func139, Tryz.ntmps139
    go_wp2_with fail
    refine HS.out.mono ?_
    rintro e w1 ⟨rfl, h1, hb1⟩
    have c15 := h1.out.fl 15 (by omega) (by omega)
    go_wp2_with fail
    refine (HW.out w1 h1.out).mono ?_
    rintro e w2 ⟨rfl, h2, hb2⟩
    go_wp2_with fail
    refine leaves_cons (f := 131) (args := #[Rv p m0 ov0]) (by simp) (by simp [go_sem, Rv]) ?_
    refine (HR.out w2 h2.out).mono ?_
    rintro e u' w3 ⟨rfl, rfl, h3, hb3⟩
    exact ⟨_, results_none rfl _ _ _, rfl, h3, hb1.trans (hb2.trans hb3)⟩
  ·
    go_enter_defers Tryz.func139, Tryz.ntmps139
    go_wp2_with fail
    refine HS.out.mono ?_
    rintro e w1 ⟨rfl, h1, hb1⟩
    have c15 := h1.out.fl 15 (by omega) (by omega)
    go_wp2_with fail
    refine (HW.out w1 h1.out).mono ?_
    rintro e w2 ⟨rfl, h2, hb2⟩
    go_wp2_with fail
    refine leaves_cons (f := 131) (args := #[Rv p m0 ov0]) (by simp) (by simp [go_sem, Rv]) ?_
    refine (HR.out w2 h2.out).mono ?_
    rintro e u' w3 ⟨rfl, rfl, h3, hb3⟩
    exact ⟨_, results_none rfl _ _ _, rfl, h3, hb1.trans (hb2.trans hb3)⟩
end
end
end Go.Proofs.YtlmcglaajmjanaaGreatDoor
