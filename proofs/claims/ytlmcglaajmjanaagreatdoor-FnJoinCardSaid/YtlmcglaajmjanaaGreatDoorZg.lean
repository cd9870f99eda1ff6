/- Walks of package redactfmt: printArg. -/
/- Walks of package redactfmt: printArg at a redactable text and at a safe integer. -/
/- What printing an argument makes of a printer's text, in runes. -/
import Derived.Test.YtlmcglaajmjanaaGreatDoorZf
import Derived.Test.YtlmcglaajmjanaaGreatDoorTa
import Derived.Test.YtlmcglaajmjanaaGreatDoorZa
namespace Go.Proofs.YtlmcglaajmjanaaGreatDoor
open Go.RowKit
section
variable {K : Nat → Prop} {w : World} {p : Nat} {l l3 : List UInt8} {vu vu3 : Nat} {m m0 : Int} {mo mo3 : Bool} {ov : Int}
theorem PP.c5 (h : PP K w p l vu m mo ov) : ∃ x, w.cell? ⟨p, 5, none⟩ = some x := by obtain ⟨R, hR, h, hE⟩ := h; obtain ⟨v, hv⟩ := hR.arg; exact ⟨v, (h.cR 5 (by omega)).trans hv⟩
theorem getValueS (x : Value) {x2 : Value} (hx : x = .iface 9 x2 ∨ x = .iface 2 x2) (w : World) : Calls Tryz.prog 132 #[.agg #[x]] w fun e w' => e = .returned x ∧ Below w.heap.size w w' := by
  rcases hx with rfl | rfl
  · go_enter Tryz.func132, Tryz.ntmps132
    go_wp2
    go_ret
    exact ⟨rfl, (Below.refl _ _).alloc (Nat.le_refl _) _⟩
  · go_enter Tryz.func132, Tryz.ntmps132
    go_wp2
    go_ret
    exact ⟨rfl, (Below.refl _ _).alloc (Nat.le_refl _) _⟩
theorem getValueU (s : ByteArray) (w : World) : Calls Tryz.prog 134 #[.agg #[.iface 9 (.string s)]] w fun e w' => e = .returned (.iface 9 (.string s)) ∧ Below w.heap.size w w' := by
  go_enter Tryz.func134, Tryz.ntmps134
  go_wp2
  go_ret
  exact ⟨rfl, (Below.refl _ _).alloc (Nat.le_refl _) _⟩
set_option maxHeartbeats 4000000 in
set_option maxRecDepth 100000 in
theorem printArg_string (s : ByteArray) (verb : Int) (h : PP K w p l vu m mo ov)
    (hF : ∀ W, PP K W p l vu m mo ov → Calls Tryz.prog 139 #[.pointer (some ⟨p, 0, none⟩), .string s, .int .i32 verb] W (PPQ K p W (.tuple #[]) l3 vu3 m mo3 ov)) :
    Calls Tryz.prog 104 #[.pointer (some ⟨p, 0, none⟩), .iface 9 (.string s), .int .i32 verb] w (PPQ K p w (.tuple #[]) l3 vu3 m mo3 ov) := by
  have tstr_sw := ta_str_sw (.string s)
  have tstr_uw := ta_str_uw (.string s)
  have tstr_sv := ta_str_sv (.string s)
  have tstr_bool := ta_str_bool (.string s)
  have tstr_int := ta_str_int (.string s)
  have tstr_int8 := ta_str_int8 (.string s)
  have tstr_int16 := ta_str_int16 (.string s)
  have tstr_int32 := ta_str_int32 (.string s)
  have tstr_int64 := ta_str_int64 (.string s)
  have tstr_uint := ta_str_uint (.string s)
  have tstr_uint8 := ta_str_uint8 (.string s)
  have tstr_uint16 := ta_str_uint16 (.string s)
  have tstr_uint32 := ta_str_uint32 (.string s)
  have tstr_uint64 := ta_str_uint64 (.string s)
  have tstr_uintptr := ta_str_uintptr (.string s)
  have tstr_str := ta_str_str (.string s)
  obtain ⟨x5, c5⟩ := h.c5
  have f5 := h.fz 5
  have H := Lib.hid h; clear h
  have HF := Lib.hid hF; clear hF
  go_enter_defers Tryz.func104, Tryz.ntmps104
  go_wp2_with fail
  refine (HF.out _ (H.out.setArg _)).mono ?_
  rintro e w2 ⟨rfl, h2, hb2⟩
  go_wp2_with fail
  exact ⟨_, results_none rfl _ _ _, rfl, h2, ((Kp.refl K w).setCell H.out.hp _ _).trans hb2⟩
set_option maxHeartbeats 4000000 in
set_option maxRecDepth 100000 in
theorem printArg_int (n : Int) (h0 : -9223372036854775808 ≤ n) (h1 : n ≤ 9223372036854775807) (verb : Int) (h : PP K w p l vu m mo ov)
    (hF : ∀ W, PP K W p l vu m mo ov → Calls Tryz.prog 138 #[.pointer (some ⟨p, 0, none⟩), .int .u64 (u64 n), .bool true, .int .i32 verb] W (PPQ K p W (.tuple #[]) l3 vu3 m mo3 ov)) :
    Calls Tryz.prog 104 #[.pointer (some ⟨p, 0, none⟩), .iface 2 (.int .i64 n), .int .i32 verb] w (PPQ K p w (.tuple #[]) l3 vu3 m mo3 ov) := by
  have ti64_sw := ta_i64_sw (.int .i64 n)
  have ti64_uw := ta_i64_uw (.int .i64 n)
  have ti64_sv := ta_i64_sv (.int .i64 n)
  have ti64_bool := ta_i64_bool (.int .i64 n)
  have ti64_int := ta_i64_int (.int .i64 n)
  have ti64_int8 := ta_i64_int8 (.int .i64 n)
  have ti64_int16 := ta_i64_int16 (.int .i64 n)
  have ti64_int32 := ta_i64_int32 (.int .i64 n)
  have ti64_int64 := ta_i64_int64 (.int .i64 n)
  have hw : IntKind.u64.wrap n = u64 n := by unfold u64; rw [IntKind.wrap_u64]; split <;> omega
  generalize u64 n = un at *
  obtain ⟨x5, c5⟩ := h.c5
  have f5 := h.fz 5
  have H := Lib.hid h; clear h
  have HF := Lib.hid hF; clear hF
  go_enter_defers Tryz.func104, Tryz.ntmps104
  go_wp2_with fail
  refine (HF.out _ (H.out.setArg _)).mono ?_
  rintro e w2 ⟨rfl, h2, hb2⟩
  go_wp2_with fail
  exact ⟨_, results_none rfl _ _ _, rfl, h2, ((Kp.refl K w).setCell H.out.hp _ _).trans hb2⟩
end
section
variable {K : Nat → Prop} {w : World} {p : Nat} {l l1 l2 l3 : List UInt8} {vu vu1 vu2 vu3 : Nat} {m m1 : Int} {mo mo1 mo2 mo3 : Bool} {ov ov1 : Int}
set_option maxHeartbeats 4000000 in
set_option maxRecDepth 100000 in
theorem printArg_safeString (s : ByteArray) (verb : Int) (h : PP K w p l vu m mo ov)
    (hS : ∀ K W, PP K W p l vu m mo ov → Calls Tryz.prog 130 #[.pointer (some ⟨p, 0, none⟩)] W (PPQ K p W (Rv p m ov) l1 vu1 m1 mo1 ov1))
    (hF : ∀ K W, PP K W p l1 vu1 m1 mo1 ov1 → Calls Tryz.prog 139 #[.pointer (some ⟨p, 0, none⟩), .string s, .int .i32 verb] W (PPQ K p W (.tuple #[]) l2 vu2 m1 mo2 ov1))
    (hR : ∀ K W, PP K W p l2 vu2 m1 mo2 ov1 → CallsD Tryz.prog 131 #[Rv p m ov] .returning W fun e u' w' => u' = .returning ∧ PPQ K p W (.tuple #[]) l3 vu3 m mo3 ov e w') :
    Calls Tryz.prog 104 #[.pointer (some ⟨p, 0, none⟩), .iface 142 (.agg #[.iface 9 (.string s)]), .int .i32 verb] w (PPQ K p w (.tuple #[]) l3 vu3 m mo3 ov) := by
  have tsw_sw := ta_sw_sw (.agg #[.iface 9 (.string s)])
  have tstr_sw := ta_str_sw (.string s)
  have tstr_uw := ta_str_uw (.string s)
  have tstr_sv := ta_str_sv (.string s)
  have tstr_bool := ta_str_bool (.string s)
  have tstr_int := ta_str_int (.string s)
  have tstr_int8 := ta_str_int8 (.string s)
  have tstr_int16 := ta_str_int16 (.string s)
  have tstr_int32 := ta_str_int32 (.string s)
  have tstr_int64 := ta_str_int64 (.string s)
  have tstr_uint := ta_str_uint (.string s)
  have tstr_uint8 := ta_str_uint8 (.string s)
  have tstr_uint16 := ta_str_uint16 (.string s)
  have tstr_uint32 := ta_str_uint32 (.string s)
  have tstr_uint64 := ta_str_uint64 (.string s)
  have tstr_uintptr := ta_str_uintptr (.string s)
  have tstr_str := ta_str_str (.string s)
  have hp := h.lt
  have hz := h.env.2.2.1
  have hk := h.keep (.cells #[.iface 9 (.string s)] 142)
  have H := Lib.hid h; clear h
  have HK := Lib.hid hk; clear hk
  have HS := Lib.hid hS; clear hS
  have HF := Lib.hid hF; clear hF
  have HR := Lib.hid hR; clear hR
  go_enter_defers Tryz.func104, Tryz.ntmps104
  go_wp2_with fail
  refine (HS.out _ _ HK.out).mono ?_
  rintro e w1 ⟨rfl, h1, hb1⟩
  have r0 : w1.cell? ⟨w.heap.size, 0, none⟩ = some (.iface 9 (.string s)) := (hb1.cell (.inr rfl) 0).trans (cell_new _ _ _ _)
  go_wp2_with fail
  refine (getValueS (.iface 9 (.string s)) (.inl rfl) _).mono ?_
  rintro e w2 ⟨rfl, hb2⟩
  have h2 := Lib.hid (h1.out.below hb2)
  have hb2 := hb1.trans (Kp.of_below h1.out.hK hb2)
  clear hb1 h1 r0
  obtain ⟨x5, c5⟩ := h2.out.c5
  have f5 := h2.out.fz 5
  go_wp2_with fail
  refine (HF.out _ _ (h2.out.setArg _)).mono ?_
  rintro e w4 ⟨rfl, h4, hb4⟩
  go_wp2_with fail
  refine leaves_cons (f := 131) (args := #[Rv p m ov]) (by simp) (by simp [go_sem, Rv]) ?_
  refine (HR.out _ w4 h4.out).mono ?_
  rintro e u' w5 ⟨rfl, rfl, h5, hb5⟩
  exact ⟨_, results_none rfl _ _ _, rfl, h5.out.anti (fun k hk => .inl hk) H.out.env.1 H.out.env.2.1, (Kp.of_below H.out.hK ((Below.refl _ w).alloc (Nat.le_refl _) _)).trans ((((hb2.setCell HK.out.hp _ _).trans hb4).trans hb5).anti fun k hk => .inl hk)⟩
set_option maxHeartbeats 4000000 in
set_option maxRecDepth 100000 in
theorem printArg_safeInt (n : Int) (h0 : -9223372036854775808 ≤ n) (h1 : n ≤ 9223372036854775807) (verb : Int) (h : PP K w p l vu m mo ov)
    (hS : ∀ K W, PP K W p l vu m mo ov → Calls Tryz.prog 130 #[.pointer (some ⟨p, 0, none⟩)] W (PPQ K p W (Rv p m ov) l1 vu1 m1 mo1 ov1))
    (hF : ∀ K W, PP K W p l1 vu1 m1 mo1 ov1 → Calls Tryz.prog 138 #[.pointer (some ⟨p, 0, none⟩), .int .u64 (u64 n), .bool true, .int .i32 verb] W (PPQ K p W (.tuple #[]) l2 vu2 m1 mo2 ov1))
    (hR : ∀ K W, PP K W p l2 vu2 m1 mo2 ov1 → CallsD Tryz.prog 131 #[Rv p m ov] .returning W fun e u' w' => u' = .returning ∧ PPQ K p W (.tuple #[]) l3 vu3 m mo3 ov e w') :
    Calls Tryz.prog 104 #[.pointer (some ⟨p, 0, none⟩), .iface 142 (.agg #[.iface 2 (.int .i64 n)]), .int .i32 verb] w (PPQ K p w (.tuple #[]) l3 vu3 m mo3 ov) := by
  have tsw_sw := ta_sw_sw (.agg #[.iface 2 (.int .i64 n)])
  have ti64_sw := ta_i64_sw (.int .i64 n)
  have ti64_uw := ta_i64_uw (.int .i64 n)
  have ti64_sv := ta_i64_sv (.int .i64 n)
  have ti64_bool := ta_i64_bool (.int .i64 n)
  have ti64_int := ta_i64_int (.int .i64 n)
  have ti64_int8 := ta_i64_int8 (.int .i64 n)
  have ti64_int16 := ta_i64_int16 (.int .i64 n)
  have ti64_int32 := ta_i64_int32 (.int .i64 n)
  have ti64_int64 := ta_i64_int64 (.int .i64 n)
  have hw : IntKind.u64.wrap n = u64 n := by unfold u64; rw [IntKind.wrap_u64]; split <;> omega
  generalize u64 n = un at *
  have hp := h.lt
  have hz := h.env.2.2.1
  have hk := h.keep (.cells #[.iface 2 (.int .i64 n)] 142)
  have H := Lib.hid h; clear h
  have HK := Lib.hid hk; clear hk
  have HS := Lib.hid hS; clear hS
  have HF := Lib.hid hF; clear hF
  have HR := Lib.hid hR; clear hR
  go_enter_defers Tryz.func104, Tryz.ntmps104
  go_wp2_with fail
  refine (HS.out _ _ HK.out).mono ?_
  rintro e w1 ⟨rfl, h1, hb1⟩
  have r0 : w1.cell? ⟨w.heap.size, 0, none⟩ = some (.iface 2 (.int .i64 n)) := (hb1.cell (.inr rfl) 0).trans (cell_new _ _ _ _)
  go_wp2_with fail
  refine (getValueS (.iface 2 (.int .i64 n)) (.inr rfl) _).mono ?_
  rintro e w2 ⟨rfl, hb2⟩
  have h2 := Lib.hid (h1.out.below hb2)
  have hb2 := hb1.trans (Kp.of_below h1.out.hK hb2)
  clear hb1 h1 r0
  obtain ⟨x5, c5⟩ := h2.out.c5
  have f5 := h2.out.fz 5
  go_wp2_with fail
  refine (HF.out _ _ (h2.out.setArg _)).mono ?_
  rintro e w4 ⟨rfl, h4, hb4⟩
  go_wp2_with fail
  refine leaves_cons (f := 131) (args := #[Rv p m ov]) (by simp) (by simp [go_sem, Rv]) ?_
  refine (HR.out _ w4 h4.out).mono ?_
  rintro e u' w5 ⟨rfl, rfl, h5, hb5⟩
  exact ⟨_, results_none rfl _ _ _, rfl, h5.out.anti (fun k hk => .inl hk) H.out.env.1 H.out.env.2.1, (Kp.of_below H.out.hK ((Below.refl _ w).alloc (Nat.le_refl _) _)).trans ((((hb2.setCell HK.out.hp _ _).trans hb4).trans hb5).anti fun k hk => .inl hk)⟩
set_option maxHeartbeats 4000000 in
set_option maxRecDepth 100000 in
theorem printArg_unsafeString (s : ByteArray) (verb : Int) (h : PP K w p l vu m mo ov)
    (hS : ∀ K W, PP K W p l vu m mo ov → Calls Tryz.prog 133 #[.pointer (some ⟨p, 0, none⟩)] W (PPQ K p W (Rv p m ov) l1 vu1 m1 mo1 ov1))
    (hF : ∀ K W, PP K W p l1 vu1 m1 mo1 ov1 → Calls Tryz.prog 139 #[.pointer (some ⟨p, 0, none⟩), .string s, .int .i32 verb] W (PPQ K p W (.tuple #[]) l2 vu2 m1 mo2 ov1))
    (hR : ∀ K W, PP K W p l2 vu2 m1 mo2 ov1 → CallsD Tryz.prog 131 #[Rv p m ov] .returning W fun e u' w' => u' = .returning ∧ PPQ K p W (.tuple #[]) l3 vu3 m mo3 ov e w') :
    Calls Tryz.prog 104 #[.pointer (some ⟨p, 0, none⟩), .iface 147 (.agg #[.iface 9 (.string s)]), .int .i32 verb] w (PPQ K p w (.tuple #[]) l3 vu3 m mo3 ov) := by
  have tuw_sw := ta_uw_sw (.agg #[.iface 9 (.string s)])
  have tuw_uw := ta_uw_uw (.agg #[.iface 9 (.string s)])
  have tstr_sw := ta_str_sw (.string s)
  have tstr_uw := ta_str_uw (.string s)
  have tstr_sv := ta_str_sv (.string s)
  have tstr_bool := ta_str_bool (.string s)
  have tstr_int := ta_str_int (.string s)
  have tstr_int8 := ta_str_int8 (.string s)
  have tstr_int16 := ta_str_int16 (.string s)
  have tstr_int32 := ta_str_int32 (.string s)
  have tstr_int64 := ta_str_int64 (.string s)
  have tstr_uint := ta_str_uint (.string s)
  have tstr_uint8 := ta_str_uint8 (.string s)
  have tstr_uint16 := ta_str_uint16 (.string s)
  have tstr_uint32 := ta_str_uint32 (.string s)
  have tstr_uint64 := ta_str_uint64 (.string s)
  have tstr_uintptr := ta_str_uintptr (.string s)
  have tstr_str := ta_str_str (.string s)
  have hp := h.lt
  have hz := h.env.2.2.1
  have hk := h.keep (.cells #[.iface 9 (.string s)] 147)
  have H := Lib.hid h; clear h
  have HK := Lib.hid hk; clear hk
  have HS := Lib.hid hS; clear hS
  have HF := Lib.hid hF; clear hF
  have HR := Lib.hid hR; clear hR
  go_enter_defers Tryz.func104, Tryz.ntmps104
  go_wp2_with fail
  refine (HS.out _ _ HK.out).mono ?_
  rintro e w1 ⟨rfl, h1, hb1⟩
  have r0 : w1.cell? ⟨w.heap.size, 0, none⟩ = some (.iface 9 (.string s)) := (hb1.cell (.inr rfl) 0).trans (cell_new _ _ _ _)
  go_wp2_with fail
  refine (getValueU s _).mono ?_
  rintro e w2 ⟨rfl, hb2⟩
  have h2 := Lib.hid (h1.out.below hb2)
  have hb2 := hb1.trans (Kp.of_below h1.out.hK hb2)
  clear hb1 h1 r0
  obtain ⟨x5, c5⟩ := h2.out.c5
  have f5 := h2.out.fz 5
  go_wp2_with fail
  refine (HF.out _ _ (h2.out.setArg _)).mono ?_
  rintro e w4 ⟨rfl, h4, hb4⟩
  go_wp2_with fail
  refine leaves_cons (f := 131) (args := #[Rv p m ov]) (by simp) (by simp [go_sem, Rv]) ?_
  refine (HR.out _ w4 h4.out).mono ?_
  rintro e u' w5 ⟨rfl, rfl, h5, hb5⟩
  exact ⟨_, results_none rfl _ _ _, rfl, h5.out.anti (fun k hk => .inl hk) H.out.env.1 H.out.env.2.1, (Kp.of_below H.out.hK ((Below.refl _ w).alloc (Nat.le_refl _) _)).trans ((((hb2.setCell HK.out.hp _ _).trans hb4).trans hb5).anti fun k hk => .inl hk)⟩
end
end Go.Proofs.YtlmcglaajmjanaaGreatDoor

namespace Go.Proofs.YtlmcglaajmjanaaGreatDoor
open Go.RowKit
section
variable {K : Nat → Prop} {w : World} {p : Nat} {l l1 l2 l3 : List UInt8} {vu vu1 vu2 vu3 : Nat} {m m1 : Int} {mo mo1 mo2 mo3 : Bool} {ov ov1 : Int}
set_option maxHeartbeats 4000000 in
set_option maxRecDepth 100000 in
theorem printArg_redactable (s : ByteArray) (r : Value) (verb : Int) (h : PP K w p l vu m mo ov)
    (hS : ∀ W, PP K W p l vu m mo ov → Calls Tryz.prog 141 #[.pointer (some ⟨p, 0, none⟩)] W (PPQ K p W (Rv p m ov) l1 vu1 m1 mo1 ov1))
    (hF : ∀ W, PP K W p l1 vu1 m1 mo1 ov1 → Calls Tryz.prog 122 #[.pointer (some ⟨p, 0, none⟩), .string s] W (PPQ K p W r l2 vu2 m1 mo2 ov1))
    (hR : ∀ W, PP K W p l2 vu2 m1 mo2 ov1 → CallsD Tryz.prog 131 #[Rv p m ov] .returning W fun e u' w' => u' = .returning ∧ PPQ K p W (.tuple #[]) l3 vu3 m mo3 ov e w') :
    Calls Tryz.prog 104 #[.pointer (some ⟨p, 0, none⟩), .iface 50 (.string s), .int .i32 verb] w (PPQ K p w (.tuple #[]) l3 vu3 m mo3 ov) := by
  have trstr_sw := ta_rstr_sw (.string s)
  have trstr_uw := ta_rstr_uw (.string s)
  have trstr_sv := ta_rstr_sv (.string s)
  have trstr_bool := ta_rstr_bool (.string s)
  have trstr_int := ta_rstr_int (.string s)
  have trstr_int8 := ta_rstr_int8 (.string s)
  have trstr_int16 := ta_rstr_int16 (.string s)
  have trstr_int32 := ta_rstr_int32 (.string s)
  have trstr_int64 := ta_rstr_int64 (.string s)
  have trstr_uint := ta_rstr_uint (.string s)
  have trstr_uint8 := ta_rstr_uint8 (.string s)
  have trstr_uint16 := ta_rstr_uint16 (.string s)
  have trstr_uint32 := ta_rstr_uint32 (.string s)
  have trstr_uint64 := ta_rstr_uint64 (.string s)
  have trstr_uintptr := ta_rstr_uintptr (.string s)
  have trstr_str := ta_rstr_str (.string s)
  have trstr_bytes := ta_rstr_bytes (.string s)
  have trstr_sstr := ta_rstr_sstr (.string s)
  have trstr_sint := ta_rstr_sint (.string s)
  have trstr_suint := ta_rstr_suint (.string s)
  have trstr_rstr := ta_rstr_rstr (.string s)
  obtain ⟨x5, c5⟩ := h.c5
  have f5 := h.fz 5
  have H := Lib.hid h; clear h
  have HS := Lib.hid hS; clear hS
  have HF := Lib.hid hF; clear hF
  have HR := Lib.hid hR; clear hR
  go_enter_defers Tryz.func104, Tryz.ntmps104
  go_wp2_with fail
  refine (HS.out _ (H.out.setArg _)).mono ?_
  rintro e w1 ⟨rfl, h1, hb1⟩
  go_wp2_with fail
  refine (HF.out _ h1.out).mono ?_
  rintro e w4 ⟨rfl, h4, hb4⟩
  go_wp2_with fail
  refine leaves_cons (f := 131) (args := #[Rv p m ov]) (by simp) (by simp [go_sem, Rv]) ?_
  refine (HR.out w4 h4.out).mono ?_
  rintro e u' w5 ⟨rfl, rfl, h5, hb5⟩
  exact ⟨_, results_none rfl _ _ _, rfl, h5.out, (((Kp.refl K w).setCell H.out.hp _ _).trans hb1).trans (hb4.trans hb5)⟩
set_option maxHeartbeats 4000000 in
set_option maxRecDepth 100000 in
theorem printArg_safeIntV (n : Int) (h0 : -9223372036854775808 ≤ n) (h1 : n ≤ 9223372036854775807) (verb : Int) (h : PP K w p l vu m mo ov)
    (hS : ∀ W, PP K W p l vu m mo ov → Calls Tryz.prog 130 #[.pointer (some ⟨p, 0, none⟩)] W (PPQ K p W (Rv p m ov) l1 vu1 m1 mo1 ov1))
    (hF : ∀ W, PP K W p l1 vu1 m1 mo1 ov1 → Calls Tryz.prog 138 #[.pointer (some ⟨p, 0, none⟩), .int .u64 (u64 n), .bool true, .int .i32 verb] W (PPQ K p W (.tuple #[]) l2 vu2 m1 mo2 ov1))
    (hR : ∀ W, PP K W p l2 vu2 m1 mo2 ov1 → CallsD Tryz.prog 131 #[Rv p m ov] .returning W fun e u' w' => u' = .returning ∧ PPQ K p W (.tuple #[]) l3 vu3 m mo3 ov e w') :
    Calls Tryz.prog 104 #[.pointer (some ⟨p, 0, none⟩), .iface 101 (.int .i64 n), .int .i32 verb] w (PPQ K p w (.tuple #[]) l3 vu3 m mo3 ov) := by
  have tsint_sw := ta_sint_sw (.int .i64 n)
  have tsint_uw := ta_sint_uw (.int .i64 n)
  have tsint_sv := ta_sint_sv (.int .i64 n)
  have tsint_bool := ta_sint_bool (.int .i64 n)
  have tsint_int := ta_sint_int (.int .i64 n)
  have tsint_int8 := ta_sint_int8 (.int .i64 n)
  have tsint_int16 := ta_sint_int16 (.int .i64 n)
  have tsint_int32 := ta_sint_int32 (.int .i64 n)
  have tsint_int64 := ta_sint_int64 (.int .i64 n)
  have tsint_uint := ta_sint_uint (.int .i64 n)
  have tsint_uint8 := ta_sint_uint8 (.int .i64 n)
  have tsint_uint16 := ta_sint_uint16 (.int .i64 n)
  have tsint_uint32 := ta_sint_uint32 (.int .i64 n)
  have tsint_uint64 := ta_sint_uint64 (.int .i64 n)
  have tsint_uintptr := ta_sint_uintptr (.int .i64 n)
  have tsint_str := ta_sint_str (.int .i64 n)
  have tsint_bytes := ta_sint_bytes (.int .i64 n)
  have tsint_sstr := ta_sint_sstr (.int .i64 n)
  have tsint_sint := ta_sint_sint (.int .i64 n)
  have hw : IntKind.u64.wrap n = u64 n := by unfold u64; rw [IntKind.wrap_u64]; split <;> omega
  generalize u64 n = un at *
  obtain ⟨x5, c5⟩ := h.c5
  have f5 := h.fz 5
  have H := Lib.hid h; clear h
  have HS := Lib.hid hS; clear hS
  have HF := Lib.hid hF; clear hF
  have HR := Lib.hid hR; clear hR
  go_enter_defers Tryz.func104, Tryz.ntmps104
  go_wp2_with fail
  refine (HS.out _ H.out).mono ?_
  rintro e w1 ⟨rfl, h1, hb1⟩
  obtain ⟨y5, d5⟩ := h1.out.c5
  have g5 := h1.out.fz 5
  go_wp2_with fail
  refine (HF.out _ (h1.out.setArg _)).mono ?_
  rintro e w4 ⟨rfl, h4, hb4⟩
  go_wp2_with fail
  refine leaves_cons (f := 131) (args := #[Rv p m ov]) (by simp) (by simp [go_sem, Rv]) ?_
  refine (HR.out w4 h4.out).mono ?_
  rintro e u' w5 ⟨rfl, rfl, h5, hb5⟩
  exact ⟨_, results_none rfl _ _ _, rfl, h5.out, (hb1.setCell H.out.hp _ _).trans (hb4.trans hb5)⟩
end
end Go.Proofs.YtlmcglaajmjanaaGreatDoor

namespace Go.Proofs.YtlmcglaajmjanaaGreatDoor
open Go.RowKit
def NoM (t : List Nat) : Prop := ∀ r ∈ t, isM r = false
theorem NoM.nil : NoM [] := fun _ h => by cases h
theorem NoM.append {a b : List Nat} (h : NoM a) (k : NoM b) : NoM (a ++ b) := fun x hx => by
  rcases List.mem_append.1 hx with hx | hx
  · exact h x hx
  · exact k x hx
theorem NoM.esc {t : List Nat} (h : NoM t) : t.map escN = t := by
  induction t with
  | nil => rfl
  | cons r t ih =>
    have h1 := h r (List.mem_cons_self ..)
    rw [List.map_cons, ih (fun x hx => h x (List.mem_cons_of_mem _ hx))]
    unfold escN
    rw [h1]; rfl
theorem smE_1 {a t : List Nat} (hs : Scs (a ++ t)) (ht : NoM t) : smE (encs (a ++ t)) (encs a).length 1 = encs (a ++ t) := by
  have : smE (encs (a ++ t)) (encs a).length 1 = escT (encs (a ++ t)) (encs a).length false := rfl
  rw [this]
  unfold escT
  rw [encs_append, List.take_left' rfl, List.drop_left' rfl, escGo_false _ _ hs.right, ht.esc, encs_append]
theorem sm_1 {a t : List Nat} (hs : Scs (a ++ t)) (ht : NoM t) (hl : (encs (a ++ t)).length ≤ 50000) : SM (encs (a ++ t)) (encs a).length 1 false :=
  ⟨.inr (.inl rfl), hl, by rw [smE_1 hs ht]; omega, by rw [encs_append, List.length_append]; omega, badEnd_enc hs, fun h => by cases h⟩
theorem smL_1 {a t : List Nat} (hs : Scs (a ++ t)) (ht : NoM t) : smL (encs (a ++ t)) (encs a).length 1 false = encs (a ++ t) := by
  unfold smL
  rw [if_neg (by simp), smE_1 hs ht]
theorem smE_0 (l s : List UInt8) : smE (l ++ s) l.length 0 = escGo true l s := by
  have : smE (l ++ s) l.length 0 = escT (l ++ s) l.length true := rfl
  rw [this]
  unfold escT
  rw [List.take_left' rfl, List.drop_left' rfl]
/-- How long the text becomes. -/
theorem encL_esc_le {r : Nat} (h : Sc r) : (encL (escN r)).length ≤ (encL r).length := by
  have := encL_pos h
  unfold escN
  split
  · rw [encL63]; simp; omega
  · exact Nat.le_refl _
theorem closeN_le (o : List Nat) : (encs (closeN o)).length ≤ (encs o).length + 3 := by
  unfold closeN
  split
  · rename_i h
    obtain ⟨a, rfl⟩ := last_snoc (by simpa using h)
    rw [List.dropLast_concat, encs_append]; simp; omega
  · rw [encs_append, encs_one, encE]; simp [mkE]
theorem openN_le (o : List Nat) : (encs (openN o)).length ≤ (encs o).length + 3 := by
  unfold openN
  split
  · rename_i h
    obtain ⟨a, rfl⟩ := last_snoc (by simpa using h)
    rw [List.dropLast_concat, encs_append]; simp; omega
  · rw [encs_append, encs_one, encS]; simp [mkS]
theorem unsN_le (st : List Nat × Bool) (r : Nat) : (encs (unsN st r).1).length ≤ (encs st.1).length + 3 + (encL r).length := by
  unfold unsN
  rw [encs_append, encs_one, List.length_append]
  have := closeN_le st.1
  split
  · omega
  · split
    · rw [encs_append, encs_one, encS]; simp [mkS]
    · omega
theorem unsFold_le : ∀ (s : List Nat) (st : List Nat × Bool), Scs s → (encs ((s.map escN).foldl unsN st).1).length ≤ (encs st.1).length + 4 * (encs s).length := by
  intro s
  induction s with
  | nil => intro st _; simp
  | cons r s ih =>
    intro st h
    rw [List.map_cons, List.foldl_cons]
    have h1 := ih (unsN st (escN r)) h.tail
    have h2 := unsN_le st (escN r)
    have h3 := encL_esc_le h.head
    have h4 := encL_pos h.head
    rw [encs_cons, List.length_append]
    omega
theorem unsafeN_le {o s : List Nat} (h : Scs s) : (encs (unsafeN o s)).length ≤ (encs o).length + 4 * (encs s).length + 6 := by
  unfold unsafeN
  split
  · omega
  · have h1 := unsFold_le s (openN o, false) h
    have h2 := openN_le o
    generalize (s.map escN).foldl unsN (openN o, false) = st at h1
    unfold finN
    dsimp only at h1
    split
    · omega
    · rw [encs_append, encs_one, encE]
      have : mkE.length = 3 := rfl
      rw [List.length_append, this]; omega
theorem smL_0 {o s : List Nat} (ho : Scs o) (hm : Mk o) (hs : Scs s) : smL (encs (openN o) ++ encs s) (encs (openN o)).length 0 true = encs (unsafeN o s) := by
  unfold smL
  rw [if_pos rfl, smE_0]
  by_cases h : s = []
  · subst h
    rw [encs_nil, escGo_nil, closeL_enc ho.openN, closeN_openN hm]
    unfold unsafeN
    rw [if_pos rfl]
  · have := unsafe_impl ho hs h
    rw [openL_enc ho] at this
    exact this
theorem mk_E : ¬ Mk [8250] := by unfold Mk mkS_; decide
theorem sm_0 {o s : List Nat} (ho : Scs o) (hm : Mk o) (hs : Scs s) (hl : (encs o).length + 4 * (encs s).length ≤ 49000) : SM (encs (openN o) ++ encs s) (encs (openN o)).length 0 true := by
  have h1 := openN_le o
  have h2 := smL_0 ho hm hs
  unfold smL at h2
  rw [if_pos rfl] at h2
  have h3 := unsafeN_le (o := o) hs
  have hc : ∀ x : List UInt8, x.length ≤ (closeL x).length + 3 := by
    intro x
    unfold closeL
    split
    · simp; omega
    · simp; omega
  refine ⟨.inl rfl, by rw [List.length_append]; omega, ?_, by rw [List.length_append]; omega, ?_, fun _ hn => ?_⟩
  · have := hc (smE (encs (openN o) ++ encs s) (encs (openN o)).length 0)
    rw [h2] at this; omega
  · rw [← encs_append]; exact badEnd_enc (ho.openN.append hs)
  · rw [hn] at h2
    have e1 : closeL [] = encs [8250] := by rw [encs_one, encE]; rfl
    rw [e1] at h2
    have h4 := congrArg runesL h2
    rw [runesL_encs (Scs.one scE), runesL_encs (ho.unsafeN hs)] at h4
    have := hm.unsafeN (s := s)
    rw [← h4] at this
    exact mk_E this
section
variable {K : Nat → Prop} {w : World} {p : Nat} {o rs : List Nat}
/-- A printer between two arguments: its text is that of the runes o. -/
def Ps (K : Nat → Prop) (w : World) (p : Nat) (o : List Nat) (ov : Int) : Prop := ∃ a t, o = a ++ t ∧ NoM t ∧ PP K w p (encs o) (encs a).length 1 false ov
/-- The text is right, and not too long. -/
structure GoodT (o : List Nat) (n : Nat) : Prop where
  sc : Scs o
  mkd : Mk o
  le : (encs o).length ≤ n
structure Txt (s : ByteArray) (rs : List Nat) : Prop where
  sc : Scs rs
  en : s.data.toList = encs rs
  le : s.size ≤ 100
def PsQ (K : Nat → Prop) (p : Nat) (w : World) (o : List Nat) (ov : Int) (e : Ending) (w' : World) : Prop := e = .returned (.tuple #[]) ∧ Hid (Ps K w' p o ov) ∧ Kp K w w'
theorem Txt.len {s : ByteArray} (h : Txt s rs) : (encs rs).length ≤ 100 := by rw [← h.en, ← Lib.size_eq]; exact h.le
/-- Writers: what they write behind the text. -/
theorem fmtS_pp {l : List UInt8} {vu : Nat} {m : Int} {mo : Bool} {ov : Int} (s : ByteArray) (h : PP K w p l vu m mo ov) (hl : l.length ≤ 90000) (hs : s.size ≤ 90000) (hz : m = 0 → mo = false → NoHash l) :
    Calls Tryz.prog 167 #[.pointer (some ⟨p, 6, none⟩), .string s] w (PPQ K p w (.tuple #[]) (swl l m mo ++ s.data.toList) (swv l vu m mo) m (swm m mo) ov) := by
  obtain ⟨R, hR, h, hE⟩ := h
  exact (fmtS_any s hR h hl hs hz).mono fun e w' hq => PPQ.of_buf hR hE hq
theorem writeString_pp {l : List UInt8} {vu : Nat} {m : Int} {mo : Bool} {ov : Int} (s : ByteArray) (h : PP K w p l vu m mo ov) (hl : l.length ≤ 90000) (hs : s.size ≤ 90000) (hz : m = 0 → mo = false → NoHash l) :
    Calls Tryz.prog 122 #[.pointer (some ⟨p, 0, none⟩), .string s] w (PPQ K p w (.tuple #[.int .i64 s.size, .nilIface]) (swl l m mo ++ s.data.toList) (swv l vu m mo) m (swm m mo) ov) := by
  obtain ⟨R, hR, h, hE⟩ := h
  exact (writeString_any s h hl hs hz).mono fun e w' hq => PPQ.of_buf hR hE hq
theorem PsQ.of {l : List UInt8} {vu : Nat} {ov : Int} {e : Ending} {w' : World} (a t : List Nat) (hl : l = encs (a ++ t)) (hv : vu = (encs a).length) (ht : NoM t) (h : PPQ K p w (.tuple #[]) l vu 1 false ov e w') : PsQ K p w (a ++ t) ov e w' := by
  subst hl; subst hv
  exact ⟨h.1, ⟨a, t, rfl, ht, h.2.1.out⟩, h.2.2⟩
theorem PsQ.of_whole {l : List UInt8} {ov : Int} {e : Ending} {w' : World} (hl : l = encs o) (h : PPQ K p w (.tuple #[]) l l.length 1 false ov e w') : PsQ K p w o ov e w' := by
  have := PsQ.of (K := K) (p := p) (w := w) (vu := l.length) o [] (by rw [hl]; simp) (by rw [hl]) NoM.nil h
  simpa using this
theorem noHash_good {n : Nat} (h : GoodT o n) : NoHash (encs o) := noHash_enc h.sc h.mkd.noH
/-- An unsafe text. -/
theorem printArg_0 (s : ByteArray) (verb : Int) (hv : verb = 118 ∨ verb = 115) (ht : Txt s rs) (h : Ps K w p o 0) (hg : GoodT o 40000) :
    Calls Tryz.prog 104 #[.pointer (some ⟨p, 0, none⟩), .iface 9 (.string s), .int .i32 verb] w (PsQ K p w (unsafeN o rs) 0) := by
  obtain ⟨a, t, rfl, hn, h⟩ := h
  have hlen := ht.len
  have hle := hg.le
  have e1 := smL_1 hg.sc hn
  have s1 := sm_1 hg.sc hn (by omega)
  have s0 := sm_0 hg.sc hg.mkd ht.sc (by omega)
  have e0 := smL_0 hg.sc hg.mkd ht.sc
  have heo := openL_enc hg.sc
  refine (printArg_string s verb h fun W hW => fmtString_of s verb hv (startUnsafe_0 hW s1) (fun W' hW' => fmtS_pp s hW' (by rw [e1]; omega) (by have := ht.le; omega) (fun _ _ => by rw [e1]; exact noHash_good hg)) (fun W' hW' => ?_)).mono (fun e w' hq => PsQ.of_whole (l := encs (unsafeN (a ++ t) rs)) rfl hq)
  have e2 : swl (smL (encs (a ++ t)) (encs a).length 1 false) 0 false ++ s.data.toList = encs (openN (a ++ t)) ++ encs rs := by rw [e1, ht.en, ← heo]; rfl
  have e3 : swv (smL (encs (a ++ t)) (encs a).length 1 false) (smL (encs (a ++ t)) (encs a).length 1 false).length 0 false = (encs (openN (a ++ t))).length := by rw [e1, ← heo]; rfl
  rw [e2, e3, show swm 0 false = true from rfl] at hW'
  have := restore_to (m' := 1) (ov' := 0) hW' (by decide) s0
  rw [e0] at this
  exact this
/-- The runes of a number. -/
def numN (n : Int) : List Nat := (numL n).map (·.toNat)
theorem numL_asc (n : Int) : Asc (numL n) := by
  unfold numL
  split
  · intro b hb
    rcases List.mem_cons.1 hb with rfl | hb
    · decide
    · exact digs_ascii _ b hb
  · exact digs_ascii _
theorem numL_le (n : Int) : (numL n).length ≤ 21 := by
  have := digs_len n.natAbs
  unfold numL
  split <;> simp <;> omega
theorem encs_asc (l : List UInt8) (h : Asc l) : encs (l.map (·.toNat)) = l := by
  induction l with
  | nil => rfl
  | cons b l ih =>
    rw [List.map_cons, encs_cons, encL_ascii _ (h b (List.mem_cons_self ..)), ih (fun x hx => h x (List.mem_cons_of_mem _ hx))]
    simp
theorem numN_enc (n : Int) : encs (numN n) = numL n := encs_asc _ (numL_asc n)
theorem asc_sc (l : List UInt8) (h : Asc l) : Scs (l.map (·.toNat)) := fun x hx => by
  obtain ⟨b, hb, rfl⟩ := List.mem_map.1 hx
  exact sc_lt (by have := h b hb; omega)
theorem asc_noM (l : List UInt8) (h : Asc l) : NoM (l.map (·.toNat)) := fun x hx => by
  obtain ⟨b, hb, rfl⟩ := List.mem_map.1 hx
  have := h b hb
  unfold isM
  simp; omega
theorem numN_sc (n : Int) : Scs (numN n) := asc_sc _ (numL_asc n)
theorem numN_noM (n : Int) : NoM (numN n) := asc_noM _ (numL_asc n)
/-- An unsafe number. -/
theorem printArg_2 (n : Int) (h0 : -9223372036854775808 ≤ n) (h1 : n ≤ 9223372036854775807) (verb : Int) (hv : verb = 118 ∨ verb = 100) (h : Ps K w p o 0) (hg : GoodT o 40000) :
    Calls Tryz.prog 104 #[.pointer (some ⟨p, 0, none⟩), .iface 2 (.int .i64 n), .int .i32 verb] w (PsQ K p w (unsafeN o (numN n)) 0) := by
  obtain ⟨a, t, rfl, hn, h⟩ := h
  have hlen := numL_le n
  have hle := hg.le
  have e1 := smL_1 hg.sc hn
  have s1 := sm_1 hg.sc hn (by omega)
  have s0 := sm_0 hg.sc hg.mkd (numN_sc n) (by rw [numN_enc]; omega)
  have e0 := smL_0 hg.sc hg.mkd (numN_sc n)
  have heo := openL_enc hg.sc
  refine (printArg_int n h0 h1 verb h fun W hW => ppInteger_of n verb hv hW (startUnsafe_0 hW s1) (fun W' hW' => fmtInteger_any n h0 h1 verb hv hW' (by rw [e1]; omega) (fun _ _ => by rw [e1]; exact noHash_good hg)) (fun W' hW' => ?_)).mono (fun e w' hq => PsQ.of_whole (l := encs (unsafeN (a ++ t) (numN n))) rfl hq)
  have e2 : swl (smL (encs (a ++ t)) (encs a).length 1 false) 0 false ++ numL n = encs (openN (a ++ t)) ++ encs (numN n) := by rw [e1, numN_enc, ← heo]; rfl
  have e3 : swv (smL (encs (a ++ t)) (encs a).length 1 false) (smL (encs (a ++ t)) (encs a).length 1 false).length 0 false = (encs (openN (a ++ t))).length := by rw [e1, ← heo]; rfl
  rw [e2, e3, show swm 0 false = true from rfl] at hW'
  have := restore_to (m' := 1) (ov' := 0) hW' (by decide) s0
  rw [e0] at this
  exact this
theorem swl_1 (l : List UInt8) : swl l 1 false = l := rfl
theorem swv_1 (l : List UInt8) (vu : Nat) : swv l vu 1 false = vu := rfl
/-- A safe text. -/
theorem printArg_1 (s : ByteArray) (verb : Int) (hv : verb = 118 ∨ verb = 115) (ht : Txt s rs) (hm : NoM rs) (h : Ps K w p o 0) (hg : GoodT o 40000) :
    Calls Tryz.prog 104 #[.pointer (some ⟨p, 0, none⟩), .iface 142 (.agg #[.iface 9 (.string s)]), .int .i32 verb] w (PsQ K p w (o ++ rs) 0) := by
  obtain ⟨a, t, rfl, hn, h⟩ := h
  have hle := hg.le
  have hts := ht.le
  rw [List.append_assoc]
  refine (printArg_safeString s verb h (fun K W hW => startSafe_0 hW) (fun K W hW => fmtString_of s verb hv (startUnsafe_1 hW) (fun W' hW' => fmtS_pp s hW' (by omega) (by omega) (fun h _ => by cases h)) (fun W' hW' => restore_same hW')) (fun K W hW => restore_same hW)).mono (fun e w' hq => PsQ.of a (t ++ rs) ?_ rfl (hn.append hm) hq)
  rw [swl_1, ht.en, ← encs_append, List.append_assoc]
/-- A safe number. -/
theorem printArg_3 (n : Int) (h0 : -9223372036854775808 ≤ n) (h1 : n ≤ 9223372036854775807) (verb : Int) (hv : verb = 118 ∨ verb = 100) (h : Ps K w p o 0) (hg : GoodT o 40000) :
    Calls Tryz.prog 104 #[.pointer (some ⟨p, 0, none⟩), .iface 142 (.agg #[.iface 2 (.int .i64 n)]), .int .i32 verb] w (PsQ K p w (o ++ numN n) 0) := by
  obtain ⟨a, t, rfl, hn, h⟩ := h
  have hle := hg.le
  rw [List.append_assoc]
  refine (printArg_safeInt n h0 h1 verb h (fun K W hW => startSafe_0 hW) (fun K W hW => ppInteger_of n verb hv hW (startUnsafe_1 hW) (fun W' hW' => fmtInteger_any n h0 h1 verb hv hW' (by omega) (fun h _ => by cases h)) (fun W' hW' => restore_same hW')) (fun K W hW => restore_same hW)).mono (fun e w' hq => PsQ.of a (t ++ numN n) ?_ rfl (hn.append (numN_noM n)) hq)
  rw [swl_1, ← numN_enc, ← encs_append, List.append_assoc]
/-- A safe number of the package's own type. -/
theorem printArg_3v (n : Int) (h0 : -9223372036854775808 ≤ n) (h1 : n ≤ 9223372036854775807) (verb : Int) (hv : verb = 118 ∨ verb = 100) (h : Ps K w p o 0) (hg : GoodT o 40000) :
    Calls Tryz.prog 104 #[.pointer (some ⟨p, 0, none⟩), .iface 101 (.int .i64 n), .int .i32 verb] w (PsQ K p w (o ++ numN n) 0) := by
  obtain ⟨a, t, rfl, hn, h⟩ := h
  have hle := hg.le
  rw [List.append_assoc]
  refine (printArg_safeIntV n h0 h1 verb h (fun W hW => startSafe_0 hW) (fun W hW => ppInteger_of n verb hv hW (startUnsafe_1 hW) (fun W' hW' => fmtInteger_any n h0 h1 verb hv hW' (by omega) (fun h _ => by cases h)) (fun W' hW' => restore_same hW')) (fun W hW => restore_same hW)).mono (fun e w' hq => PsQ.of a (t ++ numN n) ?_ rfl (hn.append (numN_noM n)) hq)
  rw [swl_1, ← numN_enc, ← encs_append, List.append_assoc]
/-- A redactable text. -/
theorem printArg_4 (s : ByteArray) (verb : Int) (ht : Txt s rs) (h : Ps K w p o 0) (hg : GoodT o 40000) :
    Calls Tryz.prog 104 #[.pointer (some ⟨p, 0, none⟩), .iface 50 (.string s), .int .i32 verb] w (PsQ K p w (o ++ rs) 0) := by
  obtain ⟨a, t, rfl, hn, h⟩ := h
  have hle := hg.le
  have hlen := ht.len
  have hts := ht.le
  have e1 := smL_1 hg.sc hn
  have s1 := sm_1 hg.sc hn (by omega)
  refine (printArg_redactable s _ verb h (fun W hW => startPre_0 hW s1) (fun W hW => writeString_pp s hW (by rw [e1]; omega) (by omega) (fun h _ => by cases h)) (fun W hW => ?_)).mono (fun e w' hq => PsQ.of_whole (l := encs ((a ++ t) ++ rs)) rfl hq)
  have e2 : swl (smL (encs (a ++ t)) (encs a).length 1 false) 2 false ++ s.data.toList = encs ((a ++ t) ++ rs) := by rw [e1, ht.en, encs_append (a ++ t) rs]; rfl
  have e3 : swv (smL (encs (a ++ t)) (encs a).length 1 false) (smL (encs (a ++ t)) (encs a).length 1 false).length 2 false = (encs (a ++ t)).length := by rw [e1]; rfl
  rw [e2, e3, show swm 2 false = false from rfl] at hW
  have s2 : SM (encs ((a ++ t) ++ rs)) (encs (a ++ t)).length 2 false := ⟨.inr (.inr rfl), by rw [encs_append, List.length_append]; omega, by show (encs ((a ++ t) ++ rs)).length ≤ _; rw [encs_append, List.length_append]; omega, by rw [encs_append (a ++ t), List.length_append]; omega, badEnd_enc (hg.sc.append ht.sc), fun h => by cases h⟩
  exact restore_to (m' := 1) (ov' := 0) hW (by decide) s2
/-- A text that is made unsafe. -/
theorem printArg_5 (s : ByteArray) (verb : Int) (hv : verb = 118 ∨ verb = 115) (ht : Txt s rs) (h : Ps K w p o 0) (hg : GoodT o 40000) :
    Calls Tryz.prog 104 #[.pointer (some ⟨p, 0, none⟩), .iface 147 (.agg #[.iface 9 (.string s)]), .int .i32 verb] w (PsQ K p w (unsafeN o rs) 0) := by
  obtain ⟨a, t, rfl, hn, h⟩ := h
  have hlen := ht.len
  have hts := ht.le
  have hle := hg.le
  have e1 := smL_1 hg.sc hn
  have s1 := sm_1 hg.sc hn (by omega)
  have s0 := sm_0 hg.sc hg.mkd ht.sc (by omega)
  have e0 := smL_0 hg.sc hg.mkd ht.sc
  have heo := openL_enc hg.sc
  refine (printArg_unsafeString s verb h (fun K W hW => startUnsafeOv_0 hW s1) (fun K W hW => fmtString_of s verb hv (startUnsafe_2 hW) (fun W' hW' => fmtS_pp s hW' (by rw [e1]; omega) (by omega) (fun _ _ => by rw [e1]; exact noHash_good hg)) (fun W' hW' => restore_same hW')) (fun K W hW => ?_)).mono (fun e w' hq => PsQ.of_whole (l := encs (unsafeN (a ++ t) rs)) rfl hq)
  have e2 : swl (smL (encs (a ++ t)) (encs a).length 1 false) 0 false ++ s.data.toList = encs (openN (a ++ t)) ++ encs rs := by rw [e1, ht.en, ← heo]; rfl
  have e3 : swv (smL (encs (a ++ t)) (encs a).length 1 false) (smL (encs (a ++ t)) (encs a).length 1 false).length 0 false = (encs (openN (a ++ t))).length := by rw [e1, ← heo]; rfl
  rw [e2, e3, show swm 0 false = true from rfl] at hW
  have := restore_to (m' := 1) (ov' := 0) hW (by decide) s0
  rw [e0] at this
  exact this
end
end Go.Proofs.YtlmcglaajmjanaaGreatDoor
