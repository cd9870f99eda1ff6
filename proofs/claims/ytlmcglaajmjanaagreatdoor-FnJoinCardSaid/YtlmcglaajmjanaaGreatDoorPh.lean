/- Walks of package redactfmt: printArg at a redactable text and at a safe integer. -/
import Derived.Test.YtlmcglaajmjanaaGreatDoorPg
namespace Go.Proofs.YtlmcglaajmjanaaGreatDoor
open Go.RowKit
section
variable {K : Nat → Prop} {w : World} {p : Nat} {l l1 l2 l3 : List UInt8} {vu vu1 vu2 vu3 : Nat} {m m1 : Int} {mo mo1 mo2 mo3 : Bool} {ov ov1 : Int}
set_option maxHeartbeats 4000000 in
set_option maxRecDepth 100000 in
theorem printArg_redactable (s : ByteArray) (r : Value) (verb : Int) (h : PP K w p l vu m mo ov)
    (hS : ∀ W, PP K W p l vu m mo ov → Calls Tryz.prog 141 #[.pointer (some ⟨p, 0, none⟩)] W (PPQ K p W (Rv p m ov) l1 vu1 m1 mo1 ov1))
    (hF : ∀ W, PP K W p l1 vu1 m1 mo1 ov1 → Calls Tryz.prog 122 #[.pointer (some ⟨p, 0, none⟩), .string s] W (PPQ K p W r l2 vu2 m1 mo2 ov1))
    (hR : ∀ W, PP K W p l2 vu2 m1 mo2 ov1 → CallsD Tryz.prog 131 #[Rv p m ov] .returning W fun e u' w' => u' = .returning ∧ PPQ K p W (.tuple #[]) l3 vu3 m mo3 ov e w') :
    Calls Tryz.prog 104 #[.pointer (some ⟨p, 0, none⟩), .iface 50 (.string s), .int .i32 verb] w (PPQ K p w (.tuple #[]) l3 vu3 m mo3 ov) := by
  have trstr_sw := ta_rstr_sw (.string s)
  have trstr_uw := ta_rstr_uw (.string s)
  have trstr_sv := ta_rstr_sv (.string s)
  have trstr_bool := ta_rstr_bool (.string s)
  have trstr_int := ta_rstr_int (.string s)
  have trstr_int8 := ta_rstr_int8 (.string s)
  have trstr_int16 := ta_rstr_int16 (.string s)
  have trstr_int32 := ta_rstr_int32 (.string s)
  have trstr_int64 := ta_rstr_int64 (.string s)
  have trstr_uint := ta_rstr_uint (.string s)
  have trstr_uint8 := ta_rstr_uint8 (.string s)
  have trstr_uint16 := ta_rstr_uint16 (.string s)
  have trstr_uint32 := ta_rstr_uint32 (.string s)
  have trstr_uint64 := ta_rstr_uint64 (.string s)
  have trstr_uintptr := ta_rstr_uintptr (.string s)
  have trstr_str := ta_rstr_str (.string s)
  have trstr_bytes := ta_rstr_bytes (.string s)
  have trstr_sstr := ta_rstr_sstr (.string s)
  have trstr_sint := ta_rstr_sint (.string s)
  have trstr_suint := ta_rstr_suint (.string s)
  have trstr_rstr := ta_rstr_rstr (.string s)
  obtain ⟨x5, c5⟩ := h.c5
  have f5 := h.fz 5
  have H := Lib.hid h; clear h
  have HS := Lib.hid hS; clear hS
  have HF := Lib.hid hF; clear hF
  have HR := Lib.hid hR; clear hR
  go_enter_defers Tryz.func104, Tryz.ntmps104
  go_wp2_with fail
  refine (HS.out _ (H.out.setArg _)).mono ?_
  rintro e w1 ⟨rfl, h1, hb1⟩
  go_wp2_with fail
  refine (HF.out _ h1.out).mono ?_
  rintro e w4 ⟨rfl, h4, hb4⟩
  go_wp2_with fail
  refine leaves_cons (f := 131) (args := #[Rv p m ov]) (by simp) (by simp [go_sem, Rv]) ?_
  refine (HR.out w4 h4.out).mono ?_
  rintro e u' w5 ⟨rfl, rfl, h5, hb5⟩
  exact ⟨_, results_none rfl _ _ _, rfl, h5.out, (((Kp.refl K w).setCell H.out.hp _ _).trans hb1).trans (hb4.trans hb5)⟩
set_option maxHeartbeats 4000000 in
set_option maxRecDepth 100000 in
theorem printArg_safeIntV (n : Int) (h0 : -9223372036854775808 ≤ n) (h1 : n ≤ 9223372036854775807) (verb : Int) (h : PP K w p l vu m mo ov)
    (hS : ∀ W, PP K W p l vu m mo ov → Calls Tryz.prog 130 #[.pointer (some ⟨p, 0, none⟩)] W (PPQ K p W (Rv p m ov) l1 vu1 m1 mo1 ov1))
    (hF : ∀ W, PP K W p l1 vu1 m1 mo1 ov1 → Calls Tryz.prog 138 #[.pointer (some ⟨p, 0, none⟩), .int .u64 (u64 n), .bool true, .int .i32 verb] W (PPQ K p W (.tuple #[]) l2 vu2 m1 mo2 ov1))
    (hR : ∀ W, PP K W p l2 vu2 m1 mo2 ov1 → CallsD Tryz.prog 131 #[Rv p m ov] .returning W fun e u' w' => u' = .returning ∧ PPQ K p W (.tuple #[]) l3 vu3 m mo3 ov e w') :
    Calls Tryz.prog 104 #[.pointer (some ⟨p, 0, none⟩), .iface 101 (.int .i64 n), .int .i32 verb] w (PPQ K p w (.tuple #[]) l3 vu3 m mo3 ov) := by
  have tsint_sw := ta_sint_sw (.int .i64 n)
  have tsint_uw := ta_sint_uw (.int .i64 n)
  have tsint_sv := ta_sint_sv (.int .i64 n)
  have tsint_bool := ta_sint_bool (.int .i64 n)
  have tsint_int := ta_sint_int (.int .i64 n)
  have tsint_int8 := ta_sint_int8 (.int .i64 n)
  have tsint_int16 := ta_sint_int16 (.int .i64 n)
  have tsint_int32 := ta_sint_int32 (.int .i64 n)
  have tsint_int64 := ta_sint_int64 (.int .i64 n)
  have tsint_uint := ta_sint_uint (.int .i64 n)
  have tsint_uint8 := ta_sint_uint8 (.int .i64 n)
  have tsint_uint16 := ta_sint_uint16 (.int .i64 n)
  have tsint_uint32 := ta_sint_uint32 (.int .i64 n)
  have tsint_uint64 := ta_sint_uint64 (.int .i64 n)
  have tsint_uintptr := ta_sint_uintptr (.int .i64 n)
  have tsint_str := ta_sint_str (.int .i64 n)
  have tsint_bytes := ta_sint_bytes (.int .i64 n)
  have tsint_sstr := ta_sint_sstr (.int .i64 n)
  have tsint_sint := ta_sint_sint (.int .i64 n)
  have hw : IntKind.u64.wrap n = u64 n := by unfold u64; rw [IntKind.wrap_u64]; split <;> omega
  generalize u64 n = un at *
  obtain ⟨x5, c5⟩ := h.c5
  have f5 := h.fz 5
  have H := Lib.hid h; clear h
  have HS := Lib.hid hS; clear hS
  have HF := Lib.hid hF; clear hF
  have HR := Lib.hid hR; clear hR
  go_enter_defers Tryz.func104, Tryz.ntmps104
  go_wp2_with fail
  refine (HS.out _ H.out).mono ?_
  rintro e w1 ⟨rfl, h1, hb1⟩
  obtain ⟨y5, d5⟩ := h1.out.c5
  have g5 := h1.out.fz 5
  go_wp2_with fail
  refine (HF.out _ (h1.out.setArg _)).mono ?_
  rintro e w4 ⟨rfl, h4, hb4⟩
  go_wp2_with fail
  refine leaves_cons (f := 131) (args := #[Rv p m ov]) (by simp) (by simp [go_sem, Rv]) ?_
  refine (HR.out w4 h4.out).mono ?_
  rintro e u' w5 ⟨rfl, rfl, h5, hb5⟩
  exact ⟨_, results_none rfl _ _ _, rfl, h5.out, (hb1.setCell H.out.hp _ _).trans (hb4.trans hb5)⟩
end
end Go.Proofs.YtlmcglaajmjanaaGreatDoor
