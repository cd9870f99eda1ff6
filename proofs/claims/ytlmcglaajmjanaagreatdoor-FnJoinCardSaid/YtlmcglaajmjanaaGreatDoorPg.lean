/- Walks of package redactfmt: printArg. -/
import Derived.Test.YtlmcglaajmjanaaGreatDoorPi
import Derived.Test.YtlmcglaajmjanaaGreatDoorTa
namespace Go.Proofs.YtlmcglaajmjanaaGreatDoor
open Go.RowKit
section
variable {K : Nat → Prop} {w : World} {p : Nat} {l l3 : List UInt8} {vu vu3 : Nat} {m m0 : Int} {mo mo3 : Bool} {ov : Int}
theorem PP.c5 (h : PP K w p l vu m mo ov) : ∃ x, w.cell? ⟨p, 5, none⟩ = some x := by obtain ⟨R, hR, h, hE⟩ := h; obtain ⟨v, hv⟩ := hR.arg; exact ⟨v, (h.cR 5 (by omega)).trans hv⟩
theorem getValueS (x : Value) {x2 : Value} (hx : x = .iface 9 x2 ∨ x = .iface 2 x2) (w : World) : Calls Tryz.prog 132 #[.agg #[x]] w fun e w' => e = .returned x ∧ Below w.heap.size w w' := by
  rcases hx with rfl | rfl
  · go_enter Tryz.func132, Tryz.ntmps132
    go_wp2
    go_ret
    exact ⟨rfl, (Below.refl _ _).alloc (Nat.le_refl _) _⟩
  · go_enter Tryz.func132, Tryz.ntmps132
    go_wp2
    go_ret
    exact ⟨rfl, (Below.refl _ _).alloc (Nat.le_refl _) _⟩
theorem getValueU (s : ByteArray) (w : World) : Calls Tryz.prog 134 #[.agg #[.iface 9 (.string s)]] w fun e w' => e = .returned (.iface 9 (.string s)) ∧ Below w.heap.size w w' := by
  go_enter Tryz.func134, Tryz.ntmps134
  go_wp2
  go_ret
  exact ⟨rfl, (Below.refl _ _).alloc (Nat.le_refl _) _⟩
set_option maxHeartbeats 4000000 in
set_option maxRecDepth 100000 in
theorem printArg_string (s : ByteArray) (verb : Int) (h : PP K w p l vu m mo ov)
    (hF : ∀ W, PP K W p l vu m mo ov → Calls Tryz.prog 139 #[.pointer (some ⟨p, 0, none⟩), .string s, .int .i32 verb] W (PPQ K p W (.tuple #[]) l3 vu3 m mo3 ov)) :
    Calls Tryz.prog 104 #[.pointer (some ⟨p, 0, none⟩), .iface 9 (.string s), .int .i32 verb] w (PPQ K p w (.tuple #[]) l3 vu3 m mo3 ov) := by
  have tstr_sw := ta_str_sw (.string s)
  have tstr_uw := ta_str_uw (.string s)
  have tstr_sv := ta_str_sv (.string s)
  have tstr_bool := ta_str_bool (.string s)
  have tstr_int := ta_str_int (.string s)
  have tstr_int8 := ta_str_int8 (.string s)
  have tstr_int16 := ta_str_int16 (.string s)
  have tstr_int32 := ta_str_int32 (.string s)
  have tstr_int64 := ta_str_int64 (.string s)
  have tstr_uint := ta_str_uint (.string s)
  have tstr_uint8 := ta_str_uint8 (.string s)
  have tstr_uint16 := ta_str_uint16 (.string s)
  have tstr_uint32 := ta_str_uint32 (.string s)
  have tstr_uint64 := ta_str_uint64 (.string s)
  have tstr_uintptr := ta_str_uintptr (.string s)
  have tstr_str := ta_str_str (.string s)
  obtain ⟨x5, c5⟩ := h.c5
  have f5 := h.fz 5
  have H := Lib.hid h; clear h
  have HF := Lib.hid hF; clear hF
  go_enter_defers Tryz.func104, Tryz.ntmps104
  go_wp2_with fail
  refine (HF.out _ (H.out.setArg _)).mono ?_
  rintro e w2 ⟨rfl, h2, hb2⟩
  go_wp2_with fail
  exact ⟨_, results_none rfl _ _ _, rfl, h2, ((Kp.refl K w).setCell H.out.hp _ _).trans hb2⟩
set_option maxHeartbeats 4000000 in
set_option maxRecDepth 100000 in
theorem printArg_int (n : Int) (h0 : -9223372036854775808 ≤ n) (h1 : n ≤ 9223372036854775807) (verb : Int) (h : PP K w p l vu m mo ov)
    (hF : ∀ W, PP K W p l vu m mo ov → Calls Tryz.prog 138 #[.pointer (some ⟨p, 0, none⟩), .int .u64 (u64 n), .bool true, .int .i32 verb] W (PPQ K p W (.tuple #[]) l3 vu3 m mo3 ov)) :
    Calls Tryz.prog 104 #[.pointer (some ⟨p, 0, none⟩), .iface 2 (.int .i64 n), .int .i32 verb] w (PPQ K p w (.tuple #[]) l3 vu3 m mo3 ov) := by
  have ti64_sw := ta_i64_sw (.int .i64 n)
  have ti64_uw := ta_i64_uw (.int .i64 n)
  have ti64_sv := ta_i64_sv (.int .i64 n)
  have ti64_bool := ta_i64_bool (.int .i64 n)
  have ti64_int := ta_i64_int (.int .i64 n)
  have ti64_int8 := ta_i64_int8 (.int .i64 n)
  have ti64_int16 := ta_i64_int16 (.int .i64 n)
  have ti64_int32 := ta_i64_int32 (.int .i64 n)
  have ti64_int64 := ta_i64_int64 (.int .i64 n)
  have hw : IntKind.u64.wrap n = u64 n := by unfold u64; rw [IntKind.wrap_u64]; split <;> omega
  generalize u64 n = un at *
  obtain ⟨x5, c5⟩ := h.c5
  have f5 := h.fz 5
  have H := Lib.hid h; clear h
  have HF := Lib.hid hF; clear hF
  go_enter_defers Tryz.func104, Tryz.ntmps104
  go_wp2_with fail
  refine (HF.out _ (H.out.setArg _)).mono ?_
  rintro e w2 ⟨rfl, h2, hb2⟩
  go_wp2_with fail
  exact ⟨_, results_none rfl _ _ _, rfl, h2, ((Kp.refl K w).setCell H.out.hp _ _).trans hb2⟩
end
section
variable {K : Nat → Prop} {w : World} {p : Nat} {l l1 l2 l3 : List UInt8} {vu vu1 vu2 vu3 : Nat} {m m1 : Int} {mo mo1 mo2 mo3 : Bool} {ov ov1 : Int}
set_option maxHeartbeats 4000000 in
set_option maxRecDepth 100000 in
theorem printArg_safeString (s : ByteArray) (verb : Int) (h : PP K w p l vu m mo ov)
    (hS : ∀ K W, PP K W p l vu m mo ov → Calls Tryz.prog 130 #[.pointer (some ⟨p, 0, none⟩)] W (PPQ K p W (Rv p m ov) l1 vu1 m1 mo1 ov1))
    (hF : ∀ K W, PP K W p l1 vu1 m1 mo1 ov1 → Calls Tryz.prog 139 #[.pointer (some ⟨p, 0, none⟩), .string s, .int .i32 verb] W (PPQ K p W (.tuple #[]) l2 vu2 m1 mo2 ov1))
    (hR : ∀ K W, PP K W p l2 vu2 m1 mo2 ov1 → CallsD Tryz.prog 131 #[Rv p m ov] .returning W fun e u' w' => u' = .returning ∧ PPQ K p W (.tuple #[]) l3 vu3 m mo3 ov e w') :
    Calls Tryz.prog 104 #[.pointer (some ⟨p, 0, none⟩), .iface 142 (.agg #[.iface 9 (.string s)]), .int .i32 verb] w (PPQ K p w (.tuple #[]) l3 vu3 m mo3 ov) := by
  have tsw_sw := ta_sw_sw (.agg #[.iface 9 (.string s)])
  have tstr_sw := ta_str_sw (.string s)
  have tstr_uw := ta_str_uw (.string s)
  have tstr_sv := ta_str_sv (.string s)
  have tstr_bool := ta_str_bool (.string s)
  have tstr_int := ta_str_int (.string s)
  have tstr_int8 := ta_str_int8 (.string s)
  have tstr_int16 := ta_str_int16 (.string s)
  have tstr_int32 := ta_str_int32 (.string s)
  have tstr_int64 := ta_str_int64 (.string s)
  have tstr_uint := ta_str_uint (.string s)
  have tstr_uint8 := ta_str_uint8 (.string s)
  have tstr_uint16 := ta_str_uint16 (.string s)
  have tstr_uint32 := ta_str_uint32 (.string s)
  have tstr_uint64 := ta_str_uint64 (.string s)
  have tstr_uintptr := ta_str_uintptr (.string s)
  have tstr_str := ta_str_str (.string s)
  have hp := h.lt
  have hz := h.env.2.2.1
  have hk := h.keep (.cells #[.iface 9 (.string s)] 142)
  have H := Lib.hid h; clear h
  have HK := Lib.hid hk; clear hk
  have HS := Lib.hid hS; clear hS
  have HF := Lib.hid hF; clear hF
  have HR := Lib.hid hR; clear hR
  go_enter_defers Tryz.func104, Tryz.ntmps104
  go_wp2_with fail
  refine (HS.out _ _ HK.out).mono ?_
  rintro e w1 ⟨rfl, h1, hb1⟩
  have r0 : w1.cell? ⟨w.heap.size, 0, none⟩ = some (.iface 9 (.string s)) := (hb1.cell (.inr rfl) 0).trans (cell_new _ _ _ _)
  go_wp2_with fail
  refine (getValueS (.iface 9 (.string s)) (.inl rfl) _).mono ?_
  rintro e w2 ⟨rfl, hb2⟩
  have h2 := Lib.hid (h1.out.below hb2)
  have hb2 := hb1.trans (Kp.of_below h1.out.hK hb2)
  clear hb1 h1 r0
  obtain ⟨x5, c5⟩ := h2.out.c5
  have f5 := h2.out.fz 5
  go_wp2_with fail
  refine (HF.out _ _ (h2.out.setArg _)).mono ?_
  rintro e w4 ⟨rfl, h4, hb4⟩
  go_wp2_with fail
  refine leaves_cons (f := 131) (args := #[Rv p m ov]) (by simp) (by simp [go_sem, Rv]) ?_
  refine (HR.out _ w4 h4.out).mono ?_
  rintro e u' w5 ⟨rfl, rfl, h5, hb5⟩
  exact ⟨_, results_none rfl _ _ _, rfl, h5.out.anti (fun k hk => .inl hk) H.out.env.1 H.out.env.2.1, (Kp.of_below H.out.hK ((Below.refl _ w).alloc (Nat.le_refl _) _)).trans ((((hb2.setCell HK.out.hp _ _).trans hb4).trans hb5).anti fun k hk => .inl hk)⟩
set_option maxHeartbeats 4000000 in
set_option maxRecDepth 100000 in
theorem printArg_safeInt (n : Int) (h0 : -9223372036854775808 ≤ n) (h1 : n ≤ 9223372036854775807) (verb : Int) (h : PP K w p l vu m mo ov)
    (hS : ∀ K W, PP K W p l vu m mo ov → Calls Tryz.prog 130 #[.pointer (some ⟨p, 0, none⟩)] W (PPQ K p W (Rv p m ov) l1 vu1 m1 mo1 ov1))
    (hF : ∀ K W, PP K W p l1 vu1 m1 mo1 ov1 → Calls Tryz.prog 138 #[.pointer (some ⟨p, 0, none⟩), .int .u64 (u64 n), .bool true, .int .i32 verb] W (PPQ K p W (.tuple #[]) l2 vu2 m1 mo2 ov1))
    (hR : ∀ K W, PP K W p l2 vu2 m1 mo2 ov1 → CallsD Tryz.prog 131 #[Rv p m ov] .returning W fun e u' w' => u' = .returning ∧ PPQ K p W (.tuple #[]) l3 vu3 m mo3 ov e w') :
    Calls Tryz.prog 104 #[.pointer (some ⟨p, 0, none⟩), .iface 142 (.agg #[.iface 2 (.int .i64 n)]), .int .i32 verb] w (PPQ K p w (.tuple #[]) l3 vu3 m mo3 ov) := by
  have tsw_sw := ta_sw_sw (.agg #[.iface 2 (.int .i64 n)])
  have ti64_sw := ta_i64_sw (.int .i64 n)
  have ti64_uw := ta_i64_uw (.int .i64 n)
  have ti64_sv := ta_i64_sv (.int .i64 n)
  have ti64_bool := ta_i64_bool (.int .i64 n)
  have ti64_int := ta_i64_int (.int .i64 n)
  have ti64_int8 := ta_i64_int8 (.int .i64 n)
  have ti64_int16 := ta_i64_int16 (.int .i64 n)
  have ti64_int32 := ta_i64_int32 (.int .i64 n)
  have ti64_int64 := ta_i64_int64 (.int .i64 n)
  have hw : IntKind.u64.wrap n = u64 n := by unfold u64; rw [IntKind.wrap_u64]; split <;> omega
  generalize u64 n = un at *
  have hp := h.lt
  have hz := h.env.2.2.1
  have hk := h.keep (.cells #[.iface 2 (.int .i64 n)] 142)
  have H := Lib.hid h; clear h
  have HK := Lib.hid hk; clear hk
  have HS := Lib.hid hS; clear hS
  have HF := Lib.hid hF; clear hF
  have HR := Lib.hid hR; clear hR
  go_enter_defers Tryz.func104, Tryz.ntmps104
  go_wp2_with fail
  refine (HS.out _ _ HK.out).mono ?_
  rintro e w1 ⟨rfl, h1, hb1⟩
  have r0 : w1.cell? ⟨w.heap.size, 0, none⟩ = some (.iface 2 (.int .i64 n)) := (hb1.cell (.inr rfl) 0).trans (cell_new _ _ _ _)
  go_wp2_with fail
  refine (getValueS (.iface 2 (.int .i64 n)) (.inr rfl) _).mono ?_
  rintro e w2 ⟨rfl, hb2⟩
  have h2 := Lib.hid (h1.out.below hb2)
  have hb2 := hb1.trans (Kp.of_below h1.out.hK hb2)
  clear hb1 h1 r0
  obtain ⟨x5, c5⟩ := h2.out.c5
  have f5 := h2.out.fz 5
  go_wp2_with fail
  refine (HF.out _ _ (h2.out.setArg _)).mono ?_
  rintro e w4 ⟨rfl, h4, hb4⟩
  go_wp2_with fail
  refine leaves_cons (f := 131) (args := #[Rv p m ov]) (by simp) (by simp [go_sem, Rv]) ?_
  refine (HR.out _ w4 h4.out).mono ?_
  rintro e u' w5 ⟨rfl, rfl, h5, hb5⟩
  exact ⟨_, results_none rfl _ _ _, rfl, h5.out.anti (fun k hk => .inl hk) H.out.env.1 H.out.env.2.1, (Kp.of_below H.out.hK ((Below.refl _ w).alloc (Nat.le_refl _) _)).trans ((((hb2.setCell HK.out.hp _ _).trans hb4).trans hb5).anti fun k hk => .inl hk)⟩
set_option maxHeartbeats 4000000 in
set_option maxRecDepth 100000 in
theorem printArg_unsafeString (s : ByteArray) (verb : Int) (h : PP K w p l vu m mo ov)
    (hS : ∀ K W, PP K W p l vu m mo ov → Calls Tryz.prog 133 #[.pointer (some ⟨p, 0, none⟩)] W (PPQ K p W (Rv p m ov) l1 vu1 m1 mo1 ov1))
    (hF : ∀ K W, PP K W p l1 vu1 m1 mo1 ov1 → Calls Tryz.prog 139 #[.pointer (some ⟨p, 0, none⟩), .string s, .int .i32 verb] W (PPQ K p W (.tuple #[]) l2 vu2 m1 mo2 ov1))
    (hR : ∀ K W, PP K W p l2 vu2 m1 mo2 ov1 → CallsD Tryz.prog 131 #[Rv p m ov] .returning W fun e u' w' => u' = .returning ∧ PPQ K p W (.tuple #[]) l3 vu3 m mo3 ov e w') :
    Calls Tryz.prog 104 #[.pointer (some ⟨p, 0, none⟩), .iface 147 (.agg #[.iface 9 (.string s)]), .int .i32 verb] w (PPQ K p w (.tuple #[]) l3 vu3 m mo3 ov) := by
  have tuw_sw := ta_uw_sw (.agg #[.iface 9 (.string s)])
  have tuw_uw := ta_uw_uw (.agg #[.iface 9 (.string s)])
  have tstr_sw := ta_str_sw (.string s)
  have tstr_uw := ta_str_uw (.string s)
  have tstr_sv := ta_str_sv (.string s)
  have tstr_bool := ta_str_bool (.string s)
  have tstr_int := ta_str_int (.string s)
  have tstr_int8 := ta_str_int8 (.string s)
  have tstr_int16 := ta_str_int16 (.string s)
  have tstr_int32 := ta_str_int32 (.string s)
  have tstr_int64 := ta_str_int64 (.string s)
  have tstr_uint := ta_str_uint (.string s)
  have tstr_uint8 := ta_str_uint8 (.string s)
  have tstr_uint16 := ta_str_uint16 (.string s)
  have tstr_uint32 := ta_str_uint32 (.string s)
  have tstr_uint64 := ta_str_uint64 (.string s)
  have tstr_uintptr := ta_str_uintptr (.string s)
  have tstr_str := ta_str_str (.string s)
  have hp := h.lt
  have hz := h.env.2.2.1
  have hk := h.keep (.cells #[.iface 9 (.string s)] 147)
  have H := Lib.hid h; clear h
  have HK := Lib.hid hk; clear hk
  have HS := Lib.hid hS; clear hS
  have HF := Lib.hid hF; clear hF
  have HR := Lib.hid hR; clear hR
  go_enter_defers Tryz.func104, Tryz.ntmps104
  go_wp2_with fail
  refine (HS.out _ _ HK.out).mono ?_
  rintro e w1 ⟨rfl, h1, hb1⟩
  have r0 : w1.cell? ⟨w.heap.size, 0, none⟩ = some (.iface 9 (.string s)) := (hb1.cell (.inr rfl) 0).trans (cell_new _ _ _ _)
  go_wp2_with fail
  refine (getValueU s _).mono ?_
  rintro e w2 ⟨rfl, hb2⟩
  have h2 := Lib.hid (h1.out.below hb2)
  have hb2 := hb1.trans (Kp.of_below h1.out.hK hb2)
  clear hb1 h1 r0
  obtain ⟨x5, c5⟩ := h2.out.c5
  have f5 := h2.out.fz 5
  go_wp2_with fail
  refine (HF.out _ _ (h2.out.setArg _)).mono ?_
  rintro e w4 ⟨rfl, h4, hb4⟩
  go_wp2_with fail
  refine leaves_cons (f := 131) (args := #[Rv p m ov]) (by simp) (by simp [go_sem, Rv]) ?_
  refine (HR.out _ w4 h4.out).mono ?_
  rintro e u' w5 ⟨rfl, rfl, h5, hb5⟩
  exact ⟨_, results_none rfl _ _ _, rfl, h5.out.anti (fun k hk => .inl hk) H.out.env.1 H.out.env.2.1, (Kp.of_below H.out.hK ((Below.refl _ w).alloc (Nat.le_refl _) _)).trans ((((hb2.setCell HK.out.hp _ _).trans hb4).trans hb5).anti fun k hk => .inl hk)⟩
end
end Go.Proofs.YtlmcglaajmjanaaGreatDoor
