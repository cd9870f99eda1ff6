/- Plain words: what an argument put behind a text makes, in runes; what a list of them makes. -/
/- Walks of package redactfmt: isText, doPrint, Sprint. -/
/- Walk of redactfmt.Sprint. -/
import Derived.Test.YtlmcglaajmjanaaGreatDoorZh
import Derived.Test.YtlmcglaajmjanaaGreatDoorZg
namespace Go.Proofs.YtlmcglaajmjanaaGreatDoor
open Go.RowKit
def AArg.isText (a : AArg) : Bool := a.kind == 0 || a.kind == 4
/-- One of six kinds; a right text; a number. -/
structure AArg.Ok (a : AArg) : Prop where
  kd : a.kind = 0 ∨ a.kind = 1 ∨ a.kind = 2 ∨ a.kind = 3 ∨ a.kind = 4 ∨ a.kind = 5
  tx : Txt a.text (runes a.text)
  sf : a.kind = 1 → NoM (runes a.text)
  mk1 : a.kind = 4 → Mk (runes a.text)
  n0 : -9223372036854775808 ≤ a.n
  n1 : a.n ≤ 9223372036854775807
def putN (o : List Nat) (a : AArg) : List Nat :=
  if a.kind = 1 ∨ a.kind = 4 then o ++ runes a.text else if a.kind = 2 then unsafeN o (numN a.n) else if a.kind = 3 then o ++ numN a.n else unsafeN o (runes a.text)
def sprG (o : List Nat) (prev : Option Bool) : List AArg → List Nat
  | [] => o
  | a :: l => sprG (putN (if prev == some false && !a.isText then o ++ [32] else o) a) (some a.isText) l
theorem GoodT.put {o : List Nat} {n : Nat} {a : AArg} (h : GoodT o n) (ha : a.Ok) : GoodT (putN o a) (n + 410) := by
  have hx := ha.tx.len
  have hn := numL_le a.n
  have hle := h.le
  unfold putN
  split
  · rename_i hk
    refine ⟨h.sc.append ha.tx.sc, h.mkd.append ?_, by rw [encs_append, List.length_append]; omega⟩
    rcases hk with hk | hk
    · exact Mk.safe (ha.sf hk)
    · exact ha.mk1 hk
  · split
    · exact ⟨h.sc.unsafeN (numN_sc _), h.mkd.unsafeN, by have := unsafeN_le (o := o) (numN_sc a.n); rw [numN_enc] at this; omega⟩
    · split
      · exact ⟨h.sc.append (numN_sc _), h.mkd.append (Mk.safe (numN_noM _)), by rw [encs_append, List.length_append, numN_enc]; omega⟩
      · exact ⟨h.sc.unsafeN ha.tx.sc, h.mkd.unsafeN, by have := unsafeN_le (o := o) ha.tx.sc; omega⟩
theorem GoodT.nil : GoodT [] 0 := ⟨Scs.nil, Mk.nil, by simp [encs_nil]⟩
theorem blank_noM : NoM [32] := fun x hx => by simp at hx; subst hx; rfl
theorem GoodT.blank {o : List Nat} {n : Nat} (h : GoodT o n) : GoodT (o ++ [32]) (n + 1) :=
  ⟨h.sc.append (Scs.one (sc_lt (by omega))), h.mkd.append (Mk.safe blank_noM), by have := h.le; rw [encs_append, List.length_append, encs_one, encL_ascii 32 (by omega)]; simp; omega⟩
theorem GoodT.mono {o : List Nat} {n m : Nat} (h : GoodT o n) (hm : n ≤ m) : GoodT o m := ⟨h.sc, h.mkd, Nat.le_trans h.le hm⟩
theorem GoodT.spr : ∀ (l : List AArg) (o : List Nat) (prev : Option Bool) (n : Nat), GoodT o n → (∀ a ∈ l, a.Ok) → GoodT (sprG o prev l) (n + 411 * l.length) := by
  intro l
  induction l with
  | nil => intro o prev n h _; exact h
  | cons a l ih =>
    intro o prev n h ha
    have h1 : GoodT (if prev == some false && !a.isText then o ++ [32] else o) (n + 1) := by
      split
      · exact h.blank
      · exact h.mono (by omega)
    have h2 := h1.put (ha a (List.mem_cons_self ..))
    have h3 := ih _ (some a.isText) _ h2 (fun x hx => ha x (List.mem_cons_of_mem _ hx))
    exact h3.mono (by simp; omega)
end Go.Proofs.YtlmcglaajmjanaaGreatDoor

namespace Go.Proofs.YtlmcglaajmjanaaGreatDoor
open Go.RowKit
theorem tx_str_str (v : Value) (w : World) : (Instr.typeAssert (.iface 9 v) 20 9 true).run Tryz.prog w = .ok (.tuple #[v, .bool true]) w := by kernel_rfl
theorem tx_str_rstr (v : Value) (w : World) : (Instr.typeAssert (.iface 9 v) 20 50 true).run Tryz.prog w = .ok (.tuple #[.string ⟨#[]⟩, .bool false]) w := by kernel_rfl
theorem tx_str_sstr (v : Value) (w : World) : (Instr.typeAssert (.iface 9 v) 20 98 true).run Tryz.prog w = .ok (.tuple #[.string ⟨#[]⟩, .bool false]) w := by kernel_rfl
theorem tx_i64_str (v : Value) (w : World) : (Instr.typeAssert (.iface 2 v) 20 9 true).run Tryz.prog w = .ok (.tuple #[.string ⟨#[]⟩, .bool false]) w := by kernel_rfl
theorem tx_i64_rstr (v : Value) (w : World) : (Instr.typeAssert (.iface 2 v) 20 50 true).run Tryz.prog w = .ok (.tuple #[.string ⟨#[]⟩, .bool false]) w := by kernel_rfl
theorem tx_i64_sstr (v : Value) (w : World) : (Instr.typeAssert (.iface 2 v) 20 98 true).run Tryz.prog w = .ok (.tuple #[.string ⟨#[]⟩, .bool false]) w := by kernel_rfl
theorem tx_sw_str (v : Value) (w : World) : (Instr.typeAssert (.iface 142 v) 20 9 true).run Tryz.prog w = .ok (.tuple #[.string ⟨#[]⟩, .bool false]) w := by kernel_rfl
theorem tx_sw_rstr (v : Value) (w : World) : (Instr.typeAssert (.iface 142 v) 20 50 true).run Tryz.prog w = .ok (.tuple #[.string ⟨#[]⟩, .bool false]) w := by kernel_rfl
theorem tx_sw_sstr (v : Value) (w : World) : (Instr.typeAssert (.iface 142 v) 20 98 true).run Tryz.prog w = .ok (.tuple #[.string ⟨#[]⟩, .bool false]) w := by kernel_rfl
theorem tx_uw_str (v : Value) (w : World) : (Instr.typeAssert (.iface 147 v) 20 9 true).run Tryz.prog w = .ok (.tuple #[.string ⟨#[]⟩, .bool false]) w := by kernel_rfl
theorem tx_uw_rstr (v : Value) (w : World) : (Instr.typeAssert (.iface 147 v) 20 50 true).run Tryz.prog w = .ok (.tuple #[.string ⟨#[]⟩, .bool false]) w := by kernel_rfl
theorem tx_uw_sstr (v : Value) (w : World) : (Instr.typeAssert (.iface 147 v) 20 98 true).run Tryz.prog w = .ok (.tuple #[.string ⟨#[]⟩, .bool false]) w := by kernel_rfl
theorem tx_rstr_str (v : Value) (w : World) : (Instr.typeAssert (.iface 50 v) 20 9 true).run Tryz.prog w = .ok (.tuple #[.string ⟨#[]⟩, .bool false]) w := by kernel_rfl
theorem tx_rstr_rstr (v : Value) (w : World) : (Instr.typeAssert (.iface 50 v) 20 50 true).run Tryz.prog w = .ok (.tuple #[v, .bool true]) w := by kernel_rfl
theorem tx_rstr_sstr (v : Value) (w : World) : (Instr.typeAssert (.iface 50 v) 20 98 true).run Tryz.prog w = .ok (.tuple #[.string ⟨#[]⟩, .bool false]) w := by kernel_rfl
/-- An argument as the package gets it. -/
def AArg.pv (a : AArg) : Value :=
  if a.kind = 1 then .iface 142 (.agg #[.iface 9 (.string a.text)])
  else if a.kind = 2 then .iface 2 (.int .i64 a.n)
  else if a.kind = 3 then .iface 142 (.agg #[.iface 2 (.int .i64 a.n)])
  else if a.kind = 4 then .iface 50 (.string a.text)
  else if a.kind = 5 then .iface 147 (.agg #[.iface 9 (.string a.text)])
  else .iface 9 (.string a.text)
theorem isText_any (a : AArg) (h : a.kind = 0 ∨ a.kind = 1 ∨ a.kind = 2 ∨ a.kind = 3 ∨ a.kind = 4 ∨ a.kind = 5) (w : World) : Calls Tryz.prog 102 #[a.pv] w fun e w' => e = .returned (.bool a.isText) ∧ w = w' := by
  obtain ⟨k, s, n⟩ := a
  rcases h with h | h | h | h | h | h <;> (dsimp only at h; subst h)
  · show Calls Tryz.prog 102 #[.iface 9 (.string s)] w fun e w' => e = .returned (.bool true) ∧ w = w'
    have t1 := tx_str_str (.string s)
    have t2 := tx_str_rstr (.string s)
    have t3 := tx_str_sstr (.string s)
    go_enter Tryz.func102, Tryz.ntmps102
    go_wp2
    go_ret
    exact ⟨rfl, rfl⟩
  · show Calls Tryz.prog 102 #[.iface 142 (.agg #[.iface 9 (.string s)])] w fun e w' => e = .returned (.bool false) ∧ w = w'
    have t1 := tx_sw_str (.agg #[.iface 9 (.string s)])
    have t2 := tx_sw_rstr (.agg #[.iface 9 (.string s)])
    have t3 := tx_sw_sstr (.agg #[.iface 9 (.string s)])
    go_enter Tryz.func102, Tryz.ntmps102
    go_wp2
    go_ret
    exact ⟨rfl, rfl⟩
  · show Calls Tryz.prog 102 #[.iface 2 (.int .i64 n)] w fun e w' => e = .returned (.bool false) ∧ w = w'
    have t1 := tx_i64_str (.int .i64 n)
    have t2 := tx_i64_rstr (.int .i64 n)
    have t3 := tx_i64_sstr (.int .i64 n)
    go_enter Tryz.func102, Tryz.ntmps102
    go_wp2
    go_ret
    exact ⟨rfl, rfl⟩
  · show Calls Tryz.prog 102 #[.iface 142 (.agg #[.iface 2 (.int .i64 n)])] w fun e w' => e = .returned (.bool false) ∧ w = w'
    have t1 := tx_sw_str (.agg #[.iface 2 (.int .i64 n)])
    have t2 := tx_sw_rstr (.agg #[.iface 2 (.int .i64 n)])
    have t3 := tx_sw_sstr (.agg #[.iface 2 (.int .i64 n)])
    go_enter Tryz.func102, Tryz.ntmps102
    go_wp2
    go_ret
    exact ⟨rfl, rfl⟩
  · show Calls Tryz.prog 102 #[.iface 50 (.string s)] w fun e w' => e = .returned (.bool true) ∧ w = w'
    have t1 := tx_rstr_str (.string s)
    have t2 := tx_rstr_rstr (.string s)
    have t3 := tx_rstr_sstr (.string s)
    go_enter Tryz.func102, Tryz.ntmps102
    go_wp2
    go_ret
    exact ⟨rfl, rfl⟩
  · show Calls Tryz.prog 102 #[.iface 147 (.agg #[.iface 9 (.string s)])] w fun e w' => e = .returned (.bool false) ∧ w = w'
    have t1 := tx_uw_str (.agg #[.iface 9 (.string s)])
    have t2 := tx_uw_rstr (.agg #[.iface 9 (.string s)])
    have t3 := tx_uw_sstr (.agg #[.iface 9 (.string s)])
    go_enter Tryz.func102, Tryz.ntmps102
    go_wp2
    go_ret
    exact ⟨rfl, rfl⟩
section
variable {K : Nat → Prop} {w : World} {p : Nat} {o : List Nat}
theorem printArg_any (a : AArg) (verb : Int) (hv : verb = 118 ∨ verb = 115 ∧ (a.kind = 0 ∨ a.kind = 1 ∨ a.kind = 4 ∨ a.kind = 5) ∨ verb = 100 ∧ (a.kind = 2 ∨ a.kind = 3)) (ha : a.Ok) (h : Ps K w p o 0) (hg : GoodT o 40000) :
    Calls Tryz.prog 104 #[.pointer (some ⟨p, 0, none⟩), a.pv, .int .i32 verb] w (PsQ K p w (putN o a) 0) := by
  obtain ⟨k, s, n⟩ := a
  obtain ⟨hk, htx, hsf, hmk, hn0, hn1⟩ := ha
  dsimp only at hk htx hsf hmk hn0 hn1 hv
  rcases hk with rfl | rfl | rfl | rfl | rfl | rfl
  · exact printArg_0 s verb (by omega) htx h hg
  · exact printArg_1 s verb (by omega) htx (hsf rfl) h hg
  · exact printArg_2 n hn0 hn1 verb (by omega) h hg
  · exact printArg_3 n hn0 hn1 verb (by omega) h hg
  · exact printArg_4 s verb htx h hg
  · exact printArg_5 s verb (by omega) htx h hg
/-- v is a slice of interface values that reads xs, in a block that is kept. -/
def IfAt (K : Nat → Prop) (w : World) (v : Value) (xs : List Value) : Prop :=
  ∃ (q : Option Addr) (b o c : Nat), v = .slice q xs.length c ∧ xs.length ≤ c ∧ c ≤ 9223372036854775807 ∧ (xs = [] ∨ (q = some ⟨b, o, none⟩ ∧ K b)) ∧ ∀ j (h : j < xs.length), w.cell? ⟨b, o + j, none⟩ = some (xs[j]'h)
theorem und_ifs : Tryz.prog.underlying 55 = some (.slice (Tryz.prog.elem 55)) := by
  have e : Tryz.prog.elem 55 = 20 := by kernel_rfl
  rw [e]; exact Tryz.underlying55
theorem elem_ifs : Tryz.prog.elem 55 = 20 := by kernel_rfl
theorem IfAt.kp {w' : World} {v : Value} {xs : List Value} (h : IfAt K w v xs) (hb : Kp K w w') : IfAt K w' v xs := by
  obtain ⟨q, b, o, c, hv, hc, hm, hq, hx⟩ := h
  refine ⟨q, b, o, c, hv, hc, hm, hq, fun j hj => ?_⟩
  rcases hq with hq | hq
  · rw [hq] at hj; cases hj
  · exact (hb.cell hq.2 _).trans (hx j hj)
theorem IfAt.len {v : Value} {xs : List Value} (h : IfAt K w v xs) (ty : TypeId) : ∀ w', (Builtin.len_ #[55] ty #[v]).run Tryz.prog w' = .ok (.int .i64 xs.length) w' := by
  obtain ⟨q, b, o, c, rfl, hc, hm, hq, hx⟩ := h
  intro w'
  exact run_len_slice w' _ _ _ _ _ und_ifs
theorem IfAt.at_ {v : Value} {xs : List Value} (h : IfAt K w v xs) (i : Nat) (h1 : i < xs.length) :
    ∃ a : Addr, (∀ w', (Instr.indexAt 55 v (.int .i64 i)).run Tryz.prog w' = .ok (.pointer (some a)) w') ∧ ∀ W, IfAt K W v xs → W.cell? a = some (xs[i]'h1) := by
  obtain ⟨q, b, o, c, rfl, hc, hm, hq, hx⟩ := h
  have hl : xs ≠ [] := by intro hn; rw [hn] at h1; simp at h1
  rcases hq with hq | ⟨rfl, hK⟩
  · exact absurd hq hl
  · refine ⟨⟨b, o + i, none⟩, fun w' => ?_, ?_⟩
    · have h3 : ¬ xs.length ≤ i := by omega
      simp [Instr.indexAt, asIntOf, run_underlying und_ifs, elem_ifs, h3, add_plain]
    · rintro W ⟨q2, b2, o2, c2, hv, hc2, hm2, hq2, hx2⟩
      injection hv with e1 e2 e3
      rcases hq2 with hq2 | hq2
      · exact absurd hq2 hl
      · rw [hq2.1] at e1
        injection e1 with e1
        injection e1 with e1 e4 _
        subst e1; subst e4
        exact hx2 i h1
theorem setMode_ps (h : Ps K w p o 0) : Calls Tryz.prog 101 #[.pointer (some ⟨p, 0, none⟩), .int .i64 1] w (PsQ K p w o 0) := by
  obtain ⟨a, t, rfl, hn, h⟩ := h
  exact (setModeP_same h).mono fun e w' hq => PsQ.of a t rfl rfl hn hq
theorem writeBlank_ps (h : Ps K w p o 0) (hg : GoodT o 40000) : Calls Tryz.prog 103 #[.pointer (some ⟨p, 0, none⟩), .int .u8 32] w (PsQ K p w (o ++ [32]) 0) := by
  obtain ⟨a, t, rfl, hn, R, hR, h, hE⟩ := h
  have hle := hg.le
  rw [List.append_assoc]
  have := fbWriteByte 32 h (by omega) (fun h _ => by cases h) (fun h => by cases h)
  refine this.mono fun e w' hq => PsQ.of a (t ++ [32]) ?_ rfl (hn.append blank_noM) (PPQ.of_buf hR hE hq)
  rw [swl_1, ← List.append_assoc a t, encs_append (a ++ t), encs_one, encL_ascii 32 (by omega)]; rfl
theorem spr_step {o : List Nat} {prev : Option Bool} {l : List AArg} {k : Nat} {g : List Nat} (hk : k < l.length) (h : sprG o prev (l.drop k) = g) :
    sprG (putN (if prev == some false && !(l[k]'hk).isText then o ++ [32] else o) (l[k]'hk)) (some (l[k]'hk).isText) (l.drop (k + 1)) = g := by
  rw [List.drop_eq_getElem_cons hk] at h
  exact h
theorem smL_new : smL [] 0 0 false = [] := rfl
theorem sm_new : SM [] 0 0 false := ⟨.inl rfl, by simp, by show ([] : List UInt8).length ≤ _; simp, Nat.le_refl _, rfl, fun h => by cases h⟩
theorem setMode_new (h : PP K w p [] 0 0 false 0) : Calls Tryz.prog 101 #[.pointer (some ⟨p, 0, none⟩), .int .i64 1] w (PsQ K p w [] 0) := by
  have := setModeP 1 h (by decide) sm_new
  rw [smL_new] at this
  exact this.mono fun e w' hq => PsQ.of_whole (l := []) rfl hq
def prevB (prev : Option Bool) : Bool := prev.getD false
set_option maxHeartbeats 4000000 in
set_option maxRecDepth 100000 in
theorem doPrint_any (v : Value) (l : List AArg) (h : PP K w p [] 0 0 false 0) (hv : IfAt K w v (l.map AArg.pv)) (hl : l.length ≤ 10) (hok : ∀ a ∈ l, a.Ok) :
    Calls Tryz.prog 76 #[.pointer (some ⟨p, 0, none⟩), v] w (PsQ K p w (sprG [] none l) 0) := by
  have hlen := hv.len 3
  rw [List.length_map] at hlen
  generalize hG : sprG [] none l = g
  have HG := Lib.hid hG; clear hG
  have HV := Lib.hid hv; clear hv
  have HO := Lib.hid hok; clear hok
  have H := Lib.hid h; clear h
  have hz : (0 : Int) < 1 := by omega
  go_enter Tryz.func76, Tryz.ntmps76
  go_wp2_with fail
  refine (setMode_new H.out).mono ?_
  rintro e w1 ⟨rfl, h1, hb1⟩
  go_wp2_with fail
  go_loopw [15, 4] (fun i pr wr => ∃ (k : Nat) (prev : Option Bool) (o : List Nat), i = .int .i64 k ∧ pr = .bool (prevB prev) ∧ k ≤ l.length ∧ (prev = none → k = 0) ∧ Hid (sprG o prev (l.drop k) = g ∧ (prev ≠ none → 0 < k) ∧ GoodT o (411 * k)) ∧ Hid (Ps K wr p o 0) ∧ Hid (Kp K w wr))
    (fun i _ _ => l.length - (intOf i).toNat)
  case atStart => exact ⟨0, none, [], rfl, rfl, Nat.zero_le _, fun _ => rfl, ⟨HG.out, fun h => absurd rfl h, GoodT.nil⟩, h1.out, hb1⟩
  case round =>
    obtain ⟨k, prev, o, rfl, rfl, hk, hpk, hst, hps, hkp⟩ := hrel
    by_cases hlt : k < l.length
    · obtain ⟨qa, hix, hcell⟩ := HV.out.at_ k (by rw [List.length_map]; exact hlt)
      have hc := hcell wr (HV.out.kp hkp.out)
      clear hcell
      obtain ⟨x, hx⟩ : ∃ x, l[k]'hlt = x := ⟨_, rfl⟩
      rw [List.getElem_map, hx] at hc
      have HOK : Hid x.Ok := by rw [← hx]; exact HO.out _ (List.getElem_mem _)
      have HKD := Lib.hid HOK.out.kd
      have HST := Lib.hid (spr_step hlt hst.out.1)
      rw [hx] at HST
      clear hx
      have hg := hst.out.2.2
      have hg2 : GoodT o 40000 := hg.mono (by omega)
      have HGD := Lib.hid (And.intro hg hg2); clear hg hg2
      obtain ⟨tx, htx⟩ : ∃ tx, x.isText = tx := ⟨_, rfl⟩
      rw [htx] at HST
      have HT : Hid (∀ w, Calls Tryz.prog 102 #[x.pv] w fun e w' => e = .returned (.bool tx) ∧ w = w') := fun w => by rw [← htx]; exact isText_any x HKD.out w
      have HP : Hid (∀ (o : List Nat) (w : World), Ps K w p o 0 → GoodT o 40000 → Calls Tryz.prog 104 #[.pointer (some ⟨p, 0, none⟩), x.pv, .int .i32 118] w (PsQ K p w (putN o x) 0)) := fun o w h hg => printArg_any x 118 (.inl rfl) HOK.out h hg
      have HPG : Hid (∀ (o : List Nat) n, GoodT o n → GoodT (putN o x) (n + 410)) := fun o n h => h.put HOK.out
      clear HKD htx
      generalize hpv : x.pv = xv at hc HT HP
      clear hpv
      cases prev with
      | none =>
        have hk0 : decide (0 < k) = false := by have := hpk rfl; simp; omega
        clear hpk
        cases tx with
        | true =>
          have HST : Hid (sprG (putN o x) (some true) (l.drop (k + 1)) = g) := HST.out
          go_wp2_with fail
          refine (HT.out _).mono ?_
          rintro e w2 ⟨rfl, rfl⟩
          go_wp2_with fail
          refine (HP.out _ _ hps.out HGD.out.2).mono ?_
          rintro e w3 ⟨rfl, h3, hb3⟩
          go_wp2_with fail
          go_roundw
          case rel => exact ⟨k + 1, some true, _, by go_num, rfl, by omega, (fun h => by cases h), ⟨HST.out, fun _ => by omega, ((HPG.out _ _ HGD.out.1).mono (by omega))⟩, h3, (hkp.out.trans hb3)⟩
          case measure => simp [intOf]; omega
        | false =>
          have HST : Hid (sprG (putN o x) (some false) (l.drop (k + 1)) = g) := HST.out
          go_wp2_with fail
          refine (HT.out _).mono ?_
          rintro e w2 ⟨rfl, rfl⟩
          go_wp2_with fail
          refine (HP.out _ _ hps.out HGD.out.2).mono ?_
          rintro e w3 ⟨rfl, h3, hb3⟩
          go_wp2_with fail
          go_roundw
          case rel => exact ⟨k + 1, some false, _, by go_num, rfl, by omega, (fun h => by cases h), ⟨HST.out, fun _ => by omega, ((HPG.out _ _ HGD.out.1).mono (by omega))⟩, h3, (hkp.out.trans hb3)⟩
          case measure => simp [intOf]; omega
      | some b =>
        have hk0 : decide (0 < k) = true := by have := hst.out.2.1 (by simp); simp; omega
        clear hpk
        cases tx with
        | true =>
          have HST : Hid (sprG (putN o x) (some true) (l.drop (k + 1)) = g) := by have h := HST.out; simp only [Bool.not_true, Bool.and_false, Bool.false_eq_true, if_false] at h; exact h
          go_wp2_with fail
          refine (HT.out _).mono ?_
          rintro e w2 ⟨rfl, rfl⟩
          go_wp2_with fail
          refine (HP.out _ _ hps.out HGD.out.2).mono ?_
          rintro e w3 ⟨rfl, h3, hb3⟩
          go_wp2_with fail
          go_roundw
          case rel => exact ⟨k + 1, some true, _, by go_num, rfl, by omega, (fun h => by cases h), ⟨HST.out, fun _ => by omega, ((HPG.out _ _ HGD.out.1).mono (by omega))⟩, h3, (hkp.out.trans hb3)⟩
          case measure => simp [intOf]; omega
        | false =>
          cases b with
          | true =>
            have HST : Hid (sprG (putN o x) (some false) (l.drop (k + 1)) = g) := HST.out
            go_wp2_with fail
            refine (HT.out _).mono ?_
            rintro e w2 ⟨rfl, rfl⟩
            go_wp2_with fail
            refine (HP.out _ _ hps.out HGD.out.2).mono ?_
            rintro e w3 ⟨rfl, h3, hb3⟩
            go_wp2_with fail
            go_roundw
            case rel => exact ⟨k + 1, some false, _, by go_num, rfl, by omega, (fun h => by cases h), ⟨HST.out, fun _ => by omega, ((HPG.out _ _ HGD.out.1).mono (by omega))⟩, h3, (hkp.out.trans hb3)⟩
            case measure => simp [intOf]; omega
          | false =>
            have HST : Hid (sprG (putN (o ++ [32]) x) (some false) (l.drop (k + 1)) = g) := HST.out
            go_wp2_with fail
            refine (HT.out _).mono ?_
            rintro e w2 ⟨rfl, rfl⟩
            go_wp2_with fail
            refine (writeBlank_ps hps.out HGD.out.2).mono ?_
            rintro e w3 ⟨rfl, h3, hb3⟩
            have HK3 := Lib.hid (hkp.out.trans hb3)
            have HG3 := Lib.hid HGD.out.1.blank
            clear hb3
            go_wp2_with fail
            refine (HP.out _ _ h3.out (HG3.out.mono (by omega))).mono ?_
            rintro e w4 ⟨rfl, h4, hb4⟩
            go_wp2_with fail
            go_roundw
            case rel => exact ⟨k + 1, some false, _, by go_num, rfl, by omega, (fun h => by cases h), ⟨HST.out, fun _ => by omega, (HPG.out _ _ HG3.out).mono (by omega)⟩, h4, HK3.out.trans hb4⟩
            case measure => simp [intOf]; omega
    · have hfin : o = g := by
        have h := hst.out.1
        rw [List.drop_of_length_le (by omega)] at h
        exact h
      have HF := Lib.hid hfin; clear hfin
      go_wp2_with fail
      go_end0
      rw [← HF.out]
      exact ⟨rfl, hps.out, hkp.out⟩
end
end Go.Proofs.YtlmcglaajmjanaaGreatDoor

namespace Go.Proofs.YtlmcglaajmjanaaGreatDoor
open Go.RowKit
section
variable {K : Nat → Prop} {w : World} {p : Nat} {o : List Nat}
theorem initW_below (w : World) : Below w.heap.size w (initW (w.alloc (.cells Z0 89)).drew w.heap.size) := by
  unfold initW
  exact ((((((((((((Below.refl w.heap.size w).alloc (Nat.le_refl _) _).drew).setCell (p := ⟨w.heap.size, 6, none⟩) (Nat.le_refl _) _).setCell (p := ⟨w.heap.size, 7, none⟩) (Nat.le_refl _) _).setCell (p := ⟨w.heap.size, 8, none⟩) (Nat.le_refl _) _).setCell (p := ⟨w.heap.size, 9, none⟩) (Nat.le_refl _) _).setCell (p := ⟨w.heap.size, 10, none⟩) (Nat.le_refl _) _).setCell (p := ⟨w.heap.size, 11, none⟩) (Nat.le_refl _) _).setCell (p := ⟨w.heap.size, 12, none⟩) (Nat.le_refl _) _).setCell (p := ⟨w.heap.size, 13, none⟩) (Nat.le_refl _) _).setCell (p := ⟨w.heap.size, 14, none⟩) (Nat.le_refl _) _).setCell (p := ⟨w.heap.size, 15, none⟩) (Nat.le_refl _) _
/-- The tables stand, and the heap is behind them. -/
def TabW (w : World) : Prop := Tabs w ∧ 2 < w.heap.size
theorem TabW.below {w w' : World} (h : TabW w) (hb : Below w.heap.size w w') : TabW w' := ⟨h.1.below hb h.2, Nat.lt_of_lt_of_le h.2 hb.size⟩
theorem newPP_pp (w : World) (hT : TabW w) : PP (· < w.heap.size) (initW (w.alloc (.cells Z0 89)).drew w.heap.size) w.heap.size [] 0 0 false 0 := by
  obtain ⟨R, hR, hB⟩ := newPP (K := (· < w.heap.size)) w (fun k hk => hk)
  have h2 := hT.2
  exact ⟨R, hR, hB, show 1 < w.heap.size by omega, show 2 < w.heap.size by omega, h2, hT.1.below (initW_below w) h2⟩
theorem fin_1 {a t : List Nat} (hs : Scs (a ++ t)) (ht : NoM t) : finL (encs (a ++ t)) (encs a).length 1 false = encs (a ++ t) := by
  have := smL_1 hs ht
  exact this
def TkQ (K : Nat → Prop) (w : World) (l : List UInt8) (e : Ending) (w' : World) : Prop := ∃ y : ByteArray, e = .returned (.string y) ∧ Hid (y.data.toList = l) ∧ Kp K w w'
theorem take_ps (h : Ps K w p o 0) (hg : GoodT o 40000) : Calls Tryz.prog 77 #[.pointer (some ⟨p, 0, none⟩)] w (TkQ K w (encs o)) := by
  obtain ⟨a, t, rfl, hn, R, hR, h, hE⟩ := h
  have hle := hg.le
  have hf := fin_1 hg.sc hn
  have hfe : finE (encs (a ++ t)) (encs a).length 1 = encs (a ++ t) := smE_1 hg.sc hn
  refine (takeString_any h (.inr (.inl rfl)) (by omega) (by rw [hfe]; omega) (by rw [encs_append, List.length_append]; omega) hE.2.2.2 hE.2.2.1 (badEnd_enc hg.sc) (fun h => by cases h)).mono ?_
  rintro e w' ⟨y, he, hy, _, hk⟩
  rw [hf] at hy
  exact ⟨y, he, hy, hk⟩
/-- What Sprint returns. -/
def SprQ (w : World) (l : List UInt8) (e : Ending) (w' : World) : Prop := ∃ y : ByteArray, e = .returned (.string y) ∧ Hid (y.data.toList = l) ∧ Below w.heap.size w w'
set_option maxRecDepth 100000 in
theorem rfmtSprint_any (v : Value) (l : List AArg) (w : World) (hT : TabW w) (hv : IfAt (· < w.heap.size) w v (l.map AArg.pv)) (hl : l.length ≤ 10) (hok : ∀ a ∈ l, a.Ok) :
    Calls Tryz.prog 49 #[v] w (SprQ w (encs (sprG [] none l))) := by
  have hP := newPP_pp w hT
  have hK0 : Kp (· < w.heap.size) w (initW (w.alloc (.cells Z0 89)).drew w.heap.size) := Kp.of_below (fun _ h => h) (initW_below w)
  have HD := Lib.hid (doPrint_any v l hP (hv.kp hK0) hl hok)
  have HG := Lib.hid ((GoodT.spr l [] none 0 GoodT.nil hok).mono (show 0 + 411 * l.length ≤ 40000 by omega))
  have HK0 := Lib.hid hK0
  have HT := Lib.hid hT
  clear hP hK0 hv hok hT
  generalize sprG [] none l = g at HD HG
  generalize hW : initW (w.alloc (.cells Z0 89)).drew w.heap.size = W at HD HK0
  have HW := Lib.hid hW; clear hW
  go_enter Tryz.func49, Tryz.ntmps49
  go_wp2_with fail
  refine (newPrinter_any w).mono ?_
  rintro e w1 ⟨rfl, hw1⟩
  obtain rfl : w1 = W := hw1.trans HW.out
  clear hw1
  go_wp2_with fail
  refine HD.out.mono ?_
  rintro e w2 ⟨rfl, h2, hb2⟩
  go_wp2_with fail
  refine (take_ps h2.out HG.out).mono ?_
  rintro e w3 ⟨y, rfl, hy, hb3⟩
  go_wp2_with fail
  go_ret
  exact ⟨y, rfl, hy, (HK0.out.trans (hb2.trans hb3)).below⟩
end
end Go.Proofs.YtlmcglaajmjanaaGreatDoor
