/- Walks of package impl: valueOf, valuesOf. -/
/- Walks of package impl: argsOk, at arguments that are taken. -/
/- Walks of package impl: argsOk, tried, Sprint. -/
import Derived.Test.YtlmcglaajmjanaaGreatDoorZi
import Derived.Deep.OwnRows
import Derived.Deep.DeepCutAuto
namespace Go.Proofs.YtlmcglaajmjanaaGreatDoor
open Go.RowKit
theorem safe_any {t : TypeId} (x : Value) (w : World) : Calls Tryz.prog 105 #[.iface t x] w fun e w' => e = .returned (.iface 142 (.agg #[.iface t x])) ∧ w = w' := by
  go_enter Tryz.func105, Tryz.ntmps105
  go_wp2
  go_ret
  exact ⟨rfl, rfl⟩
theorem unsafe_any' {t : TypeId} (x : Value) (w : World) : Calls Tryz.prog 106 #[.iface t x] w fun e w' => e = .returned (.iface 147 (.agg #[.iface t x])) ∧ w = w' := by
  go_enter Tryz.func106, Tryz.ntmps106
  go_wp2
  go_ret
  exact ⟨rfl, rfl⟩
def ValQ (v : Value) (w : World) (e : Ending) (w' : World) : Prop := e = .returned v ∧ Below w.heap.size w w'
theorem valueOf_any (a : AArg) (h : a.kind = 0 ∨ a.kind = 1 ∨ a.kind = 2 ∨ a.kind = 3 ∨ a.kind = 4 ∨ a.kind = 5) (w : World) : Calls Tryz.prog 78 #[a.val] w (ValQ a.pv w) := by
  obtain ⟨k, s, n⟩ := a
  rcases h with h | h | h | h | h | h <;> (dsimp only at h; subst h)
  · show Calls Tryz.prog 78 #[.agg #[.int .i64 0, .string s, .int .i64 n]] w (ValQ (.iface 9 (.string s)) w)
    go_enter Tryz.func78, Tryz.ntmps78
    go_wp2_with (fail)
    go_ret
    exact ⟨rfl, (Below.refl _ _).alloc (Nat.le_refl _) _⟩
  · show Calls Tryz.prog 78 #[.agg #[.int .i64 1, .string s, .int .i64 n]] w (ValQ (.iface 142 (.agg #[.iface 9 (.string s)])) w)
    go_enter Tryz.func78, Tryz.ntmps78
    go_wp2_with (go_at_call 105; refine (safe_any _ _).mono ?_; rintro e w' ⟨rfl, rfl⟩)
    go_ret
    exact ⟨rfl, (Below.refl _ _).alloc (Nat.le_refl _) _⟩
  · show Calls Tryz.prog 78 #[.agg #[.int .i64 2, .string s, .int .i64 n]] w (ValQ (.iface 2 (.int .i64 n)) w)
    go_enter Tryz.func78, Tryz.ntmps78
    go_wp2_with (fail)
    go_ret
    exact ⟨rfl, (Below.refl _ _).alloc (Nat.le_refl _) _⟩
  · show Calls Tryz.prog 78 #[.agg #[.int .i64 3, .string s, .int .i64 n]] w (ValQ (.iface 142 (.agg #[.iface 2 (.int .i64 n)])) w)
    go_enter Tryz.func78, Tryz.ntmps78
    go_wp2_with (go_at_call 105; refine (safe_any _ _).mono ?_; rintro e w' ⟨rfl, rfl⟩)
    go_ret
    exact ⟨rfl, (Below.refl _ _).alloc (Nat.le_refl _) _⟩
  · show Calls Tryz.prog 78 #[.agg #[.int .i64 4, .string s, .int .i64 n]] w (ValQ (.iface 50 (.string s)) w)
    go_enter Tryz.func78, Tryz.ntmps78
    go_wp2_with (fail)
    go_ret
    exact ⟨rfl, (Below.refl _ _).alloc (Nat.le_refl _) _⟩
  · show Calls Tryz.prog 78 #[.agg #[.int .i64 5, .string s, .int .i64 n]] w (ValQ (.iface 147 (.agg #[.iface 9 (.string s)])) w)
    go_enter Tryz.func78, Tryz.ntmps78
    go_wp2_with (go_at_call 106; refine (unsafe_any' _ _).mono ?_; rintro e w' ⟨rfl, rfl⟩)
    go_ret
    exact ⟨rfl, (Below.refl _ _).alloc (Nat.le_refl _) _⟩
theorem Tryz.infoI : (Tryz.prog.info? 20).map (fun i => (i.zero, i.size, i.bytes)) = some (some .nilIface, 1, 16) := by kernel_rfl
/-- v is a slice of interface values xs that the call owns. -/
def OwnI (w : World) (B : Nat) (v : Value) (xs : List Value) : Prop := w.ownsRow B 20 1 v xs.length xs
theorem OwnI.nil (w : World) (B : Nat) : OwnI w B (.slice none 0 0) [] := World.ownsRow_nil _ _ _ _
theorem OwnI.below {w w' : World} {B : Nat} {v : Value} {l : List Value} (h : OwnI w B v l) (hb : Below w.heap.size w w') : OwnI w' B v l := by
  obtain ⟨h1, h2⟩ := h
  refine ⟨h1, ?_⟩
  rcases h2 with h2 | ⟨g, cap, cur, hv, hg, hh, r⟩
  · exact .inl h2
  · exact .inr ⟨g, cap, cur, hv, hg, by rw [hb.block g (Array.getElem?_eq_some_iff.1 hh).1]; exact hh, r⟩
theorem OwnI.blk {w : World} {B : Nat} {v : Value} {l : List Value} (h : OwnI w B v l) : ∀ k, v.ownBlock = some k → B ≤ k := by
  intro k hk
  rcases h.2 with ⟨rfl, _⟩ | ⟨g, cap, cur, rfl, hg, _⟩
  · simp [Value.ownBlock] at hk
  · simp [Value.ownBlock] at hk; omega
theorem OwnI.ifAt {w : World} {B : Nat} {v : Value} {l : List Value} (h : OwnI w B v l) : IfAt (· < w.heap.size) w v l := by
  obtain ⟨h1, h2⟩ := h
  rcases h2 with ⟨rfl, hn⟩ | ⟨g, cap, cur, rfl, hg, hb, hc, hm, hs, ht⟩
  · have hl : l = [] := List.eq_nil_of_length_eq_zero hn
    subst hl
    exact ⟨none, 0, 0, 0, rfl, Nat.le_refl _, by omega, .inl rfl, fun j hj => by cases hj⟩
  · refine ⟨_, g, 0, cap, rfl, hc, by unfold maxLen at hm; omega, .inr ⟨rfl, (Array.getElem?_eq_some_iff.1 hb).1⟩, fun j hj => ?_⟩
    have e : (cur.toList.take (l.length * 1))[j]? = l[j]? := by rw [ht]
    simp [World.cell?, hb]
    rw [List.getElem?_take_of_lt (by omega)] at e
    rw [Array.getElem?_toList] at e
    rw [e]; simp [hj]
theorem wpList_appendI_known (w : World) {ops : Array Oper} {rest : List Oper} {o : Oper} {a : Act} {Q : Exit → Act → World → Prop} (hgd : o.guard = none) (s x : Operand)
    (ho : o.op = .call { callee := .builtin .append, args := #[s, x], argTypes := #[55, 55] }) (v u : Value) (hs : a.eval s = v) (hx : a.eval x = u) {v' : Value} {w' : World}
    (hr : (Builtin.append_ #[55, 55] o.type #[v, u]).run Tryz.prog w = .ok v' w') (h : wpList Tryz.prog ops Q rest (a.put o.dst v') w') : wpList Tryz.prog ops Q (o :: rest) a w := by
  refine wpList_plain hgd fun K hK => ?_
  unfold Oper.wp execOp
  simp only [ho, resolve, invoke, builtin, Sem.run_bind, Sem.run_pure, Result.andThen_ok, List.map_toArray, List.map_cons, List.map_nil, hs, hx, hr]
  exact hK _ _ h
theorem OwnI.append {w : World} {B : Nat} {v x : Value} {l : List Value} (h : OwnI w B v l) (a : Addr) (ha : w.cell? a = some x) (h1 : x.oneCell' = true) (hsz : l.length + 1 ≤ 100000) (hB : B ≤ w.heap.size) (ty : TypeId) :
    ∃ v' w', (Builtin.append_ #[55, 55] ty #[v, .slice (some a) 1 1]).run Tryz.prog w = .ok v' w' ∧ OwnI w' B v' (l ++ [x]) ∧ w.grownBy w' v.ownBlock := by
  obtain ⟨i0, hi, hz0, hz1, hz2⟩ := info_parts Tryz.infoI
  obtain ⟨v', w', hr, ho, hg, _⟩ := run_append_own (P := Tryz.prog) w B 55 ty 20 i0 .nilIface 1 16 Tryz.underlying55 hi hz0 hz1 hz2 rfl (by decide) v l.length l h
    a 1 1 [x] rfl (fun j u hj => by
      cases j with
      | zero => cases hj; rw [show a.add 0 = a by unfold Addr.add; simp]; exact ha
      | succ j => simp at hj) (fun u hu => by simp at hu; subst hu; exact h1) (by unfold maxLen; omega) (by omega) hB
  exact ⟨v', w', hr, by unfold OwnI; rw [List.length_append]; exact ho, hg⟩
theorem pv_iface (a : AArg) : ∃ t y, a.pv = .iface t y := by
  unfold AArg.pv
  repeat' split
  all_goals exact ⟨_, _, rfl⟩
theorem pv_one (a : AArg) : a.pv.oneCell' = true := by
  unfold AArg.pv
  repeat' split
  all_goals rfl
def ValsQ (xs : List Value) (w : World) (e : Ending) (w' : World) : Prop := ∃ v, e = .returned v ∧ Hid (IfAt (· < w'.heap.size) w' v xs) ∧ Below w.heap.size w w'
def Kinds (l : List AArg) : Prop := ∀ a ∈ l, a.kind = 0 ∨ a.kind = 1 ∨ a.kind = 2 ∨ a.kind = 3 ∨ a.kind = 4 ∨ a.kind = 5
set_option maxHeartbeats 2000000 in
theorem valuesOf_any (v : Value) (l : List AArg) (w : World) (hA : ArgsAt w v l) (hl : l.length ≤ 20) (hk : Kinds l) : Calls Tryz.prog 50 #[v] w (ValsQ (l.map AArg.pv) w) := by
  have hlen := fun ty => hA.len ty
  have HA := Lib.hid hA; clear hA
  have HK := Lib.hid hk; clear hk
  go_enter Tryz.func50, Tryz.ntmps50
  go_wp2_with fail
  go_loopw [8, 3] (fun i ov wr => ∃ k : Nat, i = .int .i64 k ∧ k ≤ l.length ∧ Hid (OwnI wr w.heap.size ov ((l.take k).map AArg.pv)) ∧ Below w.heap.size w wr)
    (fun i _ _ => l.length - (intOf i).toNat)
  case atStart => exact ⟨0, rfl, Nat.zero_le _, OwnI.nil _ _, Below.refl _ _⟩
  case round =>
    obtain ⟨k, rfl, hk, hown, hnx⟩ := hrel
    by_cases hlt : k < l.length
    · obtain ⟨qb, qo, hix, hld0⟩ := HA.out.at_ k hlt
      obtain ⟨c0, c1, c2⟩ := hld0 wr (HA.out.below hnx)
      clear hld0
      have hkd := HK.out _ (List.getElem_mem hlt)
      have HTK : Hid ((l.take (k + 1)).map AArg.pv = (l.take k).map AArg.pv ++ [(l[k]'hlt).pv]) := by
        rw [List.take_succ_eq_append_getElem hlt, List.map_append]; rfl
      obtain ⟨kd, tx, nn, hx⟩ : ∃ kd tx nn, l[k]'hlt = ⟨kd, tx, nn⟩ := ⟨_, _, _, rfl⟩
      rw [hx] at c0 c1 c2 hkd HTK
      dsimp only at c0 c1 c2
      clear hx
      have HV := Lib.hid (valueOf_any ⟨kd, tx, nn⟩ hkd)
      clear hkd
      obtain ⟨t, y, hpv⟩ := pv_iface ⟨kd, tx, nn⟩
      rw [hpv] at HV HTK
      clear hpv
      have hwz := hnx.size
      go_wp2_with fail
      refine (HV.out _).mono ?_
      rintro e w2 ⟨rfl, hb2⟩
      have hb0 : Below wr.heap.size wr w2 := ((Below.refl _ wr).alloc (Nat.le_refl _) _).trans (hb2.mono (by simp))
      clear hb2 c0 c1 c2 hix
      have hb3 : Below wr.heap.size wr (w2.alloc (.cells #[.iface t y] 20)) := hb0.alloc hb0.size _
      obtain ⟨v', w3, hap, hown3, hgrow⟩ := (hown.out.below hb3).append ⟨w2.heap.size, 0, none⟩ (x := .iface t y) (cell_new _ _ _ _) rfl (by simp; omega) (Nat.le_trans hwz hb3.size) 55
      have HAP := Lib.hid hap; clear hap
      have HNX := Lib.hid ((hnx.trans (hb3.mono hwz)).grown hgrow (Nat.le_trans hwz hb3.size) (hown.out.blk))
      clear hgrow hb0 hb3
      rw [← HTK.out] at hown3
      have HOWN3 := Lib.hid hown3; clear hown3
      clear HTK HV
      go_wp2_with (at_builtin; refine wpList_appendI_known _ rfl _ _ rfl _ _ rfl rfl HAP.out ?_)
      go_roundw
      case rel => exact ⟨k + 1, by go_num, by omega, HOWN3.out, HNX.out⟩
      case measure => simp [intOf]; omega
    · obtain rfl : k = l.length := by omega
      have ho := hown.out
      rw [List.take_length] at ho
      have HO := Lib.hid ho; clear ho hown
      go_wp2_with fail
      go_ret
      exact ⟨_, rfl, HO.out.ifAt, hnx⟩
end Go.Proofs.YtlmcglaajmjanaaGreatDoor

namespace Go.Proofs.YtlmcglaajmjanaaGreatDoor
open Go.RowKit
/-- An argument that impl takes, of so many kinds. -/
structure Taken (kinds : Int) (a : AArg) : Prop where
  k0 : 0 ≤ a.kind
  k1 : a.kind < kinds
  tx : a.text.size ≤ 400
  nn : 7 ≤ a.kind → 0 ≤ a.n ∧ a.n ≤ 127
set_option maxHeartbeats 1000000 in
theorem argOk1_low (k : Int) (s : ByteArray) (n : Int) (kinds : Int) (kb : Nat) (w : World) (hc : w.cell? ⟨kb, 0, none⟩ = some (.int .i64 kinds)) (h0 : 0 ≤ k) (h1 : k < kinds) (hs : s.size ≤ 400) (h7 : k < 7) :
    Calls Tryz.prog 72 #[.agg #[.int .i64 k, .string s, .int .i64 n], .pointer (some ⟨kb, 0, none⟩)] w (ValQ (.bool false) w) := by
  have hkb := World.block_lt_of_cell? w _ hc
  have d1 : decide (k < 0) = false := by simp; omega
  have d2 : decide (kinds ≤ k) = false := by simp; omega
  have d3 : decide (400 < (s.size : Int)) = false := by simp; omega
  have d4 : decide (7 ≤ k) = false := by simp; omega
  have d5 : decide (9 ≤ k) = false := by simp; omega
  go_enter Tryz.func72, Tryz.ntmps72
  go_wp2_with fail
  go_ret
  exact ⟨rfl, (Below.refl _ _).alloc (Nat.le_refl _) _⟩
theorem validRune_ascii (n : Int) (h0 : 0 ≤ n) (h1 : n ≤ 127) : Lib.validRune n = true := by
  unfold Lib.validRune
  simp; omega
set_option maxHeartbeats 1000000 in
theorem argOk1_mid (k : Int) (s : ByteArray) (n : Int) (kinds : Int) (kb : Nat) (w : World) (hc : w.cell? ⟨kb, 0, none⟩ = some (.int .i64 kinds)) (h1 : k < kinds) (hs : s.size ≤ 400) (h7 : 7 ≤ k) (h8 : k ≤ 8) (n0 : 0 ≤ n) (n1 : n ≤ 127) :
    Calls Tryz.prog 72 #[.agg #[.int .i64 k, .string s, .int .i64 n], .pointer (some ⟨kb, 0, none⟩)] w (ValQ (.bool false) w) := by
  have hkb := World.block_lt_of_cell? w _ hc
  have d1 : decide (k < 0) = false := by simp; omega
  have d2 : decide (kinds ≤ k) = false := by simp; omega
  have d3 : decide (400 < (s.size : Int)) = false := by simp; omega
  have d4 : decide (7 ≤ k) = true := by simp; omega
  have d4' : decide (k ≤ 8) = true := by simp; omega
  have d5 : decide (9 ≤ k) = false := by simp; omega
  have d6 : decide (n < 0) = false := by simp; omega
  have d7 : decide (1114111 < n) = false := by simp; omega
  have HV := Lib.hid (validRune_ascii n n0 n1)
  go_enter Tryz.func72, Tryz.ntmps72
  go_wp2_with fail
  refine (Tryz.utf8_ValidRune _ _).mono ?_
  rw [HV.out]
  rintro e w' ⟨rfl, rfl⟩
  go_wp2_with fail
  go_ret
  exact ⟨rfl, (Below.refl _ _).alloc (Nat.le_refl _) _⟩
set_option maxHeartbeats 1000000 in
theorem argOk1_high (k : Int) (s : ByteArray) (n : Int) (kinds : Int) (kb : Nat) (w : World) (hc : w.cell? ⟨kb, 0, none⟩ = some (.int .i64 kinds)) (h1 : k < kinds) (hs : s.size ≤ 400) (h9 : 9 ≤ k) (n0 : 0 ≤ n) (n1 : n ≤ 127) :
    Calls Tryz.prog 72 #[.agg #[.int .i64 k, .string s, .int .i64 n], .pointer (some ⟨kb, 0, none⟩)] w (ValQ (.bool false) w) := by
  have hkb := World.block_lt_of_cell? w _ hc
  have d1 : decide (k < 0) = false := by simp; omega
  have d2 : decide (kinds ≤ k) = false := by simp; omega
  have d3 : decide (400 < (s.size : Int)) = false := by simp; omega
  have d4 : decide (7 ≤ k) = true := by simp; omega
  have d4' : decide (k ≤ 8) = false := by simp; omega
  have d5 : decide (9 ≤ k) = true := by simp; omega
  have d6 : decide (n < 0) = false := by simp; omega
  have d7 : decide (255 < n) = false := by simp; omega
  go_enter Tryz.func72, Tryz.ntmps72
  go_wp2_with fail
  go_ret
  exact ⟨rfl, (Below.refl _ _).alloc (Nat.le_refl _) _⟩
theorem argOk1_any (a : AArg) (kinds : Int) (kb : Nat) (w : World) (hc : w.cell? ⟨kb, 0, none⟩ = some (.int .i64 kinds)) (h : Taken kinds a) :
    Calls Tryz.prog 72 #[.agg #[.int .i64 a.kind, .string a.text, .int .i64 a.n], .pointer (some ⟨kb, 0, none⟩)] w (ValQ (.bool false) w) := by
  by_cases h7 : a.kind < 7
  · exact argOk1_low _ _ _ kinds kb w hc h.k0 h.k1 h.tx h7
  · have hn := h.nn (by omega)
    by_cases h9 : 9 ≤ a.kind
    · exact argOk1_high _ _ _ kinds kb w hc h.k1 h.tx h9 hn.1 hn.2
    · exact argOk1_mid _ _ _ kinds kb w hc h.k1 h.tx (by omega) (by omega) hn.1 hn.2
def AllTaken (kinds : Int) (l : List AArg) : Prop := ∀ a ∈ l, Taken kinds a
set_option maxHeartbeats 2000000 in
theorem indexFunc_no (v : Value) (l : List AArg) (kinds : Int) (kb : Nat) (w : World) (hA : ArgsAt w v l) (hc : w.cell? ⟨kb, 0, none⟩ = some (.int .i64 kinds)) (hl : l.length ≤ 20) (ht : AllTaken kinds l) :
    Calls Tryz.prog 99 #[v, .func (.func 72) #[] #[.pointer (some ⟨kb, 0, none⟩)]] w (ValQ (.int .i64 (-1)) w) := by
  have hlen := fun ty => hA.len ty
  have HA := Lib.hid hA; clear hA
  have HT := Lib.hid ht; clear ht
  have HC := Lib.hid hc; clear hc
  go_enter Tryz.func99, Tryz.ntmps99
  go_wp2_with fail
  go_loopw [8] (fun i wr => ∃ k : Nat, i = .int .i64 k ∧ k ≤ l.length ∧ Below w.heap.size w wr)
    (fun i _ => l.length - (intOf i).toNat)
  case atStart => exact ⟨0, rfl, Nat.zero_le _, Below.refl _ _⟩
  case round =>
    obtain ⟨k, rfl, hk, hnx⟩ := hrel
    by_cases hlt : k < l.length
    · obtain ⟨qb, qo, hix, hld0⟩ := HA.out.at_ k hlt
      obtain ⟨c0, c1, c2⟩ := hld0 wr (HA.out.below hnx)
      clear hld0
      have htk := HT.out _ (List.getElem_mem hlt)
      obtain ⟨x, hx⟩ : ∃ x, l[k]'hlt = x := ⟨_, rfl⟩
      rw [hx] at c0 c1 c2 htk
      clear hx
      have hwz := hnx.size
      have HV := Lib.hid (argOk1_any x kinds kb wr ((hnx.cell (p := ⟨kb, 0, none⟩) (World.block_lt_of_cell? w _ HC.out)).trans HC.out) htk)
      clear htk
      obtain ⟨kd, tx, nn⟩ := x
      dsimp only at c0 c1 c2 HV
      go_wp2_with fail
      refine HV.out.mono ?_
      rintro e w2 ⟨rfl, hb2⟩
      go_wp2_with fail
      go_roundw
      case rel => exact ⟨k + 1, by go_num, by omega, hnx.trans (hb2.mono hwz)⟩
      case measure => simp [intOf]; omega
    · go_wp2_with fail
      go_ret
      exact ⟨rfl, hnx⟩
end Go.Proofs.YtlmcglaajmjanaaGreatDoor

namespace Go.Proofs.YtlmcglaajmjanaaGreatDoor
open Go.RowKit
theorem contains_no (v : Value) (l : List AArg) (kinds : Int) (kb : Nat) (w : World) (hA : ArgsAt w v l) (hc : w.cell? ⟨kb, 0, none⟩ = some (.int .i64 kinds)) (hl : l.length ≤ 20) (ht : AllTaken kinds l) :
    Calls Tryz.prog 71 #[v, .func (.func 72) #[] #[.pointer (some ⟨kb, 0, none⟩)]] w (ValQ (.bool false) w) := by
  have HI := Lib.hid (indexFunc_no v l kinds kb w hA hc hl ht)
  clear hA hc ht
  go_enter Tryz.func71, Tryz.ntmps71
  go_wp2_with fail
  refine HI.out.mono ?_
  rintro e w2 ⟨rfl, hb2⟩
  go_wp2_with fail
  go_ret
  exact ⟨rfl, hb2⟩
theorem argsOk_yes (v : Value) (l : List AArg) (kinds : Int) (w : World) (hA : ArgsAt w v l) (hl : l.length ≤ 20) (ht : AllTaken kinds l) :
    Calls Tryz.prog 46 #[v, .int .i64 kinds] w (ValQ (.bool true) w) := by
  have hlen := fun ty => hA.len ty
  have hmf : ∀ (fn : Fn) (first cap : Array Value) (w : World), (Instr.makeFunc fn first cap).run Tryz.prog w = .ok (.func fn first cap) w := fun _ _ _ _ => rfl
  have hdl : decide ((l.length : Int) ≤ 20) = true := by simp; omega
  have HC := Lib.hid (contains_no v l kinds w.heap.size (w.alloc (.cells #[.int .i64 kinds] 3)) (hA.below ((Below.refl _ w).alloc (Nat.le_refl _) _)) (cell_new _ _ _ _) hl ht)
  clear hA ht
  go_enter Tryz.func46, Tryz.ntmps46
  go_wp2_with fail
  refine HC.out.mono ?_
  rintro e w2 ⟨rfl, hb2⟩
  go_wp2_with fail
  go_ret
  exact ⟨rfl, ((Below.refl _ w).alloc (Nat.le_refl _) _).trans (hb2.mono (by simp))⟩
/-- tried's own closure, where nothing panicked. -/
theorem tried1_idle (w : World) (r : Nat) :
    CallsD Tryz.prog 74 #[.pointer (some ⟨r, 0, none⟩)] .returning w fun e u' w' => e = .returned (.tuple #[]) ∧ u' = .returning ∧ w' = w := by
  refine callsD_of_wpS Tryz.func74 rfl fun c₀ cs hu => ?_
  apply wpS_seq
  apply wpS_region
  simp [wpOpsS, go_sem, recoverD, hu, Tryz.ntmps74, Exit.thenS]
  refine wpS_cond (t := false) (by simp [Act.eval, Array.replicate]) ?_
  simp only [Bool.false_eq_true, if_false]
  refine wpS_of_wp (wp_skip ?_)
  cases c₀
  simp_all [bodyPostS, results, Tryz.results74]
/-- All old blocks but ob. -/
def But (w : World) (ob : Nat) (k : Nat) : Prop := k < w.heap.size ∧ k ≠ ob
/-- What a closure leaves that lays its answer into the variable at ob. -/
def CloQ (ob : Nat) (l : List UInt8) (w : World) (e : Ending) (w' : World) : Prop := ∃ y : ByteArray, e = .returned (.tuple #[]) ∧ Hid (y.data.toList = l) ∧ w'.cell? ⟨ob, 0, none⟩ = some (.string y) ∧ Kp (But w ob) w w'
theorem cell_set {w : World} {b i : Nat} {x v : Value} (h : w.cell? ⟨b, i, none⟩ = some x) : (w.setCell ⟨b, i, none⟩ v).cell? ⟨b, i, none⟩ = some v := World.cell?_setCell_same _ _ _ h
theorem sprintClo_any (v : Value) (l : List AArg) (lb ob : Nat) (s0 : ByteArray) (w : World) (hT : TabW w) (hA : ArgsAt w v l) (hl : l.length ≤ 10) (hok : ∀ a ∈ l, a.Ok)
    (cl : w.cell? ⟨lb, 0, none⟩ = some v) (co : w.cell? ⟨ob, 0, none⟩ = some (.string s0)) (fo : w.frozen? ⟨ob, 0, none⟩ = false) :
    Calls Tryz.prog 48 #[.pointer (some ⟨lb, 0, none⟩), .pointer (some ⟨ob, 0, none⟩)] w (CloQ ob (encs (sprG [] none l)) w) := by
  have hob := World.block_lt_of_cell? w _ co
  have HV := Lib.hid (valuesOf_any v l w hA (by omega) (fun a ha => (hok a ha).kd))
  have HOK := Lib.hid hok
  have HT := Lib.hid hT
  clear hA hok hT
  generalize hg : encs (sprG [] none l) = g
  have HG := Lib.hid hg; clear hg
  go_enter Tryz.func48, Tryz.ntmps48
  go_wp2_with fail
  refine HV.out.mono ?_
  rintro e w1 ⟨v1, rfl, hi, hb1⟩
  have HS := Lib.hid (rfmtSprint_any v1 l w1 (HT.out.below hb1) hi.out hl HOK.out)
  rw [HG.out] at HS
  clear hi
  go_wp2_with fail
  refine HS.out.mono ?_
  rintro e w2 ⟨y, rfl, hy, hb2⟩
  have hb := hb1.trans (hb2.mono hb1.size)
  have co2 := (hb.cell (p := ⟨ob, 0, none⟩) hob).trans co
  have fo2 := (hb.frozen (p := ⟨ob, 0, none⟩) hob).trans fo
  clear hb1 hb2 co fo
  go_wp2_with fail
  first | go_end0 | ((try simp only [Exit.inBlock, Exit.then]); refine bodyPost_ret (results_none rfl _ _ _) rfl ?_)
  exact ⟨y, rfl, hy, cell_set co2, (Kp.of_below (fun k hk => hk.1) hb).setCell (fun hk => hk.2 rfl) _ _⟩
/-- What tried leaves. -/
def TriQ (ob : Nat) (l : List UInt8) (w : World) (e : Ending) (w' : World) : Prop := ∃ y : ByteArray, e = .returned (.bool true) ∧ Hid (y.data.toList = l) ∧ w'.cell? ⟨ob, 0, none⟩ = some (.string y) ∧ Kp (But w ob) w w'
theorem tried_sprint (lb : Nat) (ob : Nat) (l : List UInt8) (w : World) (hob : ob < w.heap.size)
    (hC : Calls Tryz.prog 48 #[.pointer (some ⟨lb, 0, none⟩), .pointer (some ⟨ob, 0, none⟩)] (w.alloc (.cells #[.bool false] 4)) (CloQ ob l (w.alloc (.cells #[.bool false] 4)))) :
    Calls Tryz.prog 47 #[.func (.func 48) #[] #[.pointer (some ⟨lb, 0, none⟩), .pointer (some ⟨ob, 0, none⟩)]] w (TriQ ob l w) := by
  have hmf : ∀ (fn : Fn) (first cap : Array Value) (w : World), (Instr.makeFunc fn first cap).run Tryz.prog w = .ok (.func fn first cap) w := fun _ _ _ _ => rfl
  have HC := Lib.hid hC; clear hC
  go_enter_defers Tryz.func47, Tryz.ntmps47
  go_wp2_with fail
  refine HC.out.mono ?_
  rintro e w1 ⟨y, rfl, hy, hcy, hb⟩
  have hrb : But (w.alloc (.cells #[.bool false] 4)) ob w.heap.size := ⟨by simp, by omega⟩
  have hr : w1.cell? ⟨w.heap.size, 0, none⟩ = some (.bool false) := (hb.cell hrb 0).trans (cell_new _ _ _ _)
  have hf : w1.frozen? ⟨w.heap.size, 0, none⟩ = false := (hb.frozen hrb 0).trans (frozen_new _ _ _ _)
  have HY := Lib.hid (And.intro hcy hb); clear hcy hb
  go_wp2_with fail
  refine leaves_cons (f := 74) (args := #[.pointer (some ⟨w.heap.size, 0, none⟩)]) (by simp) (by simp [go_sem]) ?_
  refine (tried1_idle _ _).mono ?_
  rintro e u' w'' ⟨rfl, rfl, rfl⟩
  have hcell := cell_set (v := .bool true) hr
  simp only [Leaves, settle]
  refine ⟨.bool true, by simp [results, Tryz.results47, go_sem, hr], y, rfl, hy, ?_, ?_⟩
  · exact (World.cell?_of_block (Below.heap_setCell _ _ _ _ (show ob ≠ w.heap.size by omega))).trans HY.out.1
  · exact (((Kp.of_below (fun k hk => hk.1) ((Below.refl _ w).alloc (Nat.le_refl _) _) : Kp (But w ob) w _)).trans (HY.out.2.anti fun k hk => ⟨Nat.lt_of_lt_of_le hk.1 (by simp), hk.2⟩)).setCell (fun hk => Nat.lt_irrefl _ hk.1) _ _
theorem ArgsAt.slice_ {w : World} {v : Value} {l : List AArg} (h : ArgsAt w v l) : ∃ q n c, v = .slice q n c := by
  obtain ⟨p, a, c, rfl, _⟩ := h
  exact ⟨_, _, _, rfl⟩
/-- From the frame of what changes the variable at ob alone to that of what changes nothing old. -/
theorem Kp.below_but {w w0 w' : World} {B ob : Nat} (hb : Below B w w0) (hB : B ≤ w0.heap.size) (ho : B ≤ ob) (h : Kp (But w0 ob) w0 w') : Below B w w' :=
  hb.trans ⟨h.os, h.tape, h.output, h.size, fun k hk => h.block k ⟨by omega, by omega⟩⟩
theorem AArg.Ok.taken {a : AArg} (h : a.Ok) : Taken 7 a := ⟨by rcases h.kd with h | h | h | h | h | h <;> omega, by rcases h.kd with h | h | h | h | h | h <;> omega, by have := h.tx.le; omega, fun h7 => by rcases h.kd with h | h | h | h | h | h <;> omega⟩
set_option maxHeartbeats 1000000 in
theorem implSprint_any (v : Value) (l : List AArg) (w : World) (hT : TabW w) (hA : ArgsAt w v l) (hl : l.length ≤ 10) (hok : ∀ a ∈ l, a.Ok) :
    Calls Tryz.prog 18 #[v] w (SprQ w (encs (sprG [] none l))) := by
  obtain ⟨q, n, c, rfl⟩ := hA.slice_
  have hmf : ∀ (fn : Fn) (first cap : Array Value) (w : World), (Instr.makeFunc fn first cap).run Tryz.prog w = .ok (.func fn first cap) w := fun _ _ _ _ => rfl
  generalize hW : (w.alloc (.cells #[.slice q n c] 22)).alloc (.cells #[.string ⟨#[]⟩] 9) = W
  have hbW : Below w.heap.size w W := by rw [← hW]; exact ((Below.refl _ w).alloc (Nat.le_refl _) _).alloc (by simp) _
  have hsz : W.heap.size = w.heap.size + 2 := by rw [← hW]; simp
  have hl0 : W.cell? ⟨w.heap.size, 0, none⟩ = some (.slice q n c) := by
    rw [← hW]
    have h1 := cell_new w #[.slice q n c] 22 0
    exact (World.cell?_alloc_past _ _ _ (by simp)).trans h1
  have ho0 : W.cell? ⟨w.heap.size + 1, 0, none⟩ = some (.string ⟨#[]⟩) := by
    have h1 := cell_new (w.alloc (.cells #[.slice q n c] 22)) #[.string ⟨#[]⟩] 9 0
    rw [show (w.alloc (.cells #[.slice q n c] 22)).heap.size = w.heap.size + 1 by simp, hW] at h1
    exact h1
  have hf0 : W.frozen? ⟨w.heap.size + 1, 0, none⟩ = false := by
    have h1 := frozen_new (w.alloc (.cells #[.slice q n c] 22)) #[.string ⟨#[]⟩] 9 0
    rw [show (w.alloc (.cells #[.slice q n c] 22)).heap.size = w.heap.size + 1 by simp, hW] at h1
    exact h1
  have hAW := hA.below hbW
  have HOKA := Lib.hid (argsOk_yes _ l 7 W hAW (by omega) (fun a ha => (hok a ha).taken))
  have HR := Lib.hid (And.intro hbW (And.intro hsz (And.intro hl0 (And.intro ho0 hf0)))); clear hbW hsz ho0 hf0
  have HA := Lib.hid hAW; clear hAW hA
  have HOK := Lib.hid hok; clear hok
  have HT := Lib.hid hT; clear hT
  have HW := Lib.hid hW; clear hW
  generalize hg : sprG [] none l = g
  have HG := Lib.hid hg; clear hg
  go_enter Tryz.func18, Tryz.ntmps18
  go_upto_region 2 with fail
  rw [HW.out]
  go_wp2_with fail
  refine HOKA.out.mono ?_
  rintro e w3 ⟨rfl, hb3⟩
  clear hl0
  obtain ⟨hbW, hsz, hl0, ho0, hf0⟩ := HR.out
  have hb3s := hb3.size
  have hba : Below W.heap.size W (w3.alloc (.cells #[.bool false] 4)) := hb3.alloc hb3s _
  have hl1 := (hba.cell (p := ⟨w.heap.size, 0, none⟩) (by show w.heap.size < _; omega)).trans hl0
  have ho1 := (hba.cell (p := ⟨w.heap.size + 1, 0, none⟩) (by show w.heap.size + 1 < _; omega)).trans ho0
  have hf1 := (hba.frozen (p := ⟨w.heap.size + 1, 0, none⟩) (by show w.heap.size + 1 < _; omega)).trans hf0
  have hT3 : TabW (w3.alloc (.cells #[.bool false] 4)) := (HT.out.below hbW).below hba
  have HTR := Lib.hid (tried_sprint w.heap.size (w.heap.size + 1) _ w3 (by omega) (sprintClo_any _ l w.heap.size (w.heap.size + 1) _ _ hT3 (HA.out.below hba) hl HOK.out hl1 ho1 hf1))
  have HB3 := Lib.hid (And.intro hsz hb3)
  rw [HG.out] at HTR
  clear hbW hsz hl0 ho0 hf0 hl1 ho1 hf1 hT3 hba hb3
  go_wp2_with fail
  refine HTR.out.mono ?_
  rintro e w4 ⟨y, rfl, hy, hcy, hk4⟩
  go_wp2_with fail
  go_ret
  exact ⟨y, rfl, hy, Kp.below_but (HR.out.1.trans (HB3.out.2.mono (by have := HB3.out.1; omega))) (by have := HB3.out.1; omega) (by omega) hk4⟩
end Go.Proofs.YtlmcglaajmjanaaGreatDoor
