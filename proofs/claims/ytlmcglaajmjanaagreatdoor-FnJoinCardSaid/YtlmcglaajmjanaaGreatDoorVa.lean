/- Walks of package impl: valueOf, valuesOf. -/
import Derived.Test.YtlmcglaajmjanaaGreatDoorPv
namespace Go.Proofs.YtlmcglaajmjanaaGreatDoor
open Go.RowKit
theorem safe_any {t : TypeId} (x : Value) (w : World) : Calls Tryz.prog 105 #[.iface t x] w fun e w' => e = .returned (.iface 142 (.agg #[.iface t x])) ∧ w = w' := by
  go_enter Tryz.func105, Tryz.ntmps105
  go_wp2
  go_ret
  exact ⟨rfl, rfl⟩
theorem unsafe_any' {t : TypeId} (x : Value) (w : World) : Calls Tryz.prog 106 #[.iface t x] w fun e w' => e = .returned (.iface 147 (.agg #[.iface t x])) ∧ w = w' := by
  go_enter Tryz.func106, Tryz.ntmps106
  go_wp2
  go_ret
  exact ⟨rfl, rfl⟩
def ValQ (v : Value) (w : World) (e : Ending) (w' : World) : Prop := e = .returned v ∧ Below w.heap.size w w'
theorem valueOf_any (a : AArg) (h : a.kind = 0 ∨ a.kind = 1 ∨ a.kind = 2 ∨ a.kind = 3 ∨ a.kind = 4 ∨ a.kind = 5) (w : World) : Calls Tryz.prog 78 #[a.val] w (ValQ a.pv w) := by
  obtain ⟨k, s, n⟩ := a
  rcases h with h | h | h | h | h | h <;> (dsimp only at h; subst h)
  · show Calls Tryz.prog 78 #[.agg #[.int .i64 0, .string s, .int .i64 n]] w (ValQ (.iface 9 (.string s)) w)
    go_enter Tryz.func78, Tryz.ntmps78
    go_wp2_with (fail)
    go_ret
    exact ⟨rfl, (Below.refl _ _).alloc (Nat.le_refl _) _⟩
  · show Calls Tryz.prog 78 #[.agg #[.int .i64 1, .string s, .int .i64 n]] w (ValQ (.iface 142 (.agg #[.iface 9 (.string s)])) w)
    go_enter Tryz.func78, Tryz.ntmps78
    go_wp2_with (go_at_call 105; refine (safe_any _ _).mono ?_; rintro e w' ⟨rfl, rfl⟩)
    go_ret
    exact ⟨rfl, (Below.refl _ _).alloc (Nat.le_refl _) _⟩
  · show Calls Tryz.prog 78 #[.agg #[.int .i64 2, .string s, .int .i64 n]] w (ValQ (.iface 2 (.int .i64 n)) w)
    go_enter Tryz.func78, Tryz.ntmps78
    go_wp2_with (fail)
    go_ret
    exact ⟨rfl, (Below.refl _ _).alloc (Nat.le_refl _) _⟩
  · show Calls Tryz.prog 78 #[.agg #[.int .i64 3, .string s, .int .i64 n]] w (ValQ (.iface 142 (.agg #[.iface 2 (.int .i64 n)])) w)
    go_enter Tryz.func78, Tryz.ntmps78
    go_wp2_with (go_at_call 105; refine (safe_any _ _).mono ?_; rintro e w' ⟨rfl, rfl⟩)
    go_ret
    exact ⟨rfl, (Below.refl _ _).alloc (Nat.le_refl _) _⟩
  · show Calls Tryz.prog 78 #[.agg #[.int .i64 4, .string s, .int .i64 n]] w (ValQ (.iface 50 (.string s)) w)
    go_enter Tryz.func78, Tryz.ntmps78
    go_wp2_with (fail)
    go_ret
    exact ⟨rfl, (Below.refl _ _).alloc (Nat.le_refl _) _⟩
  · show Calls Tryz.prog 78 #[.agg #[.int .i64 5, .string s, .int .i64 n]] w (ValQ (.iface 147 (.agg #[.iface 9 (.string s)])) w)
    go_enter Tryz.func78, Tryz.ntmps78
    go_wp2_with (go_at_call 106; refine (unsafe_any' _ _).mono ?_; rintro e w' ⟨rfl, rfl⟩)
    go_ret
    exact ⟨rfl, (Below.refl _ _).alloc (Nat.le_refl _) _⟩
theorem Tryz.infoI : (Tryz.prog.info? 20).map (fun i => (i.zero, i.size, i.bytes)) = some (some .nilIface, 1, 16) := by kernel_rfl
/-- v is a slice of interface values xs that the call owns. -/
def OwnI (w : World) (B : Nat) (v : Value) (xs : List Value) : Prop := w.ownsRow B 20 1 v xs.length xs
theorem OwnI.nil (w : World) (B : Nat) : OwnI w B (.slice none 0 0) [] := World.ownsRow_nil _ _ _ _
theorem OwnI.below {w w' : World} {B : Nat} {v : Value} {l : List Value} (h : OwnI w B v l) (hb : Below w.heap.size w w') : OwnI w' B v l := by
  obtain ⟨h1, h2⟩ := h
  refine ⟨h1, ?_⟩
  rcases h2 with h2 | ⟨g, cap, cur, hv, hg, hh, r⟩
  · exact .inl h2
  · exact .inr ⟨g, cap, cur, hv, hg, by rw [hb.block g (Array.getElem?_eq_some_iff.1 hh).1]; exact hh, r⟩
theorem OwnI.blk {w : World} {B : Nat} {v : Value} {l : List Value} (h : OwnI w B v l) : ∀ k, v.ownBlock = some k → B ≤ k := by
  intro k hk
  rcases h.2 with ⟨rfl, _⟩ | ⟨g, cap, cur, rfl, hg, _⟩
  · simp [Value.ownBlock] at hk
  · simp [Value.ownBlock] at hk; omega
theorem OwnI.ifAt {w : World} {B : Nat} {v : Value} {l : List Value} (h : OwnI w B v l) : IfAt (· < w.heap.size) w v l := by
  obtain ⟨h1, h2⟩ := h
  rcases h2 with ⟨rfl, hn⟩ | ⟨g, cap, cur, rfl, hg, hb, hc, hm, hs, ht⟩
  · have hl : l = [] := List.eq_nil_of_length_eq_zero hn
    subst hl
    exact ⟨none, 0, 0, 0, rfl, Nat.le_refl _, by omega, .inl rfl, fun j hj => by cases hj⟩
  · refine ⟨_, g, 0, cap, rfl, hc, by unfold maxLen at hm; omega, .inr ⟨rfl, (Array.getElem?_eq_some_iff.1 hb).1⟩, fun j hj => ?_⟩
    have e : (cur.toList.take (l.length * 1))[j]? = l[j]? := by rw [ht]
    simp [World.cell?, hb]
    rw [List.getElem?_take_of_lt (by omega)] at e
    rw [Array.getElem?_toList] at e
    rw [e]; simp [hj]
theorem wpList_appendI_known (w : World) {ops : Array Oper} {rest : List Oper} {o : Oper} {a : Act} {Q : Exit → Act → World → Prop} (hgd : o.guard = none) (s x : Operand)
    (ho : o.op = .call { callee := .builtin .append, args := #[s, x], argTypes := #[55, 55] }) (v u : Value) (hs : a.eval s = v) (hx : a.eval x = u) {v' : Value} {w' : World}
    (hr : (Builtin.append_ #[55, 55] o.type #[v, u]).run Tryz.prog w = .ok v' w') (h : wpList Tryz.prog ops Q rest (a.put o.dst v') w') : wpList Tryz.prog ops Q (o :: rest) a w := by
  refine wpList_plain hgd fun K hK => ?_
  unfold Oper.wp execOp
  simp only [ho, resolve, invoke, builtin, Sem.run_bind, Sem.run_pure, Result.andThen_ok, List.map_toArray, List.map_cons, List.map_nil, hs, hx, hr]
  exact hK _ _ h
theorem OwnI.append {w : World} {B : Nat} {v x : Value} {l : List Value} (h : OwnI w B v l) (a : Addr) (ha : w.cell? a = some x) (h1 : x.oneCell' = true) (hsz : l.length + 1 ≤ 100000) (hB : B ≤ w.heap.size) (ty : TypeId) :
    ∃ v' w', (Builtin.append_ #[55, 55] ty #[v, .slice (some a) 1 1]).run Tryz.prog w = .ok v' w' ∧ OwnI w' B v' (l ++ [x]) ∧ w.grownBy w' v.ownBlock := by
  obtain ⟨i0, hi, hz0, hz1, hz2⟩ := info_parts Tryz.infoI
  obtain ⟨v', w', hr, ho, hg, _⟩ := run_append_own (P := Tryz.prog) w B 55 ty 20 i0 .nilIface 1 16 Tryz.underlying55 hi hz0 hz1 hz2 rfl (by decide) v l.length l h
    a 1 1 [x] rfl (fun j u hj => by
      cases j with
      | zero => cases hj; rw [show a.add 0 = a by unfold Addr.add; simp]; exact ha
      | succ j => simp at hj) (fun u hu => by simp at hu; subst hu; exact h1) (by unfold maxLen; omega) (by omega) hB
  exact ⟨v', w', hr, by unfold OwnI; rw [List.length_append]; exact ho, hg⟩
theorem pv_iface (a : AArg) : ∃ t y, a.pv = .iface t y := by
  unfold AArg.pv
  repeat' split
  all_goals exact ⟨_, _, rfl⟩
theorem pv_one (a : AArg) : a.pv.oneCell' = true := by
  unfold AArg.pv
  repeat' split
  all_goals rfl
def ValsQ (xs : List Value) (w : World) (e : Ending) (w' : World) : Prop := ∃ v, e = .returned v ∧ Hid (IfAt (· < w'.heap.size) w' v xs) ∧ Below w.heap.size w w'
def Kinds (l : List AArg) : Prop := ∀ a ∈ l, a.kind = 0 ∨ a.kind = 1 ∨ a.kind = 2 ∨ a.kind = 3 ∨ a.kind = 4 ∨ a.kind = 5
set_option maxHeartbeats 2000000 in
theorem valuesOf_any (v : Value) (l : List AArg) (w : World) (hA : ArgsAt w v l) (hl : l.length ≤ 20) (hk : Kinds l) : Calls Tryz.prog 50 #[v] w (ValsQ (l.map AArg.pv) w) := by
  have hlen := fun ty => hA.len ty
  have HA := Lib.hid hA; clear hA
  have HK := Lib.hid hk; clear hk
  go_enter Tryz.func50, Tryz.ntmps50
  go_wp2_with fail
  go_loopw [8, 3] (fun i ov wr => ∃ k : Nat, i = .int .i64 k ∧ k ≤ l.length ∧ Hid (OwnI wr w.heap.size ov ((l.take k).map AArg.pv)) ∧ Below w.heap.size w wr)
    (fun i _ _ => l.length - (intOf i).toNat)
  case atStart => exact ⟨0, rfl, Nat.zero_le _, OwnI.nil _ _, Below.refl _ _⟩
  case round =>
    obtain ⟨k, rfl, hk, hown, hnx⟩ := hrel
    by_cases hlt : k < l.length
    · obtain ⟨qb, qo, hix, hld0⟩ := HA.out.at_ k hlt
      obtain ⟨c0, c1, c2⟩ := hld0 wr (HA.out.below hnx)
      clear hld0
      have hkd := HK.out _ (List.getElem_mem hlt)
      have HTK : Hid ((l.take (k + 1)).map AArg.pv = (l.take k).map AArg.pv ++ [(l[k]'hlt).pv]) := by
        rw [List.take_succ_eq_append_getElem hlt, List.map_append]; rfl
      obtain ⟨kd, tx, nn, hx⟩ : ∃ kd tx nn, l[k]'hlt = ⟨kd, tx, nn⟩ := ⟨_, _, _, rfl⟩
      rw [hx] at c0 c1 c2 hkd HTK
      dsimp only at c0 c1 c2
      clear hx
      have HV := Lib.hid (valueOf_any ⟨kd, tx, nn⟩ hkd)
      clear hkd
      obtain ⟨t, y, hpv⟩ := pv_iface ⟨kd, tx, nn⟩
      rw [hpv] at HV HTK
      clear hpv
      have hwz := hnx.size
      go_wp2_with fail
      refine (HV.out _).mono ?_
      rintro e w2 ⟨rfl, hb2⟩
      have hb0 : Below wr.heap.size wr w2 := ((Below.refl _ wr).alloc (Nat.le_refl _) _).trans (hb2.mono (by simp))
      clear hb2 c0 c1 c2 hix
      have hb3 : Below wr.heap.size wr (w2.alloc (.cells #[.iface t y] 20)) := hb0.alloc hb0.size _
      obtain ⟨v', w3, hap, hown3, hgrow⟩ := (hown.out.below hb3).append ⟨w2.heap.size, 0, none⟩ (x := .iface t y) (cell_new _ _ _ _) rfl (by simp; omega) (Nat.le_trans hwz hb3.size) 55
      have HAP := Lib.hid hap; clear hap
      have HNX := Lib.hid ((hnx.trans (hb3.mono hwz)).grown hgrow (Nat.le_trans hwz hb3.size) (hown.out.blk))
      clear hgrow hb0 hb3
      rw [← HTK.out] at hown3
      have HOWN3 := Lib.hid hown3; clear hown3
      clear HTK HV
      go_wp2_with (at_builtin; refine wpList_appendI_known _ rfl _ _ rfl _ _ rfl rfl HAP.out ?_)
      go_roundw
      case rel => exact ⟨k + 1, by go_num, by omega, HOWN3.out, HNX.out⟩
      case measure => simp [intOf]; omega
    · obtain rfl : k = l.length := by omega
      have ho := hown.out
      rw [List.take_length] at ho
      have HO := Lib.hid ho; clear ho hown
      go_wp2_with fail
      go_ret
      exact ⟨_, rfl, HO.out.ifAt, hnx⟩
end Go.Proofs.YtlmcglaajmjanaaGreatDoor
