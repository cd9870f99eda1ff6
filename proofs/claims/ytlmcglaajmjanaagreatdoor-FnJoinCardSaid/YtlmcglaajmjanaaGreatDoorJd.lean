/- Walks: Buffer.RedactableString, Join, impl.Join. -/
import Derived.Test.YtlmcglaajmjanaaGreatDoorZl
namespace Go.Proofs.YtlmcglaajmjanaaGreatDoor
open Go.RowKit
attribute [local irreducible] Utf8.encode Utf8.decode
section
variable {K : Nat → Prop} {w : World} {p : Nat} {a : Option Addr} {n c : Nat} {xs : List Value} {l : List UInt8} {vu : Nat} {m : Int} {mo : Bool} {R : Nat → Option Value}
theorem Buf.copy (h : Buf K w p a n c xs vu m mo R) {T : TypeId} (hT : T ≠ 5) : Buf K (w.alloc (.cells #[.slice a n c, .int .i64 vu, .int .i64 m, .bool mo] T)) w.heap.size a n c xs vu m mo (fun _ => none) := by
  have hb : Below w.heap.size w (w.alloc (.cells #[.slice a n c, .int .i64 vu, .int .i64 m, .bool mo] T)) := (Below.refl _ w).alloc (Nat.le_refl _) _
  refine ⟨fun k hk => by have := h.hK k hk; simp; omega, fun hk => Nat.lt_irrefl _ (h.hK _ hk), ⟨_, T, hT, heap_alloc_new w _, rfl, rfl, rfl, rfl, fun i hi => ?_⟩, ?_⟩
  · rw [Array.getElem?_eq_none]; simp; omega
  · rcases h.row with h1 | ⟨g, cur, ha, hg, hh, r⟩
    · exact .inl h1
    · have hlt : g < w.heap.size := (Array.getElem?_eq_some_iff.1 hh).1
      exact .inr ⟨g, cur, ha, ⟨by omega, hg.2⟩, by rw [hb.block g hlt]; exact hh, r⟩
def RsQ (K : Nat → Prop) (w : World) (L : List UInt8) (e : Ending) (w' : World) : Prop := ∃ y : ByteArray, e = .returned (.string y) ∧ Hid (y.data.toList = L) ∧ Kp K w w'
set_option maxHeartbeats 1000000 in
set_option maxRecDepth 100000 in
theorem redactable_any (h : Buf K w p a l.length c (Lib.byteCells l) vu m mo R) (hm : m = 0 ∨ m = 1 ∨ m = 2) (hl : l.length ≤ 50000) (hl2 : (finE l vu m).length ≤ 90000) (hv : vu ≤ l.length) (hT : TabW w) (hbad : badEnd l = false) (hn : mo = true → finE l vu m ≠ []) :
    Calls Tryz.prog 65 #[.agg #[.slice a l.length c, .int .i64 vu, .int .i64 m, .bool mo]] w (RsQ K w (finL l vu m mo)) := by
  have hb : Below w.heap.size w (w.alloc (.cells #[.slice a l.length c, .int .i64 vu, .int .i64 m, .bool mo] 68)) := (Below.refl _ w).alloc (Nat.le_refl _) _
  have HFin := Lib.hid (finalize_any ⟨_, _, h.copy (T := 68) (by decide)⟩ hm hl hl2 hv (hT.below hb).1 hT.2 hbad hn)
  have HK := Lib.hid (Kp.of_below h.hK hb)
  clear h hm hl hl2 hv hT hbad hn hb
  generalize finL l vu m mo = L at HFin ⊢
  go_enter Tryz.func65, Tryz.ntmps65
  go_wp2_with fail
  refine HFin.out.mono ?_
  rintro e w1 ⟨rfl, h1, hb1⟩
  obtain ⟨a1, c1, h1⟩ := h1.out
  have d0 := h1.c0
  have hst := h1.bat.str 50 Tryz.underlying50
  clear h1
  go_wp2_with fail
  go_ret
  exact ⟨_, rfl, rfl, HK.out.trans hb1⟩
theorem newB (w : World) (T : TypeId) (hT : T ≠ 5) : BSt (· < w.heap.size) (w.alloc (.cells #[.slice none 0 0, .int .i64 0, .int .i64 0, .bool false] T)) w.heap.size [] := by
  refine ⟨fun _ => none, .inl ⟨rfl, none, 0, fun k hk => Nat.lt_of_lt_of_le hk (by simp), Nat.lt_irrefl _, ⟨_, T, hT, heap_alloc_new w _, rfl, rfl, rfl, rfl, fun i hi => ?_⟩, .inl ⟨rfl, rfl, rfl, rfl⟩⟩⟩
  rw [Array.getElem?_eq_none]; simp; omega
theorem jn_sc (b : List Nat) (hb : Scs b) : ∀ (l : List ByteArray) (f : Bool) (o : List Nat), Scs o → (∀ s ∈ l, Scs (runes s)) → Scs (jn b f o l) := by
  intro l
  induction l with
  | nil => intro f o ho _; exact ho
  | cons s l ih =>
    intro f o ho hs
    refine ih _ _ (Scs.append ?_ (hs s (List.mem_cons_self ..))) (fun x hx => hs x (List.mem_cons_of_mem _ hx))
    split
    · exact ho
    · exact ho.append hb
theorem jn_len (b : List Nat) (hb : (encs b).length ≤ 100) : ∀ (l : List ByteArray) (f : Bool) (o : List Nat), (∀ s ∈ l, Txt s (runes s)) → (encs (jn b f o l)).length ≤ (encs o).length + 200 * l.length := by
  intro l
  induction l with
  | nil => intro f o _; simp [jn]
  | cons s l ih =>
    intro f o hs
    have h1 := ih false ((if f then o else o ++ b) ++ runes s) (fun x hx => hs x (List.mem_cons_of_mem _ hx))
    have h2 := (hs s (List.mem_cons_self ..)).len
    have h3 : (encs ((if f then o else o ++ b) ++ runes s)).length ≤ (encs o).length + 200 := by
      rw [encs_append, List.length_append]
      split
      · omega
      · rw [encs_append, List.length_append]; omega
    simp only [jn, List.length_cons]; omega
theorem BSt.read {bp : Nat} {o : List Nat} (h : BSt K w bp o) : ∃ a c m R, Buf K w bp a (encs o).length c (Lib.byteCells (encs o)) 0 m false R ∧ (m = 0 ∨ m = 1 ∨ m = 2) ∧ finL (encs o) 0 m false = encs o ∧ finE (encs o) 0 m = encs o := by
  obtain ⟨R, ⟨rfl, a, c, h⟩ | ⟨a, c, h⟩⟩ := h
  · exact ⟨a, c, 0, R, h, .inl rfl, by rfl, by rfl⟩
  · exact ⟨a, c, 2, R, h, .inr (.inr rfl), rfl, rfl⟩
set_option maxHeartbeats 1000000 in
set_option maxRecDepth 100000 in
theorem join_any (v : Value) (b : ByteArray) (ss : List ByteArray) (hT : TabW w) (hv : IfAt (· < w.heap.size) w v (ss.map .string)) (hb : Txt b (runes b)) (hbm : Mk (runes b)) (hss : ∀ s ∈ ss, Txt s (runes s) ∧ Mk (runes s)) (hl : ss.length ≤ 20) :
    Calls Tryz.prog 53 #[.string b, v] w (SprQ w (encs (jn (runes b) true [] ss))) := by
  have hnb := newB w 70 (by decide)
  have hb0 : Below w.heap.size w (w.alloc (.cells #[.slice none 0 0, .int .i64 0, .int .i64 0, .bool false] 70)) := (Below.refl _ w).alloc (Nat.le_refl _) _
  have hk0 : Kp (· < w.heap.size) w (w.alloc (.cells #[.slice none 0 0, .int .i64 0, .int .i64 0, .bool false] 70)) := Kp.of_below (fun _ h => h) hb0
  have h2 := hT.2
  have hE : Env (· < w.heap.size) (w.alloc (.cells #[.slice none 0 0, .int .i64 0, .int .i64 0, .bool false] 70)) w.heap.size := ⟨show 1 < w.heap.size by omega, show 2 < w.heap.size by omega, h2, (hT.below hb0).1⟩
  have HJ := Lib.hid (joinTo_any v b ss hnb hE (hv.kp hk0) hb hbm hss hl)
  have hsc : Scs (jn (runes b) true [] ss) := jn_sc _ hb.sc ss true [] Scs.nil (fun s hs => (hss s hs).1.sc)
  have hln : (encs (jn (runes b) true [] ss)).length ≤ 5000 := by
    have := jn_len (runes b) hb.len ss true [] (fun s hs => (hss s hs).1)
    rw [encs_nil] at this; simp at this; omega
  have HSC := Lib.hid hsc
  have HT := Lib.hid hT
  have HK := Lib.hid hk0
  clear hnb hb0 hk0 hE hv hb hbm hss hsc hT h2
  generalize jn (runes b) true [] ss = g at HJ HSC hln ⊢
  go_enter Tryz.func53, Tryz.ntmps53
  go_wp2_with fail
  refine HJ.out.mono ?_
  rintro e w1 ⟨rfl, h1, hk1⟩
  obtain ⟨a1, c1, m1, R1, hB, hm, hf, hfe⟩ := h1.out.read
  have d0 := hB.c0
  have d1 := hB.c1
  have d2 := hB.c2
  have d3 := hB.c3
  have hk2 : Kp (· < w.heap.size) w w1 := HK.out.trans hk1
  have HR := Lib.hid (redactable_any hB hm (by omega) (by rw [hfe]; omega) (Nat.zero_le _) (HT.out.below hk2.below) (badEnd_enc HSC.out) (fun h => by cases h))
  rw [hf] at HR
  have HK2 := Lib.hid hk2
  clear hB hm hf hfe hk1 hk2 h1
  go_wp2_with fail
  refine HR.out.mono ?_
  rintro e w2 ⟨y, rfl, hy, hk3⟩
  go_wp2_with fail
  go_ret
  exact ⟨y, rfl, hy, (HK2.out.trans hk3).below⟩
theorem Tryz.infoR : (Tryz.prog.info? 50).map (fun i => (i.zero, i.size, i.bytes)) = some (some (.string ⟨#[]⟩), 1, 16) := by kernel_rfl
/-- v is a slice of redactable texts xs that the call owns. -/
def OwnR (w : World) (B : Nat) (v : Value) (xs : List Value) : Prop := w.ownsRow B 50 1 v xs.length xs
theorem OwnR.below {w w' : World} {B : Nat} {v : Value} {l : List Value} (h : OwnR w B v l) (hb : Below w.heap.size w w') : OwnR w' B v l := by
  obtain ⟨h1, h2⟩ := h
  refine ⟨h1, ?_⟩
  rcases h2 with h2 | ⟨g, cap, cur, hv, hg, hh, r⟩
  · exact .inl h2
  · exact .inr ⟨g, cap, cur, hv, hg, by rw [hb.block g (Array.getElem?_eq_some_iff.1 hh).1]; exact hh, r⟩
theorem OwnR.blk {w : World} {B : Nat} {v : Value} {l : List Value} (h : OwnR w B v l) : ∀ k, v.ownBlock = some k → B ≤ k := by
  intro k hk
  rcases h.2 with ⟨rfl, _⟩ | ⟨g, cap, cur, rfl, hg, _⟩
  · simp [Value.ownBlock] at hk
  · simp [Value.ownBlock] at hk; omega
theorem OwnR.ifAt {w : World} {B : Nat} {v : Value} {l : List Value} (h : OwnR w B v l) : IfAt (· < w.heap.size) w v l := by
  obtain ⟨h1, h2⟩ := h
  rcases h2 with ⟨rfl, hn⟩ | ⟨g, cap, cur, rfl, hg, hb, hc, hm, hs, ht⟩
  · have hl : l = [] := List.eq_nil_of_length_eq_zero hn
    subst hl
    exact ⟨none, 0, 0, 0, rfl, Nat.le_refl _, by omega, .inl rfl, fun j hj => by cases hj⟩
  · refine ⟨_, g, 0, cap, rfl, hc, by unfold maxLen at hm; omega, .inr ⟨rfl, (Array.getElem?_eq_some_iff.1 hb).1⟩, fun j hj => ?_⟩
    have e : (cur.toList.take (l.length * 1))[j]? = l[j]? := by rw [ht]
    simp [World.cell?, hb]
    rw [List.getElem?_take_of_lt (by omega)] at e
    rw [Array.getElem?_toList] at e
    rw [e]; simp [hj]
theorem wpList_appendR_known (w : World) {ops : Array Oper} {rest : List Oper} {o : Oper} {a : Act} {Q : Exit → Act → World → Prop} (hgd : o.guard = none) (s x : Operand)
    (ho : o.op = .call { callee := .builtin .append, args := #[s, x], argTypes := #[59, 59] }) (v u : Value) (hs : a.eval s = v) (hx : a.eval x = u) {v' : Value} {w' : World}
    (hr : (Builtin.append_ #[59, 59] o.type #[v, u]).run Tryz.prog w = .ok v' w') (h : wpList Tryz.prog ops Q rest (a.put o.dst v') w') : wpList Tryz.prog ops Q (o :: rest) a w := by
  refine wpList_plain hgd fun K hK => ?_
  unfold Oper.wp execOp
  simp only [ho, resolve, invoke, builtin, Sem.run_bind, Sem.run_pure, Result.andThen_ok, List.map_toArray, List.map_cons, List.map_nil, hs, hx, hr]
  exact hK _ _ h
theorem OwnR.append {w : World} {B : Nat} {v x : Value} {l : List Value} (h : OwnR w B v l) (a : Addr) (ha : w.cell? a = some x) (h1 : x.oneCell' = true) (hsz : l.length + 1 ≤ 100000) (hB : B ≤ w.heap.size) (ty : TypeId) :
    ∃ v' w', (Builtin.append_ #[59, 59] ty #[v, .slice (some a) 1 1]).run Tryz.prog w = .ok v' w' ∧ OwnR w' B v' (l ++ [x]) ∧ w.grownBy w' v.ownBlock := by
  obtain ⟨i0, hi, hz0, hz1, hz2⟩ := info_parts Tryz.infoR
  obtain ⟨v', w', hr, ho, hg, _⟩ := run_append_own (P := Tryz.prog) w B 59 ty 50 i0 (.string ⟨#[]⟩) 1 16 Tryz.underlying59 hi hz0 hz1 hz2 rfl (by decide) v l.length l h
    a 1 1 [x] rfl (fun j u hj => by
      cases j with
      | zero => cases hj; rw [show a.add 0 = a by unfold Addr.add; simp]; exact ha
      | succ j => simp at hj) (fun u hu => by simp at hu; subst hu; exact h1) (by unfold maxLen; omega) (by omega) hB
  exact ⟨v', w', hr, by unfold OwnR; rw [List.length_append]; exact ho, hg⟩
set_option maxHeartbeats 2000000 in
set_option maxRecDepth 100000 in
theorem implJoin_any (v : Value) (b : ByteArray) (ss : List ByteArray) (hT : TabW w) (hv : IfAt (· < w.heap.size) w v (ss.map .string)) (hb : Txt b (runes b)) (hbm : Mk (runes b)) (hss : ∀ s ∈ ss, Txt s (runes s) ∧ Mk (runes s)) (hl : ss.length ≤ 20) :
    Calls Tryz.prog 24 #[.string b, v] w (SprQ w (encs (jn (runes b) true [] ss))) := by
  have hlen := fun ty => hv.lenS ty
  rw [List.length_map] at hlen
  have hbz := hb.le
  have d1 : decide ((400 : Int) < (b.size : Int)) = false := by simp; omega
  have d2 : decide ((20 : Int) < (ss.length : Int)) = false := by simp; omega
  have HV := Lib.hid hv
  have HS := Lib.hid hss
  have HT := Lib.hid hT
  have HJ : Hid (∀ w' v', TabW w' → IfAt (· < w'.heap.size) w' v' (ss.map .string) → Calls Tryz.prog 53 #[.string b, v'] w' (SprQ w' (encs (jn (runes b) true [] ss)))) := fun w' v' h1 h2 => join_any v' b ss h1 h2 hb hbm hss hl
  clear hv hss hT hb hbm
  generalize jn (runes b) true [] ss = g at HJ ⊢
  go_enter Tryz.func24, Tryz.ntmps24
  go_wp2_with fail
  go_loopw [18, 5] (fun i ov wr => ∃ k : Nat, i = .int .i64 k ∧ k ≤ ss.length ∧ Hid (OwnR wr w.heap.size ov ((ss.take k).map .string)) ∧ Below w.heap.size w wr)
    (fun i _ _ => ss.length - (intOf i).toNat)
  case atStart => exact ⟨0, rfl, Nat.zero_le _, World.ownsRow_nil _ _ _ _, Below.refl _ _⟩
  case round =>
    obtain ⟨k, rfl, hk, hown, hnx⟩ := hrel
    by_cases hlt : k < ss.length
    · obtain ⟨qa, hix, hcell⟩ := HV.out.atS k (by rw [List.length_map]; exact hlt)
      have hc := hcell wr (HV.out.kp (Kp.of_below (fun _ h => h) hnx))
      rw [List.getElem_map] at hc
      clear hcell
      have hxs := (HS.out _ (List.getElem_mem hlt)).1.le
      have HTK : Hid ((ss.take (k + 1)).map Value.string = (ss.take k).map .string ++ [.string (ss[k]'hlt)]) := by
        rw [List.take_succ_eq_append_getElem hlt, List.map_append]; rfl
      obtain ⟨x, hx⟩ : ∃ x, ss[k]'hlt = x := ⟨_, rfl⟩
      rw [hx] at hc hxs HTK
      clear hx
      have d3 : decide ((400 : Int) < (x.size : Int)) = false := by simp; omega
      have hwz := hnx.size
      have hb3 : Below wr.heap.size wr (wr.alloc (.cells #[.string x] 50)) := (Below.refl _ wr).alloc (Nat.le_refl _) _
      obtain ⟨v', w3, hap, hown3, hgrow⟩ := (hown.out.below hb3).append ⟨wr.heap.size, 0, none⟩ (x := .string x) (cell_new _ _ _ _) rfl (by simp; omega) (Nat.le_trans hwz hb3.size) 59
      have HNX := Lib.hid ((hnx.trans (hb3.mono hwz)).grown hgrow (Nat.le_trans hwz hb3.size) (hown.out.blk))
      clear hgrow hb3
      rw [← HTK.out] at hown3
      have HOWN3 := Lib.hid hown3; clear hown3
      clear HTK
      go_wp2_with (at_builtin; refine wpList_appendR_known _ rfl _ _ rfl _ _ rfl rfl hap ?_)
      go_roundw
      case rel => exact ⟨k + 1, by go_num, by omega, HOWN3.out, HNX.out⟩
      case measure => simp [intOf]; omega
    · obtain rfl : k = ss.length := by omega
      have ho := hown.out
      rw [List.take_length] at ho
      have HO := Lib.hid ho.ifAt; clear ho hown
      go_wp2_with fail
      refine (HJ.out _ _ (HT.out.below hnx) HO.out).mono ?_
      rintro e w4 ⟨y, rfl, hy, hb4⟩
      go_wp2_with fail
      go_ret
      exact ⟨y, rfl, hy, hnx.trans (hb4.mono hnx.size)⟩
end
end Go.Proofs.YtlmcglaajmjanaaGreatDoor
