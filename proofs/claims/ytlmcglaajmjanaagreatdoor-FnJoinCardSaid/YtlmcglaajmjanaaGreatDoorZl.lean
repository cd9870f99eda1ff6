/- Walks: Fprint into a buffer; the builder's Print. -/
/- Walks: the builder's Print, JoinTo. -/
import Derived.Test.YtlmcglaajmjanaaGreatDoorZj
import Derived.Test.YtlmcglaajmjanaaGreatDoorZe
import Derived.Handy
import Derived.Deep.DeepCutAuto
namespace Go.Proofs.YtlmcglaajmjanaaGreatDoor
open Go.RowKit
section
variable {K : Nat → Prop} {w : World} {p : Nat} {a : Option Addr} {n c : Nat} {xs : List Value} {l : List UInt8} {vu : Nat} {m : Int} {mo : Bool} {R : Nat → Option Value}
/-- All that is new is kept too. -/
theorem Buf.keepN (h : Buf K w p a n c xs vu m mo R) {w' : World} (hb : Below w.heap.size w w') : Buf (fun k => K k ∨ (w.heap.size ≤ k ∧ k < w'.heap.size)) w' p a n c xs vu m mo R := by
  have h' := h.below hb
  refine ⟨fun k hk => ?_, fun hk => ?_, h'.blk, ?_⟩
  · rcases hk with hk | hk
    · exact h'.hK k hk
    · exact hk.2
  · rcases hk with hk | hk
    · exact h.hp hk
    · have := h.lt; omega
  · rcases h.row with h1 | ⟨g, cur, ha, hg, hh, r⟩
    · exact .inl h1
    · have hlt : g < w.heap.size := (Array.getElem?_eq_some_iff.1 hh).1
      refine .inr ⟨g, cur, ha, ⟨hg.1, fun hk => ?_⟩, by rw [hb.block g hlt]; exact hh, r⟩
      rcases hk with hk | hk
      · exact hg.2 hk
      · omega
theorem BufL.keepN (h : BufL K w p l vu m mo R) {w' : World} (hb : Below w.heap.size w w') : BufL (fun k => K k ∨ (w.heap.size ≤ k ∧ k < w'.heap.size)) w' p l vu m mo R := by
  obtain ⟨a, c, h⟩ := h; exact ⟨a, c, h.keepN hb⟩
theorem BufL.anti {K' : Nat → Prop} (h : BufL K w p l vu m mo R) (hk : ∀ k, K' k → K k) : BufL K' w p l vu m mo R := by
  obtain ⟨a, c, h⟩ := h; exact ⟨a, c, h.anti hk⟩
theorem BAt.kp {w' : World} {v : Value} {t : List UInt8} (h : BAt w v t) (hk : Kp K w w') (hb : ∀ b n c, v = .slice (some b) n c → b.block < w.heap.size → K b.block) : BAt w' v t := by
  obtain ⟨p, b, o, c, rfl, hc, hm, hp, hx⟩ := h
  refine ⟨p, b, o, c, rfl, hc, hm, hp, fun j hj => ?_⟩
  rcases hp with ⟨h0, _⟩ | rfl
  · rw [h0] at hj; cases hj
  · have h1 := hx j hj
    have hlt := World.block_lt_of_cell? w _ h1
    rw [hk.cell (hb _ _ _ rfl hlt) (o + j)]; exact h1
/-- The row of the slice is none of K. -/
def OffK (K : Nat → Prop) (v : Value) : Prop := ∀ b n c, v = .slice (some b) n c → ¬ K b.block
def TakeFQ (K : Nat → Prop) (w : World) (L : List UInt8) (e : Ending) (w' : World) : Prop := ∃ v, e = .returned v ∧ Hid (BAt w' v L ∧ OffK K v) ∧ Kp K w w'
set_option maxHeartbeats 1000000 in
set_option maxRecDepth 100000 in
theorem takeBytesF_any (h : BufL K w p l vu m mo R) (hm : m = 0 ∨ m = 1 ∨ m = 2) (hl : l.length ≤ 50000) (hl2 : (finE l vu m).length ≤ 90000) (hv : vu ≤ l.length) (hT : Tabs w) (hz : 2 < p) (hbad : badEnd l = false) (hn : mo = true → finE l vu m ≠ []) :
    Calls Tryz.prog 153 #[.pointer (some ⟨p, 0, none⟩)] w (TakeFQ K w (finL l vu m mo)) := by
  have HFin := Lib.hid (finalize_any h hm hl hl2 hv hT hz hbad hn)
  clear h hm hl hl2 hv hT hbad hn
  generalize finL l vu m mo = L at HFin
  go_enter Tryz.func153, Tryz.ntmps153
  go_wp2_with fail
  refine HFin.out.mono ?_
  rintro e w1 ⟨rfl, h1, hb1⟩
  obtain ⟨a1, c1, h1⟩ := h1.out
  have d0 := h1.c0
  have d1 := h1.c1
  have d2 := h1.c2
  have g0 := h1.fz 0
  have g1 := h1.fz 1
  have g2 := h1.fz 2
  have H1 := Lib.hid h1; clear h1
  go_wp2_with fail
  go_ret
  refine ⟨_, rfl, ⟨H1.out.bat_off _ _ _ 0 1 2, fun b n c hv => ?_⟩, ((hb1.setCell H1.out.hp _ _).setCell H1.out.hp _ _).setCell H1.out.hp _ _⟩
  injection hv with e1 _ _
  rcases H1.out.row with ⟨h1, _⟩ | ⟨g, cur, ha, hg, _⟩
  · rw [h1] at e1; cases e1
  · rw [ha] at e1; injection e1 with e1; rw [← e1]; exact hg.2
theorem takeF_ps {o : List Nat} (h : Ps K w p o 0) (hg : GoodT o 40000) : Calls Tryz.prog 153 #[.pointer (some ⟨p, 0, none⟩)] w (TakeFQ K w (encs o)) := by
  obtain ⟨a, t, rfl, hn, R, hR, h, hE⟩ := h
  have hle := hg.le
  have hf := fin_1 hg.sc hn
  have hfe : finE (encs (a ++ t)) (encs a).length 1 = encs (a ++ t) := smE_1 hg.sc hn
  refine (takeBytesF_any h (.inr (.inl rfl)) (by omega) (by rw [hfe]; omega) (by rw [encs_append, List.length_append]; omega) hE.2.2.2 hE.2.2.1 (badEnd_enc hg.sc) (fun h => by cases h)).mono ?_
  rintro e w' hq
  rw [hf] at hq
  exact hq
theorem nil_write (a : Addr) (w : World) : (nilAhead 316 118 (.pointer (some a)) "Write").run Tryz.prog w = .ok (some false) w := by kernel_rfl
theorem method_write (a : Addr) (w : World) : (method 316 118 (.pointer (some a)) "Write").run Tryz.prog w = .ok (125, .pointer (some a)) w := by kernel_rfl
def FwQ (K : Nat → Prop) (bp : Nat) (w : World) (r : Value) (l : List UInt8) (vu : Nat) (m : Int) (mo : Bool) (R : Nat → Option Value) (e : Ending) (w' : World) : Prop := e = .returned r ∧ Hid (BufL K w' bp l vu m mo R) ∧ Kp K w w'
theorem fwrite_any {w3 : World} (y : Value) (t : List UInt8) {bp : Nat} (h : BufL K w bp l vu 2 false R) (hy : BAt w3 y t) (hoff : OffK (· < w.heap.size) y) (hll : l.length ≤ 50000) (htl : t.length ≤ 40000) (hb : Below w.heap.size w w3) :
    Calls Tryz.prog 125 #[.pointer (some ⟨bp, 0, none⟩), y] w3 (FwQ K bp w (.tuple #[.int .i64 t.length, .nilIface]) (l ++ t) vu 2 false R) := by
  refine (write_any y t (h.keepN hb) hy (by omega) (by omega) (fun h => by cases h) (fun w' a' n' c' xs' vu' mo' _ hk => hy.kp hk fun b n c hv hlt => .inr ⟨by have := hoff b n c hv; omega, hlt⟩)).mono ?_
  rintro e w4 ⟨rfl, h4, hk4⟩
  exact ⟨rfl, h4.out.anti (fun k hk => .inl hk), (Kp.of_below h.hK hb).trans (hk4.anti fun k hk => .inl hk)⟩
set_option maxHeartbeats 4000000 in
set_option maxRecDepth 100000 in
theorem fprint_any (v : Value) (la : List AArg) (bp : Nat) (h : BufL K w bp l vu 2 false R) (hT : TabW w) (hv : IfAt (· < w.heap.size) w v (la.map AArg.pv)) (hl : la.length ≤ 10) (hok : ∀ a ∈ la, a.Ok) (hll : l.length ≤ 50000) :
    Calls Tryz.prog 123 #[.iface 118 (.pointer (some ⟨bp, 0, none⟩)), v] w (BufQ K bp w (.tuple #[.int .i64 (encs (sprG [] none la)).length, .nilIface]) (l ++ encs (sprG [] none la)) vu 2 false R) := by
  have hP := newPP_pp w hT
  have hK0 : Kp (· < w.heap.size) w (initW (w.alloc (.cells Z0 89)).drew w.heap.size) := Kp.of_below (fun _ h => h) (initW_below w)
  have HD := Lib.hid (doPrint_any v la hP (hv.kp hK0) hl hok)
  have HG := Lib.hid ((GoodT.spr la [] none 0 GoodT.nil hok).mono (show 0 + 411 * la.length ≤ 40000 by omega))
  have HK0 := Lib.hid hK0
  have HB := Lib.hid h
  clear hP hK0 hv hok hT h
  generalize sprG [] none la = g at HD HG ⊢
  generalize hW : initW (w.alloc (.cells Z0 89)).drew w.heap.size = W at HD HK0
  have HW := Lib.hid hW; clear hW
  go_enter Tryz.func123, Tryz.ntmps123
  go_wp2_with fail
  refine (newPrinter_any w).mono ?_
  rintro e w1 ⟨rfl, hw1⟩
  obtain rfl : w1 = W := hw1.trans HW.out
  clear hw1
  go_wp2_with fail
  refine HD.out.mono ?_
  rintro e w2 ⟨rfl, h2, hb2⟩
  have H2 : Hid (Ps (· < w.heap.size) w2.drew w.heap.size g 0) := by
    obtain ⟨a, t, e1, e2, e3⟩ := h2.out
    exact ⟨a, t, e1, e2, e3.below (Below.refl _ _).drew⟩
  have hb2 : Kp (· < w.heap.size) w w2.drew := (HK0.out.trans hb2).drewN 1
  clear h2
  have hmf : ∀ (fn : Fn) (first cap : Array Value) (w : World), (Instr.makeFunc fn first cap).run Tryz.prog w = .ok (.func fn first cap) w := fun _ _ _ _ => rfl
  have nw := fun w => nil_write ⟨bp, 0, none⟩ w
  have mw := fun w => method_write ⟨bp, 0, none⟩ w
  go_upto_region 3 with fail
  go_cut [4, 5] (fun s4 s5 wx => s4 = .int .i64 (encs g).length ∧ s5 = .nilIface ∧ Hid (BufL K wx bp (l ++ encs g) vu 2 false R) ∧ Kp K w wx)
  case first =>
    go_region_with (first
      | (go_at_call 153; refine (takeF_ps H2.out HG.out).mono ?_; rintro e w3 ⟨y, rfl, hy, hb3⟩; have HWr := Lib.hid (fwrite_any y (encs g) HB.out hy.out.1 hy.out.2 hll (by have := HG.out.le; omega) (hb2.trans hb3).below); clear hb3 hy)
      | (go_at_call 125; refine HWr.out.mono ?_; rintro e w4 ⟨rfl, h4, hk4⟩))
    all_goals (go_wp2_with fail; go_meet; exact ⟨rfl, rfl, h4, hk4⟩)
  case rest =>
    obtain ⟨rfl, rfl, h4, hk4⟩ := hcut
    go_wp2_with fail
    refine bodyPost_ret (v := .tuple #[.int .i64 (encs g).length, .nilIface]) (by simp [results, Tryz.results123, go_sem]) rfl ?_
    exact ⟨rfl, h4, hk4⟩
end
end Go.Proofs.YtlmcglaajmjanaaGreatDoor

namespace Go.Proofs.YtlmcglaajmjanaaGreatDoor
open Go.RowKit
/-- A builder at bp that was printed to: it holds the text o. -/
def BSt (K : Nat → Prop) (w : World) (bp : Nat) (o : List Nat) : Prop := ∃ R, (o = [] ∧ BufL K w bp [] 0 0 false R) ∨ BufL K w bp (encs o) 0 2 false R
def BStQ (K : Nat → Prop) (bp : Nat) (w : World) (o : List Nat) (e : Ending) (w' : World) : Prop := e = .returned (.tuple #[]) ∧ Hid (BSt K w' bp o) ∧ Kp K w w'
section
variable {K : Nat → Prop} {w : World} {bp : Nat} {o : List Nat}
theorem BSt.anti {K' : Nat → Prop} (h : BSt K w bp o) (hk : ∀ k, K' k → K k) : BSt K' w bp o := by
  obtain ⟨R, h | h⟩ := h
  · exact ⟨R, .inl ⟨h.1, h.2.anti hk⟩⟩
  · exact ⟨R, .inr (h.anti hk)⟩
theorem BSt.keep (h : BSt K w bp o) (x : Obj) : BSt (fun k => K k ∨ k = w.heap.size) (w.alloc x) bp o := by
  obtain ⟨R, ⟨h0, a, c, h⟩ | ⟨a, c, h⟩⟩ := h
  · exact ⟨R, .inl ⟨h0, a, c, h.keep x⟩⟩
  · exact ⟨R, .inr ⟨a, c, h.keep x⟩⟩
theorem BSt.hK (h : BSt K w bp o) : ∀ k, K k → k < w.heap.size := by
  obtain ⟨R, ⟨_, h⟩ | h⟩ := h
  · exact h.hK
  · exact h.hK
theorem BSt.lt (h : BSt K w bp o) : bp < w.heap.size := by
  obtain ⟨R, ⟨_, h⟩ | h⟩ := h
  · exact h.lt
  · exact h.lt
theorem spr_red (s : ByteArray) : sprG [] none [⟨4, s, 0⟩] = runes s := by simp [sprG, putN]
theorem red_ok {s : ByteArray} (hs : Txt s (runes s)) (hm : Mk (runes s)) : ∀ a ∈ [(⟨4, s, 0⟩ : AArg)], a.Ok := by
  intro a ha
  rcases List.mem_singleton.1 ha with rfl
  exact ⟨by simp, hs, (fun h => by cases h), fun _ => hm, by simp, by simp⟩
theorem IfAt.anti {K' : Nat → Prop} {v : Value} {xs : List Value} (h : IfAt K w v xs) (hk : ∀ k, K k → K' k) : IfAt K' w v xs := by
  obtain ⟨q, b, o, c, hv, hc, hm, hq, hx⟩ := h
  exact ⟨q, b, o, c, hv, hc, hm, hq.imp id fun h => ⟨h.1, hk _ h.2⟩, hx⟩
theorem fprint_one (v : Value) (s : ByteArray) {R : Nat → Option Value} (h : BufL K w bp (encs o) 0 2 false R) (hE : Env K w bp) (hv : IfAt K w v [.iface 50 (.string s)]) (hs : Txt s (runes s)) (hm : Mk (runes s)) (hll : (encs o).length ≤ 50000) :
    Calls Tryz.prog 123 #[.iface 118 (.pointer (some ⟨bp, 0, none⟩)), v] w (BufQ K bp w (.tuple #[.int .i64 (encs (runes s)).length, .nilIface]) (encs (o ++ runes s)) 0 2 false R) := by
  have hlt := h.lt
  have h1 := fprint_any v [⟨4, s, 0⟩] bp h ⟨hE.2.2.2, by have := hE.2.2.1; omega⟩ (hv.anti h.hK) (by simp) (red_ok hs hm) hll
  rw [spr_red, ← encs_append] at h1
  exact h1
set_option maxHeartbeats 1000000 in
theorem print_any (v : Value) (s : ByteArray) (h : BSt K w bp o) (hE : Env K w bp) (hv : IfAt K w v [.iface 50 (.string s)]) (hs : Txt s (runes s)) (hm : Mk (runes s)) (hll : (encs o).length ≤ 50000) :
    Calls Tryz.prog 88 #[.pointer (some ⟨bp, 0, none⟩), v] w (BStQ K bp w (o ++ runes s)) := by
  obtain ⟨R, ⟨rfl, h⟩ | h⟩ := h
  · have HM := Lib.hid (setMode_any 2 h (by decide) (.inl rfl) (by decide) (by decide) (Nat.le_refl _) hE.2.2.2 hE.2.2.1 (by rfl) (fun h => by cases h))
    have e : smL [] 0 0 false = encs [] := by rfl
    rw [e] at HM
    have HF := Lib.hid (fun w1 (h1 : BufL K w1 bp (encs []) 0 2 false R) (hk : Kp K w w1) => fprint_one v s h1 (hE.kp hk) (hv.kp hk) hs hm (by decide))
    clear h hE hv hs hm e hll
    go_enter Tryz.func88, Tryz.ntmps88
    go_wp2_with fail
    refine HM.out.mono ?_
    rintro e w1 ⟨rfl, h1, hk1⟩
    go_wp2_with fail
    refine (HF.out w1 h1.out hk1).mono ?_
    rintro e w2 ⟨rfl, h2, hk2⟩
    go_wp2_with fail
    first | go_end0 | ((try simp only [Exit.inBlock, Exit.then]); refine bodyPost_ret (results_none rfl _ _ _) rfl ?_)
    exact ⟨rfl, ⟨R, .inr h2.out⟩, hk1.trans hk2⟩
  · have HM := Lib.hid (setMode_same h)
    have HF := Lib.hid (fprint_one v s h hE hv hs hm hll)
    clear h hE hv hs hm hll
    go_enter Tryz.func88, Tryz.ntmps88
    go_wp2_with fail
    refine HM.out.mono ?_
    rintro e w1 ⟨rfl, rfl⟩
    go_wp2_with fail
    refine HF.out.mono ?_
    rintro e w2 ⟨rfl, h2, hk2⟩
    go_wp2_with fail
    first | go_end0 | ((try simp only [Exit.inBlock, Exit.then]); refine bodyPost_ret (results_none rfl _ _ _) rfl ?_)
    exact ⟨rfl, ⟨R, .inr h2.out⟩, hk2⟩
theorem elemR : Tryz.prog.elem 59 = 50 := by kernel_rfl
theorem undR : Tryz.prog.underlying 59 = some (.slice (Tryz.prog.elem 59)) := by rw [elemR]; exact Tryz.underlying59
theorem IfAt.lenR {v : Value} {xs : List Value} (h : IfAt K w v xs) (ty : TypeId) : ∀ w', (Builtin.len_ #[59] ty #[v]).run Tryz.prog w' = .ok (.int .i64 xs.length) w' := by
  obtain ⟨q, b, o, c, rfl, hc, hm, hq, hx⟩ := h
  intro w'
  exact run_len_slice w' _ _ _ _ _ undR
theorem IfAt.atR {v : Value} {xs : List Value} (h : IfAt K w v xs) (i : Nat) (h1 : i < xs.length) :
    ∃ a : Addr, (∀ w', (Instr.indexAt 59 v (.int .i64 i)).run Tryz.prog w' = .ok (.pointer (some a)) w') ∧ ∀ W, IfAt K W v xs → W.cell? a = some (xs[i]'h1) := by
  obtain ⟨q, b, o, c, rfl, hc, hm, hq, hx⟩ := h
  have hl : xs ≠ [] := by intro hn; rw [hn] at h1; simp at h1
  rcases hq with hq | ⟨rfl, hK⟩
  · exact absurd hq hl
  · refine ⟨⟨b, o + i, none⟩, fun w' => ?_, ?_⟩
    · have h3 : ¬ xs.length ≤ i := by omega
      simp [Instr.indexAt, asIntOf, run_underlying undR, elemR, h3, add_plain]
    · rintro W ⟨q2, b2, o2, c2, hv, hc2, hm2, hq2, hx2⟩
      injection hv with e1 e2 e3
      rcases hq2 with hq2 | hq2
      · exact absurd hq2 hl
      · rw [hq2.1] at e1
        injection e1 with e1
        injection e1 with e1 e4 _
        subst e1; subst e4
        exact hx2 i h1
theorem elemS : Tryz.prog.elem 33 = 9 := by kernel_rfl
theorem undS : Tryz.prog.underlying 33 = some (.slice (Tryz.prog.elem 33)) := by rw [elemS]; exact Tryz.underlying33
theorem IfAt.lenS {v : Value} {xs : List Value} (h : IfAt K w v xs) (ty : TypeId) : ∀ w', (Builtin.len_ #[33] ty #[v]).run Tryz.prog w' = .ok (.int .i64 xs.length) w' := by
  obtain ⟨q, b, o, c, rfl, hc, hm, hq, hx⟩ := h
  intro w'
  exact run_len_slice w' _ _ _ _ _ undS
theorem IfAt.atS {v : Value} {xs : List Value} (h : IfAt K w v xs) (i : Nat) (h1 : i < xs.length) :
    ∃ a : Addr, (∀ w', (Instr.indexAt 33 v (.int .i64 i)).run Tryz.prog w' = .ok (.pointer (some a)) w') ∧ ∀ W, IfAt K W v xs → W.cell? a = some (xs[i]'h1) := by
  obtain ⟨q, b, o, c, rfl, hc, hm, hq, hx⟩ := h
  have hl : xs ≠ [] := by intro hn; rw [hn] at h1; simp at h1
  rcases hq with hq | ⟨rfl, hK⟩
  · exact absurd hq hl
  · refine ⟨⟨b, o + i, none⟩, fun w' => ?_, ?_⟩
    · have h3 : ¬ xs.length ≤ i := by omega
      simp [Instr.indexAt, asIntOf, run_underlying undS, elemS, h3, add_plain]
    · rintro W ⟨q2, b2, o2, c2, hv, hc2, hm2, hq2, hx2⟩
      injection hv with e1 e2 e3
      rcases hq2 with hq2 | hq2
      · exact absurd hq2 hl
      · rw [hq2.1] at e1
        injection e1 with e1
        injection e1 with e1 e4 _
        subst e1; subst e4
        exact hx2 i h1
theorem print_new (s : ByteArray) (h : BSt K w bp o) (hE : Env K w bp) (hs : Txt s (runes s)) (hm : Mk (runes s)) (hll : (encs o).length ≤ 50000) :
    Calls Tryz.prog 88 #[.pointer (some ⟨bp, 0, none⟩), .slice (some ⟨w.heap.size, 0, none⟩) 1 1] (w.alloc (.cells #[.iface 50 (.string s)] 20)) fun e w' => e = .returned (.tuple #[]) ∧ Hid (BSt K w' bp (o ++ runes s)) ∧ Kp K w w' := by
  have hkp : Kp K w (w.alloc (.cells #[.iface 50 (.string s)] 20)) := Kp.of_below h.hK ((Below.refl _ w).alloc (Nat.le_refl _) _)
  have hE2 := hE.kp hkp
  refine (print_any _ s (h.keep (.cells #[.iface 50 (.string s)] 20)) ⟨.inl hE2.1, .inl hE2.2.1, hE2.2.2.1, hE2.2.2.2⟩ ⟨_, w.heap.size, 0, 1, rfl, Nat.le_refl _, by decide, .inr ⟨rfl, .inr rfl⟩, fun j hj => ?_⟩ hs hm hll).mono ?_
  · obtain rfl : j = 0 := by simp at hj; omega
    exact cell_new _ _ _ _
  · rintro e w' ⟨rfl, hb, hk⟩
    exact ⟨rfl, hb.out.anti fun k hk => .inl hk, hkp.trans (hk.anti fun k hk => .inl hk)⟩
/-- What JoinTo makes. -/
def jn (b : List Nat) : Bool → List Nat → List ByteArray → List Nat
  | _, o, [] => o
  | f, o, s :: l => jn b false ((if f then o else o ++ b) ++ runes s) l
theorem jn_step {b o : List Nat} {f : Bool} {ss : List ByteArray} {k : Nat} (hk : k < ss.length) {g : List Nat} (h : jn b f o (ss.drop k) = g) : jn b false ((if f then o else o ++ b) ++ runes (ss[k]'hk)) (ss.drop (k + 1)) = g := by
  rw [List.drop_eq_getElem_cons hk] at h
  exact h
set_option maxHeartbeats 1000000 in
set_option maxRecDepth 100000 in
theorem joinTo_any (v : Value) (b : ByteArray) (ss : List ByteArray) (h : BSt K w bp []) (hE : Env K w bp) (hv : IfAt K w v (ss.map .string)) (hb : Txt b (runes b)) (hbm : Mk (runes b)) (hss : ∀ s ∈ ss, Txt s (runes s) ∧ Mk (runes s)) (hl : ss.length ≤ 20) :
    Calls Tryz.prog 79 #[.pointer (some ⟨bp, 0, none⟩), .string b, v] w (BStQ K bp w (jn (runes b) true [] ss)) := by
  have hlen := hv.lenR 3
  rw [List.length_map] at hlen
  generalize hG : jn (runes b) true [] ss = g
  have HG := Lib.hid hG; clear hG
  have HV := Lib.hid hv; clear hv
  have HS := Lib.hid hss; clear hss
  have HE := Lib.hid hE; clear hE
  have HB := Lib.hid (And.intro hb hbm)
  have hbl := hb.len
  clear hb hbm
  have H := Lib.hid h; clear h
  go_enter Tryz.func79, Tryz.ntmps79
  go_wp2_with fail
  go_loopw [6] (fun i wr => ∃ (k : Nat) (o : List Nat), i = .int .i64 k ∧ k ≤ ss.length ∧ (encs o).length ≤ 200 * k ∧ Hid (jn (runes b) (k == 0) o (ss.drop k) = g) ∧ Hid (BSt K wr bp o) ∧ Hid (Kp K w wr))
    (fun i _ => ss.length - (intOf i).toNat)
  case atStart => exact ⟨0, [], rfl, Nat.zero_le _, by decide, HG.out, H.out, Kp.refl _ _⟩
  case round =>
    obtain ⟨k, o, rfl, hk, hol, hst, hbs, hkp⟩ := hrel
    by_cases hlt : k < ss.length
    · obtain ⟨qa, hix, hcell⟩ := HV.out.atR k (by rw [List.length_map]; exact hlt)
      have HC := Lib.hid hcell; clear hcell
      have HX : Hid (Txt (ss[k]'hlt) (runes (ss[k]'hlt)) ∧ Mk (runes (ss[k]'hlt))) := HS.out _ (List.getElem_mem _)
      have HST := Lib.hid (jn_step hlt hst.out)
      have HCC : Hid (∀ W, Kp K w W → W.cell? qa = some (.string (ss[k]'hlt))) := fun W hW => by
        have := HC.out W (HV.out.kp hW)
        rwa [List.getElem_map] at this
      clear HC
      obtain ⟨x, hx⟩ : ∃ x, ss[k]'hlt = x := ⟨_, rfl⟩
      rw [hx] at HX HST HCC
      clear hx
      have hxl := HX.out.1.len
      by_cases hk0 : k = 0
      · have d0 : decide (0 < k) = false := by simp; omega
        have HST : Hid (jn (runes b) false (o ++ runes x) (ss.drop (k + 1)) = g) := by have := HST.out; rw [show (k == 0) = true by simp [hk0]] at this; exact this
        clear hk0
        have hc := HCC.out wr hkp.out
        go_wp2_with fail
        refine (print_new x hbs.out (HE.out.kp hkp.out) HX.out.1 HX.out.2 (by omega)).mono ?_
        rintro e w2 ⟨rfl, hb2, hk2⟩
        have HK2 := Lib.hid (hkp.out.trans hk2); clear hk2
        go_wp2_with fail
        go_roundw
        case rel => exact ⟨k + 1, _, by go_num, by omega, by rw [encs_append, List.length_append]; omega, by rw [show (k + 1 == 0) = false by simp]; exact HST.out, hb2.out, HK2.out⟩
        case measure => simp [intOf]; omega
      · have d0 : decide (0 < k) = true := by simp; omega
        have HST : Hid (jn (runes b) false ((o ++ runes b) ++ runes x) (ss.drop (k + 1)) = g) := by have := HST.out; rw [show (k == 0) = false by simp [hk0]] at this; exact this
        clear hk0
        go_wp2_with fail
        refine (print_new b hbs.out (HE.out.kp hkp.out) HB.out.1 HB.out.2 (by omega)).mono ?_
        rintro e w2 ⟨rfl, hb2, hk2⟩
        have HK2 := Lib.hid (hkp.out.trans hk2); clear hk2
        have hc := HCC.out w2 HK2.out
        go_wp2_with fail
        refine (print_new x hb2.out (HE.out.kp HK2.out) HX.out.1 HX.out.2 (by rw [encs_append, List.length_append]; omega)).mono ?_
        rintro e w3 ⟨rfl, hb3, hk3⟩
        have HK3 := Lib.hid (HK2.out.trans hk3); clear hk3
        go_wp2_with fail
        go_roundw
        case rel => exact ⟨k + 1, _, by go_num, by omega, by rw [encs_append, encs_append, List.length_append, List.length_append]; omega, by rw [show (k + 1 == 0) = false by simp]; exact HST.out, hb3.out, HK3.out⟩
        case measure => simp [intOf]; omega
    · have hfin : o = g := by have := hst.out; rw [List.drop_of_length_le (by omega)] at this; exact this
      have HF := Lib.hid hfin; clear hfin
      go_wp2_with fail
      first | go_end0 | ((try simp only [Exit.inBlock, Exit.then]); refine bodyPost_ret (results_none rfl _ _ _) rfl ?_)
      exact ⟨rfl, by rw [← HF.out]; exact hbs, hkp.out⟩
end
end Go.Proofs.YtlmcglaajmjanaaGreatDoor
