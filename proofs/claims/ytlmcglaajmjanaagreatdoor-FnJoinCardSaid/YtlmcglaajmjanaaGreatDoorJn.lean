/- Walks: Fprint into a buffer; the builder's Print. -/
import Derived.Test.YtlmcglaajmjanaaGreatDoorOk
import Derived.Test.YtlmcglaajmjanaaGreatDoorSp
import Derived.Test.YtlmcglaajmjanaaGreatDoorBufD
import Derived.Handy
import Derived.Deep.DeepCutAuto
namespace Go.Proofs.YtlmcglaajmjanaaGreatDoor
open Go.RowKit
section
variable {K : Nat → Prop} {w : World} {p : Nat} {a : Option Addr} {n c : Nat} {xs : List Value} {l : List UInt8} {vu : Nat} {m : Int} {mo : Bool} {R : Nat → Option Value}
/-- All that is new is kept too. -/
theorem Buf.keepN (h : Buf K w p a n c xs vu m mo R) {w' : World} (hb : Below w.heap.size w w') : Buf (fun k => K k ∨ (w.heap.size ≤ k ∧ k < w'.heap.size)) w' p a n c xs vu m mo R := by
  have h' := h.below hb
  refine ⟨fun k hk => ?_, fun hk => ?_, h'.blk, ?_⟩
  · rcases hk with hk | hk
    · exact h'.hK k hk
    · exact hk.2
  · rcases hk with hk | hk
    · exact h.hp hk
    · have := h.lt; omega
  · rcases h.row with h1 | ⟨g, cur, ha, hg, hh, r⟩
    · exact .inl h1
    · have hlt : g < w.heap.size := (Array.getElem?_eq_some_iff.1 hh).1
      refine .inr ⟨g, cur, ha, ⟨hg.1, fun hk => ?_⟩, by rw [hb.block g hlt]; exact hh, r⟩
      rcases hk with hk | hk
      · exact hg.2 hk
      · omega
theorem BufL.keepN (h : BufL K w p l vu m mo R) {w' : World} (hb : Below w.heap.size w w') : BufL (fun k => K k ∨ (w.heap.size ≤ k ∧ k < w'.heap.size)) w' p l vu m mo R := by
  obtain ⟨a, c, h⟩ := h; exact ⟨a, c, h.keepN hb⟩
theorem BufL.anti {K' : Nat → Prop} (h : BufL K w p l vu m mo R) (hk : ∀ k, K' k → K k) : BufL K' w p l vu m mo R := by
  obtain ⟨a, c, h⟩ := h; exact ⟨a, c, h.anti hk⟩
theorem BAt.kp {w' : World} {v : Value} {t : List UInt8} (h : BAt w v t) (hk : Kp K w w') (hb : ∀ b n c, v = .slice (some b) n c → b.block < w.heap.size → K b.block) : BAt w' v t := by
  obtain ⟨p, b, o, c, rfl, hc, hm, hp, hx⟩ := h
  refine ⟨p, b, o, c, rfl, hc, hm, hp, fun j hj => ?_⟩
  rcases hp with ⟨h0, _⟩ | rfl
  · rw [h0] at hj; cases hj
  · have h1 := hx j hj
    have hlt := World.block_lt_of_cell? w _ h1
    rw [hk.cell (hb _ _ _ rfl hlt) (o + j)]; exact h1
/-- The row of the slice is none of K. -/
def OffK (K : Nat → Prop) (v : Value) : Prop := ∀ b n c, v = .slice (some b) n c → ¬ K b.block
def TakeFQ (K : Nat → Prop) (w : World) (L : List UInt8) (e : Ending) (w' : World) : Prop := ∃ v, e = .returned v ∧ Hid (BAt w' v L ∧ OffK K v) ∧ Kp K w w'
set_option maxHeartbeats 1000000 in
set_option maxRecDepth 100000 in
theorem takeBytesF_any (h : BufL K w p l vu m mo R) (hm : m = 0 ∨ m = 1 ∨ m = 2) (hl : l.length ≤ 50000) (hl2 : (finE l vu m).length ≤ 90000) (hv : vu ≤ l.length) (hT : Tabs w) (hz : 2 < p) (hbad : badEnd l = false) (hn : mo = true → finE l vu m ≠ []) :
    Calls Tryz.prog 153 #[.pointer (some ⟨p, 0, none⟩)] w (TakeFQ K w (finL l vu m mo)) := by
  have HFin := Lib.hid (finalize_any h hm hl hl2 hv hT hz hbad hn)
  clear h hm hl hl2 hv hT hbad hn
  generalize finL l vu m mo = L at HFin
  go_enter Tryz.func153, Tryz.ntmps153
  go_wp2_with fail
  refine HFin.out.mono ?_
  rintro e w1 ⟨rfl, h1, hb1⟩
  obtain ⟨a1, c1, h1⟩ := h1.out
  have d0 := h1.c0
  have d1 := h1.c1
  have d2 := h1.c2
  have g0 := h1.fz 0
  have g1 := h1.fz 1
  have g2 := h1.fz 2
  have H1 := Lib.hid h1; clear h1
  go_wp2_with fail
  go_ret
  refine ⟨_, rfl, ⟨H1.out.bat_off _ _ _ 0 1 2, fun b n c hv => ?_⟩, ((hb1.setCell H1.out.hp _ _).setCell H1.out.hp _ _).setCell H1.out.hp _ _⟩
  injection hv with e1 _ _
  rcases H1.out.row with ⟨h1, _⟩ | ⟨g, cur, ha, hg, _⟩
  · rw [h1] at e1; cases e1
  · rw [ha] at e1; injection e1 with e1; rw [← e1]; exact hg.2
theorem takeF_ps {o : List Nat} (h : Ps K w p o 0) (hg : GoodT o 40000) : Calls Tryz.prog 153 #[.pointer (some ⟨p, 0, none⟩)] w (TakeFQ K w (encs o)) := by
  obtain ⟨a, t, rfl, hn, R, hR, h, hE⟩ := h
  have hle := hg.le
  have hf := fin_1 hg.sc hn
  have hfe : finE (encs (a ++ t)) (encs a).length 1 = encs (a ++ t) := smE_1 hg.sc hn
  refine (takeBytesF_any h (.inr (.inl rfl)) (by omega) (by rw [hfe]; omega) (by rw [encs_append, List.length_append]; omega) hE.2.2.2 hE.2.2.1 (badEnd_enc hg.sc) (fun h => by cases h)).mono ?_
  rintro e w' hq
  rw [hf] at hq
  exact hq
theorem nil_write (a : Addr) (w : World) : (nilAhead 316 118 (.pointer (some a)) "Write").run Tryz.prog w = .ok (some false) w := by kernel_rfl
theorem method_write (a : Addr) (w : World) : (method 316 118 (.pointer (some a)) "Write").run Tryz.prog w = .ok (125, .pointer (some a)) w := by kernel_rfl
def FwQ (K : Nat → Prop) (bp : Nat) (w : World) (r : Value) (l : List UInt8) (vu : Nat) (m : Int) (mo : Bool) (R : Nat → Option Value) (e : Ending) (w' : World) : Prop := e = .returned r ∧ Hid (BufL K w' bp l vu m mo R) ∧ Kp K w w'
theorem fwrite_any {w3 : World} (y : Value) (t : List UInt8) {bp : Nat} (h : BufL K w bp l vu 2 false R) (hy : BAt w3 y t) (hoff : OffK (· < w.heap.size) y) (hll : l.length ≤ 50000) (htl : t.length ≤ 40000) (hb : Below w.heap.size w w3) :
    Calls Tryz.prog 125 #[.pointer (some ⟨bp, 0, none⟩), y] w3 (FwQ K bp w (.tuple #[.int .i64 t.length, .nilIface]) (l ++ t) vu 2 false R) := by
  refine (write_any y t (h.keepN hb) hy (by omega) (by omega) (fun h => by cases h) (fun w' a' n' c' xs' vu' mo' _ hk => hy.kp hk fun b n c hv hlt => .inr ⟨by have := hoff b n c hv; omega, hlt⟩)).mono ?_
  rintro e w4 ⟨rfl, h4, hk4⟩
  exact ⟨rfl, h4.out.anti (fun k hk => .inl hk), (Kp.of_below h.hK hb).trans (hk4.anti fun k hk => .inl hk)⟩
set_option maxHeartbeats 4000000 in
set_option maxRecDepth 100000 in
theorem fprint_any (v : Value) (la : List AArg) (bp : Nat) (h : BufL K w bp l vu 2 false R) (hT : TabW w) (hv : IfAt (· < w.heap.size) w v (la.map AArg.pv)) (hl : la.length ≤ 10) (hok : ∀ a ∈ la, a.Ok) (hll : l.length ≤ 50000) :
    Calls Tryz.prog 123 #[.iface 118 (.pointer (some ⟨bp, 0, none⟩)), v] w (BufQ K bp w (.tuple #[.int .i64 (encs (sprG [] none la)).length, .nilIface]) (l ++ encs (sprG [] none la)) vu 2 false R) := by
  have hP := newPP_pp w hT
  have hK0 : Kp (· < w.heap.size) w (initW (w.alloc (.cells Z0 89)).drew w.heap.size) := Kp.of_below (fun _ h => h) (initW_below w)
  have HD := Lib.hid (doPrint_any v la hP (hv.kp hK0) hl hok)
  have HG := Lib.hid ((GoodT.spr la [] none 0 GoodT.nil hok).mono (show 0 + 411 * la.length ≤ 40000 by omega))
  have HK0 := Lib.hid hK0
  have HB := Lib.hid h
  clear hP hK0 hv hok hT h
  generalize sprG [] none la = g at HD HG ⊢
  generalize hW : initW (w.alloc (.cells Z0 89)).drew w.heap.size = W at HD HK0
  have HW := Lib.hid hW; clear hW
  go_enter Tryz.func123, Tryz.ntmps123
  go_wp2_with fail
  refine (newPrinter_any w).mono ?_
  rintro e w1 ⟨rfl, hw1⟩
  obtain rfl : w1 = W := hw1.trans HW.out
  clear hw1
  go_wp2_with fail
  refine HD.out.mono ?_
  rintro e w2 ⟨rfl, h2, hb2⟩
  have H2 : Hid (Ps (· < w.heap.size) w2.drew w.heap.size g 0) := by
    obtain ⟨a, t, e1, e2, e3⟩ := h2.out
    exact ⟨a, t, e1, e2, e3.below (Below.refl _ _).drew⟩
  have hb2 : Kp (· < w.heap.size) w w2.drew := (HK0.out.trans hb2).drewN 1
  clear h2
  have hmf : ∀ (fn : Fn) (first cap : Array Value) (w : World), (Instr.makeFunc fn first cap).run Tryz.prog w = .ok (.func fn first cap) w := fun _ _ _ _ => rfl
  have nw := fun w => nil_write ⟨bp, 0, none⟩ w
  have mw := fun w => method_write ⟨bp, 0, none⟩ w
  go_upto_region 3 with fail
  go_cut [4, 5] (fun s4 s5 wx => s4 = .int .i64 (encs g).length ∧ s5 = .nilIface ∧ Hid (BufL K wx bp (l ++ encs g) vu 2 false R) ∧ Kp K w wx)
  case first =>
    go_region_with (first
      | (go_at_call 153; refine (takeF_ps H2.out HG.out).mono ?_; rintro e w3 ⟨y, rfl, hy, hb3⟩; have HWr := Lib.hid (fwrite_any y (encs g) HB.out hy.out.1 hy.out.2 hll (by have := HG.out.le; omega) (hb2.trans hb3).below); clear hb3 hy)
      | (go_at_call 125; refine HWr.out.mono ?_; rintro e w4 ⟨rfl, h4, hk4⟩))
    all_goals (go_wp2_with fail; go_meet; exact ⟨rfl, rfl, h4, hk4⟩)
  case rest =>
    obtain ⟨rfl, rfl, h4, hk4⟩ := hcut
    go_wp2_with fail
    refine bodyPost_ret (v := .tuple #[.int .i64 (encs g).length, .nilIface]) (by simp [results, Tryz.results123, go_sem]) rfl ?_
    exact ⟨rfl, h4, hk4⟩
end
end Go.Proofs.YtlmcglaajmjanaaGreatDoor
