/- Walks of package redactfmt: overrides and their restoring. -/
import Derived.Test.YtlmcglaajmjanaaGreatDoorPa
namespace Go.Proofs.YtlmcglaajmjanaaGreatDoor
open Go.RowKit
section
variable {K : Nat → Prop} {w : World} {p : Nat} {l : List UInt8} {vu : Nat} {m : Int} {mo : Bool} {R : Nat → Option Value} {ov : Int}
theorem Kp.cell {K : Nat → Prop} {w w' : World} (h : Kp K w w') {r : Nat} (hr : K r) (i : Nat) : w'.cell? ⟨r, i, none⟩ = w.cell? ⟨r, i, none⟩ := World.cell?_of_block (h.block r hr)
theorem Kp.frozen {K : Nat → Prop} {w w' : World} (h : Kp K w w') {r : Nat} (hr : K r) (i : Nat) : w'.frozen? ⟨r, i, none⟩ = w.frozen? ⟨r, i, none⟩ := by simp only [World.frozen?, h.block r hr]
/-- The tables of package utf8 stand, below p, and are kept. -/
def Env (K : Nat → Prop) (w : World) (p : Nat) : Prop := K 1 ∧ K 2 ∧ 2 < p ∧ Tabs w
theorem Env.kp {w' : World} (h : Env K w p) (hb : Kp K w w') : Env K w' p := ⟨h.1, h.2.1, h.2.2.1, fun c hc => (hb.cell h.1 c).trans (h.2.2.2.1 c hc), fun i hi => ⟨(hb.cell h.2.1 _).trans (h.2.2.2.2 i hi).1, (hb.cell h.2.1 _).trans (h.2.2.2.2 i hi).2⟩⟩
/-- The printer's whole state. -/
def PP (K : Nat → Prop) (w : World) (p : Nat) (l : List UInt8) (vu : Nat) (m : Int) (mo : Bool) (ov : Int) : Prop := ∃ R, PPR p R ov ∧ BufL K w p l vu m mo R ∧ Env K w p
theorem Buf.setR {a : Option Addr} {n c : Nat} {xs : List Value} (h : Buf K w p a n c xs vu m mo R) (i : Nat) (hi : 4 ≤ i) (x v : Value) (hx : R i = some x) : Buf K (w.setCell ⟨p, i, none⟩ v) p a n c xs vu m mo (fun j => if j = i then some v else R j) := by
  obtain ⟨cs, T, hT, hp, h0, h1, h2, h3, hr⟩ := h.blk
  refine ⟨fun k hk => by simpa [World.setCell] using h.hK k hk, h.hp, ⟨_, T, hT, Lib.heap_setCell_same (i := i) hp _, set_get h0 (by omega), set_get h1 (by omega), set_get h2 (by omega), set_get h3 (by omega), fun j hj => ?_⟩, Buf.row_set h.row i _⟩
  by_cases hji : j = i
  · subst hji
    rw [if_pos rfl]; exact set_same ((hr j hj).trans hx)
  · rw [if_neg hji, Array.getElem?_setIfInBounds_ne (by omega)]; exact hr j hj
theorem BufL.hK (h : BufL K w p l vu m mo R) : ∀ k, K k → k < w.heap.size := by obtain ⟨a, c, h⟩ := h; exact h.hK
theorem BufL.hp (h : BufL K w p l vu m mo R) : ¬ K p := by obtain ⟨a, c, h⟩ := h; exact h.hp
theorem PP.hK (h : PP K w p l vu m mo ov) : ∀ k, K k → k < w.heap.size := by obtain ⟨R, hR, h, hE⟩ := h; exact h.hK
theorem PP.hp (h : PP K w p l vu m mo ov) : ¬ K p := by obtain ⟨R, hR, h, hE⟩ := h; exact h.hp
theorem PP.env (h : PP K w p l vu m mo ov) : Env K w p := by obtain ⟨R, hR, h, hE⟩ := h; exact hE
theorem PP.setOv (h : PP K w p l vu m mo ov) (k : Int) : PP K (w.setCell ⟨p, 4, none⟩ (.int .i64 k)) p l vu m mo k := by
  have hpK := h.hp
  obtain ⟨R, hR, ⟨a, c, h⟩, hE⟩ := h
  refine ⟨_, ?_, ⟨a, c, h.setR 4 (by omega) _ (.int .i64 k) hR.ov⟩, hE.kp ((Kp.refl K w).setCell hpK _ _)⟩
  exact ⟨by simp, by simpa using hR.arg, by simpa using hR.fb, fun i h1 h2 => by rw [if_neg (by omega)]; exact hR.fl i h1 h2, by simpa using hR.wd, by simpa using hR.pr, fun i h1 h2 => by rw [if_neg (by omega)]; exact hR.ib i h1 h2, fun i h1 h2 => by rw [if_neg (by omega)]; exact hR.er i h1 h2⟩
theorem PP.setArg (h : PP K w p l vu m mo ov) (v : Value) : PP K (w.setCell ⟨p, 5, none⟩ v) p l vu m mo ov := by
  have hpK := h.hp
  obtain ⟨R, hR, ⟨a, c, h⟩, hE⟩ := h
  obtain ⟨x, hx⟩ := hR.arg
  refine ⟨_, ?_, ⟨a, c, h.setR 5 (by omega) _ v hx⟩, hE.kp ((Kp.refl K w).setCell hpK _ _)⟩
  exact ⟨by simpa using hR.ov, ⟨v, by simp⟩, by simpa using hR.fb, fun i h1 h2 => by rw [if_neg (by omega)]; exact hR.fl i h1 h2, by simpa using hR.wd, by simpa using hR.pr, fun i h1 h2 => by rw [if_neg (by omega)]; exact hR.ib i h1 h2, fun i h1 h2 => by rw [if_neg (by omega)]; exact hR.er i h1 h2⟩
theorem PP.c4 (h : PP K w p l vu m mo ov) : w.cell? ⟨p, 4, none⟩ = some (.int .i64 ov) := by obtain ⟨R, hR, h, hE⟩ := h; rw [h.cR 4 (by omega)]; exact hR.ov
theorem PP.fz (h : PP K w p l vu m mo ov) (i : Nat) : w.frozen? ⟨p, i, none⟩ = false := by obtain ⟨R, hR, h, hE⟩ := h; exact h.fz i
theorem PP.lt (h : PP K w p l vu m mo ov) : p < w.heap.size := by obtain ⟨R, hR, h, hE⟩ := h; exact h.lt
theorem PP.below {w' : World} (h : PP K w p l vu m mo ov) (hb : Below w.heap.size w w') : PP K w' p l vu m mo ov := by
  have hK := h.hK
  obtain ⟨R, hR, h, hE⟩ := h
  exact ⟨R, hR, h.below hb, hE.kp (Kp.of_below hK hb)⟩
def PPQ (K : Nat → Prop) (p : Nat) (w : World) (r : Value) (l : List UInt8) (vu : Nat) (m : Int) (mo : Bool) (ov : Int) (e : Ending) (w' : World) : Prop := e = .returned r ∧ Hid (PP K w' p l vu m mo ov) ∧ Kp K w w'
theorem Buf.setOther {a : Option Addr} {n c : Nat} {xs : List Value} (h : Buf K w p a n c xs vu m mo R) {r : Nat} (hr : K r) (i : Nat) (v : Value) : Buf K (w.setCell ⟨r, i, none⟩ v) p a n c xs vu m mo R := by
  have hpr : p ≠ r := fun e => h.hp (e ▸ hr)
  obtain ⟨cs, T, hT, hp, rest⟩ := h.blk
  refine ⟨fun k hk => by simpa [World.setCell] using h.hK k hk, h.hp, ⟨cs, T, hT, by rw [Below.heap_setCell _ _ _ _ hpr]; exact hp, rest⟩, ?_⟩
  rcases h.row with h1 | ⟨g, cur, ha, hg, hh, rest⟩
  · exact .inl h1
  · exact .inr ⟨g, cur, ha, hg, by rw [Below.heap_setCell _ _ _ _ (show g ≠ r from fun e => hg.2 (e ▸ hr))]; exact hh, rest⟩
theorem PP.setOther (h : PP K w p l vu m mo ov) {r : Nat} (hr : K r) (hr1 : r ≠ 1) (hr2 : r ≠ 2) (i : Nat) (v : Value) : PP K (w.setCell ⟨r, i, none⟩ v) p l vu m mo ov := by
  obtain ⟨R, hR, ⟨a, c, h⟩, hE⟩ := h
  refine ⟨R, hR, ⟨a, c, h.setOther hr i v⟩, hE.1, hE.2.1, hE.2.2.1, fun c hc => ?_, fun j hj => ?_⟩
  · exact (World.cell?_of_block (Below.heap_setCell _ _ _ _ (show 1 ≠ r from fun e => hr1 e.symm))).trans (hE.2.2.2.1 c hc)
  · have e2 := fun o => World.cell?_of_block (a := ⟨2, o, none⟩) (Below.heap_setCell w ⟨r, i, none⟩ v 2 (show 2 ≠ r from fun e => hr2 e.symm))
    exact ⟨(e2 _).trans (hE.2.2.2.2 j hj).1, (e2 _).trans (hE.2.2.2.2 j hj).2⟩
theorem PP.keep (h : PP K w p l vu m mo ov) (o : Obj) : PP (fun k => K k ∨ k = w.heap.size) (w.alloc o) p l vu m mo ov := by
  have hK := h.hK
  obtain ⟨R, hR, ⟨a, c, h⟩, hE⟩ := h
  have hE' := hE.kp (Kp.of_below hK ((Below.refl _ w).alloc (Nat.le_refl _) o))
  exact ⟨R, hR, ⟨a, c, h.keep o⟩, .inl hE'.1, .inl hE'.2.1, hE'.2.2⟩
theorem PP.anti {K' : Nat → Prop} (h : PP K w p l vu m mo ov) (hk : ∀ k, K' k → K k) (h1 : K' 1) (h2 : K' 2) : PP K' w p l vu m mo ov := by obtain ⟨R, hR, ⟨a, c, h⟩, hE⟩ := h; exact ⟨R, hR, ⟨a, c, h.anti hk⟩, h1, h2, hE.2.2⟩
theorem PP.drewN (h : PP K w p l vu m mo ov) (n : Nat) : PP K (w.drewN n) p l vu m mo ov := by obtain ⟨R, hR, ⟨a, c, h⟩, hE⟩ := h; exact ⟨R, hR, ⟨a, c, h.drewN n⟩, hE⟩
theorem PPQ.of_buf {r : Value} {e : Ending} {w' : World} (hR : PPR p R ov) (hE : Env K w p) (h : BufQ K p w r l vu m mo R e w') : PPQ K p w r l vu m mo ov e w' := ⟨h.1, ⟨R, hR, h.2.1.out, hE.kp h.2.2⟩, h.2.2⟩
theorem getModeP (h : PP K w p l vu m mo ov) : Calls Tryz.prog 156 #[.pointer (some ⟨p, 0, none⟩)] w fun e w' => e = .returned (.int .i64 m) ∧ w = w' := by obtain ⟨R, hR, h, hE⟩ := h; exact getMode_any h
theorem setModeP_same (h : PP K w p l vu m mo ov) : Calls Tryz.prog 101 #[.pointer (some ⟨p, 0, none⟩), .int .i64 m] w (PPQ K p w (.tuple #[]) l vu m mo ov) := by
  have h0 := h
  obtain ⟨R, hR, h, hE⟩ := h
  refine (setMode_same h).mono ?_
  rintro e w' ⟨rfl, rfl⟩
  exact ⟨rfl, h0, Kp.refl K w⟩
/-- What SetMode asks of a text. -/
structure SM (l : List UInt8) (vu : Nat) (m : Int) (mo : Bool) : Prop where
  hm : m = 0 ∨ m = 1 ∨ m = 2
  hl : l.length ≤ 50000
  hl2 : (smE l vu m).length ≤ 90000
  hv : vu ≤ l.length
  hbad : badEnd l = false
  hn : mo = true → smE l vu m ≠ []
theorem setModeP (m' : Int) (h : PP K w p l vu m mo ov) (hmm : m ≠ m') (hs : SM l vu m mo) :
    Calls Tryz.prog 101 #[.pointer (some ⟨p, 0, none⟩), .int .i64 m'] w (PPQ K p w (.tuple #[]) (smL l vu m mo) (smL l vu m mo).length m' false ov) := by
  obtain ⟨R, hR, h, hE⟩ := h
  exact (setMode_any m' h hmm hs.hm hs.hl hs.hl2 hs.hv hE.2.2.2 hE.2.2.1 hs.hbad hs.hn).mono fun e w' hq => PPQ.of_buf hR hE hq
def Rv (p : Nat) (m ov : Int) : Value := .agg #[.pointer (some ⟨p, 0, none⟩), .int .i64 m, .int .i64 ov]
theorem Kp.rblock {K : Nat → Prop} {w w1 : World} {o : Obj} (hK : ∀ k, K k → k < w.heap.size) (h : Kp (fun k => K k ∨ k = w.heap.size) (w.alloc o) w1) (a b c : Value) :
    Kp K w (((w1.setCell ⟨w.heap.size, 0, none⟩ a).setCell ⟨w.heap.size, 1, none⟩ b).setCell ⟨w.heap.size, 2, none⟩ c) := by
  have hr : ¬ K w.heap.size := fun hk => Nat.lt_irrefl _ (hK _ hk)
  exact ((((Kp.of_below hK ((Below.refl _ w).alloc (Nat.le_refl _) o)).trans (h.anti fun k hk => .inl hk)).setCell hr 0 a).setCell hr 1 b).setCell hr 2 c
theorem PP.rblock {w1 : World} {r : Nat} (h : PP (fun k => K k ∨ k = r) w1 p l vu m mo ov) (hr : 2 < r) (h1 : K 1) (h2 : K 2) (a b c : Value) :
    PP K (((w1.setCell ⟨r, 0, none⟩ a).setCell ⟨r, 1, none⟩ b).setCell ⟨r, 2, none⟩ c) p l vu m mo ov :=
  (((h.setOther (.inr rfl) (by omega) (by omega) 0 a).setOther (.inr rfl) (by omega) (by omega) 1 b).setOther (.inr rfl) (by omega) (by omega) 2 c).anti (fun k hk => .inl hk) h1 h2
theorem cell_new (w : World) (cs : Array Value) (T : TypeId) (i : Nat) : (w.alloc (.cells cs T)).cell? ⟨w.heap.size, i, none⟩ = cs[i]? := by
  unfold World.cell?
  rw [show (w.alloc (.cells cs T)).heap[(⟨w.heap.size, i, none⟩ : Addr).block]? = _ from heap_alloc_new w _]; rfl
theorem frozen_new (w : World) (cs : Array Value) (T : TypeId) (i : Nat) : (w.alloc (.cells cs T)).frozen? ⟨w.heap.size, i, none⟩ = false := by
  unfold World.frozen?
  rw [show (w.alloc (.cells cs T)).heap[(⟨w.heap.size, i, none⟩ : Addr).block]? = _ from heap_alloc_new w _]; simp
set_option maxRecDepth 100000 in
theorem startUnsafe_0 (h : PP K w p l vu 1 false 0) (hs : SM l vu 1 false) :
    Calls Tryz.prog 159 #[.pointer (some ⟨p, 0, none⟩)] w (PPQ K p w (Rv p 1 0) (smL l vu 1 false) (smL l vu 1 false).length 0 false 0) := by
  have HS := Lib.hid hs; clear hs
  have hp := h.lt
  have hz := h.env.2.2.1
  have hk := h.keep (.cells #[.pointer none, .int .i64 0, .int .i64 0] 144)
  have H := Lib.hid h; clear h
  have c4 := hk.c4
  have HK := Lib.hid hk; clear hk
  go_enter Tryz.func159, Tryz.ntmps159
  go_wp2_with fail
  refine (getModeP HK.out).mono ?_
  rintro e w1 ⟨rfl, rfl⟩
  go_wp2_with fail
  refine (setModeP 0 HK.out (by decide) HS.out).mono ?_
  rintro e w1 ⟨rfl, h1, hb1⟩
  have d4 := h1.out.c4
  have hr0 : w1.cell? ⟨w.heap.size, 0, none⟩ = some (.pointer none) := (hb1.cell (.inr rfl) 0).trans (cell_new _ _ _ _)
  have hr1 : w1.cell? ⟨w.heap.size, 1, none⟩ = some (.int .i64 0) := (hb1.cell (.inr rfl) 1).trans (cell_new _ _ _ _)
  have hr2 : w1.cell? ⟨w.heap.size, 2, none⟩ = some (.int .i64 0) := (hb1.cell (.inr rfl) 2).trans (cell_new _ _ _ _)
  have hf0 : w1.frozen? ⟨w.heap.size, 0, none⟩ = false := (hb1.frozen (.inr rfl) 0).trans (frozen_new _ _ _ _)
  have hf1 : w1.frozen? ⟨w.heap.size, 1, none⟩ = false := (hb1.frozen (.inr rfl) 1).trans (frozen_new _ _ _ _)
  have hf2 : w1.frozen? ⟨w.heap.size, 2, none⟩ = false := (hb1.frozen (.inr rfl) 2).trans (frozen_new _ _ _ _)
  go_wp2_with fail
  exact bodyPost_ret (v := (Rv p 1 0)) (by simp [results, Tryz.results159, go_sem, hr0, hr1, hr2, Rv]) rfl ⟨rfl, h1.out.rblock (by omega) H.out.env.1 H.out.env.2.1 _ _ _, Kp.rblock H.out.hK hb1 _ _ _⟩
set_option maxRecDepth 100000 in
theorem startUnsafe_1 (h : PP K w p l vu 1 mo 1) : Calls Tryz.prog 159 #[.pointer (some ⟨p, 0, none⟩)] w (PPQ K p w (Rv p 1 1) l vu 1 mo 1) := by
  have hp := h.lt
  have hz := h.env.2.2.1
  have hk := h.keep (.cells #[.pointer none, .int .i64 0, .int .i64 0] 144)
  have H := Lib.hid h; clear h
  have c4 := hk.c4
  have HK := Lib.hid hk; clear hk
  go_enter Tryz.func159, Tryz.ntmps159
  go_wp2_with fail
  refine (getModeP HK.out).mono ?_
  rintro e w1 ⟨rfl, rfl⟩
  go_wp2_with fail
  exact bodyPost_ret (v := Rv p 1 1) (by simp [results, Tryz.results159, go_sem, Rv]) rfl ⟨rfl, H.out.below ((Below.refl _ w).alloc (Nat.le_refl _) _), Kp.of_below H.out.hK ((Below.refl _ w).alloc (Nat.le_refl _) _)⟩
set_option maxRecDepth 100000 in
theorem startUnsafe_2 (h : PP K w p l vu 0 mo 2) : Calls Tryz.prog 159 #[.pointer (some ⟨p, 0, none⟩)] w (PPQ K p w (Rv p 0 2) l vu 0 mo 2) := by
  have hp := h.lt
  have hz := h.env.2.2.1
  have hk := h.keep (.cells #[.pointer none, .int .i64 0, .int .i64 0] 144)
  have H := Lib.hid h; clear h
  have c4 := hk.c4
  have HK := Lib.hid hk; clear hk
  go_enter Tryz.func159, Tryz.ntmps159
  go_wp2_with fail
  refine (getModeP HK.out).mono ?_
  rintro e w1 ⟨rfl, rfl⟩
  go_wp2_with fail
  refine (setModeP_same HK.out).mono ?_
  rintro e w1 ⟨rfl, h1, hb1⟩
  have d4 := h1.out.c4
  have hr0 : w1.cell? ⟨w.heap.size, 0, none⟩ = some (.pointer none) := (hb1.cell (.inr rfl) 0).trans (cell_new _ _ _ _)
  have hr1 : w1.cell? ⟨w.heap.size, 1, none⟩ = some (.int .i64 0) := (hb1.cell (.inr rfl) 1).trans (cell_new _ _ _ _)
  have hr2 : w1.cell? ⟨w.heap.size, 2, none⟩ = some (.int .i64 0) := (hb1.cell (.inr rfl) 2).trans (cell_new _ _ _ _)
  have hf0 : w1.frozen? ⟨w.heap.size, 0, none⟩ = false := (hb1.frozen (.inr rfl) 0).trans (frozen_new _ _ _ _)
  have hf1 : w1.frozen? ⟨w.heap.size, 1, none⟩ = false := (hb1.frozen (.inr rfl) 1).trans (frozen_new _ _ _ _)
  have hf2 : w1.frozen? ⟨w.heap.size, 2, none⟩ = false := (hb1.frozen (.inr rfl) 2).trans (frozen_new _ _ _ _)
  go_wp2_with fail
  exact bodyPost_ret (v := (Rv p 0 2)) (by simp [results, Tryz.results159, go_sem, hr0, hr1, hr2, Rv]) rfl ⟨rfl, h1.out.rblock (by omega) H.out.env.1 H.out.env.2.1 _ _ _, Kp.rblock H.out.hK hb1 _ _ _⟩
set_option maxRecDepth 100000 in
theorem startPre_0 (h : PP K w p l vu 1 false 0) (hs : SM l vu 1 false) : Calls Tryz.prog 141 #[.pointer (some ⟨p, 0, none⟩)] w (PPQ K p w (Rv p 1 0) (smL l vu 1 false) (smL l vu 1 false).length 2 false 0) := by
  have HS := Lib.hid hs; clear hs
  have hp := h.lt
  have hz := h.env.2.2.1
  have hk := h.keep (.cells #[.pointer none, .int .i64 0, .int .i64 0] 144)
  have H := Lib.hid h; clear h
  have c4 := hk.c4
  have HK := Lib.hid hk; clear hk
  go_enter Tryz.func141, Tryz.ntmps141
  go_wp2_with fail
  refine (getModeP HK.out).mono ?_
  rintro e w1 ⟨rfl, rfl⟩
  go_wp2_with fail
  refine (setModeP 2 HK.out (by decide) HS.out).mono ?_
  rintro e w1 ⟨rfl, h1, hb1⟩
  have d4 := h1.out.c4
  have hr0 : w1.cell? ⟨w.heap.size, 0, none⟩ = some (.pointer none) := (hb1.cell (.inr rfl) 0).trans (cell_new _ _ _ _)
  have hr1 : w1.cell? ⟨w.heap.size, 1, none⟩ = some (.int .i64 0) := (hb1.cell (.inr rfl) 1).trans (cell_new _ _ _ _)
  have hr2 : w1.cell? ⟨w.heap.size, 2, none⟩ = some (.int .i64 0) := (hb1.cell (.inr rfl) 2).trans (cell_new _ _ _ _)
  have hf0 : w1.frozen? ⟨w.heap.size, 0, none⟩ = false := (hb1.frozen (.inr rfl) 0).trans (frozen_new _ _ _ _)
  have hf1 : w1.frozen? ⟨w.heap.size, 1, none⟩ = false := (hb1.frozen (.inr rfl) 1).trans (frozen_new _ _ _ _)
  have hf2 : w1.frozen? ⟨w.heap.size, 2, none⟩ = false := (hb1.frozen (.inr rfl) 2).trans (frozen_new _ _ _ _)
  go_wp2_with fail
  exact bodyPost_ret (v := (Rv p 1 0)) (by simp [results, Tryz.results141, go_sem, hr0, hr1, hr2, Rv]) rfl ⟨rfl, h1.out.rblock (by omega) H.out.env.1 H.out.env.2.1 _ _ _, Kp.rblock H.out.hK hb1 _ _ _⟩
set_option maxRecDepth 100000 in
theorem startSafe_0 (h : PP K w p l vu 1 mo 0) : Calls Tryz.prog 130 #[.pointer (some ⟨p, 0, none⟩)] w (PPQ K p w (Rv p 1 0) l vu 1 mo 1) := by
  have hp := h.lt
  have hz := h.env.2.2.1
  have hk := h.keep (.cells #[.pointer none, .int .i64 0, .int .i64 0] 144)
  have H := Lib.hid h; clear h
  have c4 := hk.c4
  have HK := Lib.hid hk; clear hk
  go_enter Tryz.func130, Tryz.ntmps130
  go_wp2_with fail
  refine (getModeP HK.out).mono ?_
  rintro e w1 ⟨rfl, rfl⟩
  go_wp2_with fail
  refine (setModeP_same HK.out).mono ?_
  rintro e w1 ⟨rfl, h1, hb1⟩
  have d4 := h1.out.c4
  have g4 := h1.out.fz 4
  have hr0 : w1.cell? ⟨w.heap.size, 0, none⟩ = some (.pointer none) := (hb1.cell (.inr rfl) 0).trans (cell_new _ _ _ _)
  have hr1 : w1.cell? ⟨w.heap.size, 1, none⟩ = some (.int .i64 0) := (hb1.cell (.inr rfl) 1).trans (cell_new _ _ _ _)
  have hr2 : w1.cell? ⟨w.heap.size, 2, none⟩ = some (.int .i64 0) := (hb1.cell (.inr rfl) 2).trans (cell_new _ _ _ _)
  have hf0 : w1.frozen? ⟨w.heap.size, 0, none⟩ = false := (hb1.frozen (.inr rfl) 0).trans (frozen_new _ _ _ _)
  have hf1 : w1.frozen? ⟨w.heap.size, 1, none⟩ = false := (hb1.frozen (.inr rfl) 1).trans (frozen_new _ _ _ _)
  have hf2 : w1.frozen? ⟨w.heap.size, 2, none⟩ = false := (hb1.frozen (.inr rfl) 2).trans (frozen_new _ _ _ _)
  go_wp2_with fail
  exact bodyPost_ret (v := (Rv p 1 0)) (by simp [results, Tryz.results130, go_sem, hr0, hr1, hr2, Rv]) rfl ⟨rfl, (h1.out.setOv 1).rblock (by omega) H.out.env.1 H.out.env.2.1 _ _ _, Kp.rblock H.out.hK (hb1.setCell HK.out.hp _ _) _ _ _⟩
set_option maxRecDepth 100000 in
theorem startUnsafeOv_0 (h : PP K w p l vu 1 false 0) (hs : SM l vu 1 false) : Calls Tryz.prog 133 #[.pointer (some ⟨p, 0, none⟩)] w (PPQ K p w (Rv p 1 0) (smL l vu 1 false) (smL l vu 1 false).length 0 false 2) := by
  have HS := Lib.hid hs; clear hs
  have hp := h.lt
  have hz := h.env.2.2.1
  have hk := h.keep (.cells #[.pointer none, .int .i64 0, .int .i64 0] 144)
  have H := Lib.hid h; clear h
  have c4 := hk.c4
  have HK := Lib.hid hk; clear hk
  go_enter Tryz.func133, Tryz.ntmps133
  go_wp2_with fail
  refine (getModeP HK.out).mono ?_
  rintro e w1 ⟨rfl, rfl⟩
  go_wp2_with fail
  refine (setModeP 0 HK.out (by decide) HS.out).mono ?_
  rintro e w1 ⟨rfl, h1, hb1⟩
  have d4 := h1.out.c4
  have g4 := h1.out.fz 4
  have hr0 : w1.cell? ⟨w.heap.size, 0, none⟩ = some (.pointer none) := (hb1.cell (.inr rfl) 0).trans (cell_new _ _ _ _)
  have hr1 : w1.cell? ⟨w.heap.size, 1, none⟩ = some (.int .i64 0) := (hb1.cell (.inr rfl) 1).trans (cell_new _ _ _ _)
  have hr2 : w1.cell? ⟨w.heap.size, 2, none⟩ = some (.int .i64 0) := (hb1.cell (.inr rfl) 2).trans (cell_new _ _ _ _)
  have hf0 : w1.frozen? ⟨w.heap.size, 0, none⟩ = false := (hb1.frozen (.inr rfl) 0).trans (frozen_new _ _ _ _)
  have hf1 : w1.frozen? ⟨w.heap.size, 1, none⟩ = false := (hb1.frozen (.inr rfl) 1).trans (frozen_new _ _ _ _)
  have hf2 : w1.frozen? ⟨w.heap.size, 2, none⟩ = false := (hb1.frozen (.inr rfl) 2).trans (frozen_new _ _ _ _)
  go_wp2_with fail
  exact bodyPost_ret (v := (Rv p 1 0)) (by simp [results, Tryz.results133, go_sem, hr0, hr1, hr2, Rv]) rfl ⟨rfl, (h1.out.setOv 2).rblock (by omega) H.out.env.1 H.out.env.2.1 _ _ _, Kp.rblock H.out.hK (hb1.setCell HK.out.hp _ _) _ _ _⟩
end
end Go.Proofs.YtlmcglaajmjanaaGreatDoor
