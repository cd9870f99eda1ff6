/- Walks of package redactfmt: a printer. -/
/- Walks of package redactfmt: what is written through a printer. -/
/- Walks of package redactfmt: overrides and their restoring. -/
/- Walks of package redactfmt: restoring; texts printed. -/
/- Walks of package redactfmt: numbers printed. -/
import Derived.Test.YtlmcglaajmjanaaGreatDoorZe
import Derived.Deep.RegionWith
import Derived.LoopN
namespace Go.Proofs.YtlmcglaajmjanaaGreatDoor
open Go.RowKit
/-- The world behind fmt.init. -/
def initW (w : World) (p : Nat) : World := (((((((((w.setCell ⟨p, 6, none⟩ (.pointer (some ⟨p, 0, none⟩))).setCell ⟨p, 7, none⟩ (.bool false)).setCell ⟨p, 8, none⟩ (.bool false)).setCell ⟨p, 9, none⟩ (.bool false)).setCell ⟨p, 10, none⟩ (.bool false)).setCell ⟨p, 11, none⟩ (.bool false)).setCell ⟨p, 12, none⟩ (.bool false)).setCell ⟨p, 13, none⟩ (.bool false)).setCell ⟨p, 14, none⟩ (.bool false)).setCell ⟨p, 15, none⟩ (.bool false)
set_option maxRecDepth 100000 in
theorem init_any (w : World) (p : Nat) (cs : Array Value) (T : TypeId) (hh : w.heap[p]? = some (.cells cs T (0, 0))) (hs : cs.size = 89) :
    Calls Tryz.prog 100 #[.pointer (some ⟨p, 6, none⟩), .pointer (some ⟨p, 0, none⟩)] w fun e w' => e = .returned (.tuple #[]) ∧ w' = initW w p := by
  have hf : ∀ i, w.frozen? ⟨p, i, none⟩ = false := fun i => by simp [World.frozen?, hh]
  have c6 : w.cell? ⟨p, 6, none⟩ = some (cs[6]'(by omega)) := by simp [World.cell?, hh, show 6 < cs.size by omega]
  have f6 := hf 6
  have c7 : w.cell? ⟨p, 7, none⟩ = some (cs[7]'(by omega)) := by simp [World.cell?, hh, show 7 < cs.size by omega]
  have f7 := hf 7
  have c8 : w.cell? ⟨p, 8, none⟩ = some (cs[8]'(by omega)) := by simp [World.cell?, hh, show 8 < cs.size by omega]
  have f8 := hf 8
  have c9 : w.cell? ⟨p, 9, none⟩ = some (cs[9]'(by omega)) := by simp [World.cell?, hh, show 9 < cs.size by omega]
  have f9 := hf 9
  have c10 : w.cell? ⟨p, 10, none⟩ = some (cs[10]'(by omega)) := by simp [World.cell?, hh, show 10 < cs.size by omega]
  have f10 := hf 10
  have c11 : w.cell? ⟨p, 11, none⟩ = some (cs[11]'(by omega)) := by simp [World.cell?, hh, show 11 < cs.size by omega]
  have f11 := hf 11
  have c12 : w.cell? ⟨p, 12, none⟩ = some (cs[12]'(by omega)) := by simp [World.cell?, hh, show 12 < cs.size by omega]
  have f12 := hf 12
  have c13 : w.cell? ⟨p, 13, none⟩ = some (cs[13]'(by omega)) := by simp [World.cell?, hh, show 13 < cs.size by omega]
  have f13 := hf 13
  have c14 : w.cell? ⟨p, 14, none⟩ = some (cs[14]'(by omega)) := by simp [World.cell?, hh, show 14 < cs.size by omega]
  have f14 := hf 14
  have c15 : w.cell? ⟨p, 15, none⟩ = some (cs[15]'(by omega)) := by simp [World.cell?, hh, show 15 < cs.size by omega]
  have f15 := hf 15
  clear hf hh
  go_enter Tryz.func100, Tryz.ntmps100
  go_wp2
  go_end0
  exact ⟨rfl, rfl⟩
/-- The cells of a printer behind its buffer. -/
structure PPR (p : Nat) (R : Nat → Option Value) (ov : Int) : Prop where
  ov : R 4 = some (.int .i64 ov)
  arg : ∃ v, R 5 = some v
  fb : R 6 = some (.pointer (some ⟨p, 0, none⟩))
  fl : ∀ i, 7 ≤ i → i < 16 → R i = some (.bool false)
  wd : R 16 = some (.int .i64 0)
  pr : R 17 = some (.int .i64 0)
  ib : ∀ i, 18 ≤ i → i < 86 → ∃ b : UInt8, R i = some (.int .u8 (b.toNat : Int))
  er : ∀ i, 86 ≤ i → i < 89 → ∃ b, R i = some (.bool b)
noncomputable def Z0 : Array Value := Tryz.zeroCells89.setIfInBounds 88 (.bool false)
theorem z0_size : Z0.size = 89 := by kernel_rfl
set_option maxRecDepth 100000 in
theorem newPrinter_any (w : World) : Calls Tryz.prog 75 #[] w fun e w' => e = .returned (.pointer (some ⟨w.heap.size, 0, none⟩)) ∧ w' = initW (w.alloc (.cells Z0 89)).drew w.heap.size := by
  go_enter Tryz.func75, Tryz.ntmps75
  go_wp2_with fail
  go_region_with (go_at_call 100; refine (init_any _ w.heap.size Z0 89 (by exact heap_alloc_new w _) z0_size).mono ?_; rintro e w8 ⟨rfl, rfl⟩)
  all_goals
    go_wp2_with fail
    go_ret
    exact ⟨rfl, rfl⟩
noncomputable def Z1 (p : Nat) : Array Value := (((((((((Z0.setIfInBounds 6 (.pointer (some ⟨p, 0, none⟩))).setIfInBounds 7 (.bool false)).setIfInBounds 8 (.bool false)).setIfInBounds 9 (.bool false)).setIfInBounds 10 (.bool false)).setIfInBounds 11 (.bool false)).setIfInBounds 12 (.bool false)).setIfInBounds 13 (.bool false)).setIfInBounds 14 (.bool false)).setIfInBounds 15 (.bool false)
theorem initW_heap (w : World) : (initW (w.alloc (.cells Z0 89)).drew w.heap.size).heap[w.heap.size]? = some (.cells (Z1 w.heap.size) 89 (0, 0)) := by
  have h : (w.alloc (.cells Z0 89)).drew.heap[w.heap.size]? = some (.cells Z0 89 (0, 0)) := heap_alloc_new w _
  unfold initW Z1
  exact Lib.heap_setCell_same (i := 15) (Lib.heap_setCell_same (i := 14) (Lib.heap_setCell_same (i := 13) (Lib.heap_setCell_same (i := 12) (Lib.heap_setCell_same (i := 11) (Lib.heap_setCell_same (i := 10) (Lib.heap_setCell_same (i := 9) (Lib.heap_setCell_same (i := 8) (Lib.heap_setCell_same (i := 7) (Lib.heap_setCell_same (i := 6) h _) _) _) _) _) _) _) _) _) _
theorem z1_tail (p : Nat) : ((Z1 p).toList.drop 18).take 68 = List.replicate 68 (.int .u8 0) := by kernel_rfl
theorem z1_0 (p : Nat) : (Z1 p)[0]? = some (.slice none 0 0) := by kernel_rfl
theorem z1_1 (p : Nat) : (Z1 p)[1]? = some (.int .i64 0) := by kernel_rfl
theorem z1_2 (p : Nat) : (Z1 p)[2]? = some (.int .i64 0) := by kernel_rfl
theorem z1_3 (p : Nat) : (Z1 p)[3]? = some (.bool false) := by kernel_rfl
theorem z1_4 (p : Nat) : (Z1 p)[4]? = some (.int .i64 0) := by kernel_rfl
theorem z1_5 (p : Nat) : (Z1 p)[5]? = some (.nilIface) := by kernel_rfl
theorem z1_6 (p : Nat) : (Z1 p)[6]? = some (.pointer (some ⟨p, 0, none⟩)) := by kernel_rfl
theorem z1_7 (p : Nat) : (Z1 p)[7]? = some (.bool false) := by kernel_rfl
theorem z1_8 (p : Nat) : (Z1 p)[8]? = some (.bool false) := by kernel_rfl
theorem z1_9 (p : Nat) : (Z1 p)[9]? = some (.bool false) := by kernel_rfl
theorem z1_10 (p : Nat) : (Z1 p)[10]? = some (.bool false) := by kernel_rfl
theorem z1_11 (p : Nat) : (Z1 p)[11]? = some (.bool false) := by kernel_rfl
theorem z1_12 (p : Nat) : (Z1 p)[12]? = some (.bool false) := by kernel_rfl
theorem z1_13 (p : Nat) : (Z1 p)[13]? = some (.bool false) := by kernel_rfl
theorem z1_14 (p : Nat) : (Z1 p)[14]? = some (.bool false) := by kernel_rfl
theorem z1_15 (p : Nat) : (Z1 p)[15]? = some (.bool false) := by kernel_rfl
theorem z1_16 (p : Nat) : (Z1 p)[16]? = some (.int .i64 0) := by kernel_rfl
theorem z1_17 (p : Nat) : (Z1 p)[17]? = some (.int .i64 0) := by kernel_rfl
theorem z1_86 (p : Nat) : (Z1 p)[86]? = some (.bool false) := by kernel_rfl
theorem z1_87 (p : Nat) : (Z1 p)[87]? = some (.bool false) := by kernel_rfl
theorem z1_88 (p : Nat) : (Z1 p)[88]? = some (.bool false) := by kernel_rfl
theorem newPP {K : Nat → Prop} (w : World) (hK : ∀ k, K k → k < w.heap.size) : ∃ R, PPR w.heap.size R 0 ∧ BufL K (initW (w.alloc (.cells Z0 89)).drew w.heap.size) w.heap.size [] 0 0 false R := by
  refine ⟨fun i => (Z1 w.heap.size)[i]?, ⟨z1_4 _, ⟨_, z1_5 _⟩, z1_6 _, ?_, z1_16 _, z1_17 _, ?_, ?_⟩, none, 0, fun k hk => Nat.lt_of_lt_of_le (hK k hk) (by simp [initW, World.setCell]), fun hk => Nat.lt_irrefl _ (hK _ hk), ⟨_, _, by decide, initW_heap w, z1_0 _, z1_1 _, z1_2 _, z1_3 _, fun i _ => rfl⟩, .inl ⟨rfl, rfl, rfl, rfl⟩⟩
  · intro i h1 h2
    have : i = 7 ∨ i = 8 ∨ i = 9 ∨ i = 10 ∨ i = 11 ∨ i = 12 ∨ i = 13 ∨ i = 14 ∨ i = 15 := by omega
    rcases this with rfl | rfl | rfl | rfl | rfl | rfl | rfl | rfl | rfl
    · exact z1_7 _
    · exact z1_8 _
    · exact z1_9 _
    · exact z1_10 _
    · exact z1_11 _
    · exact z1_12 _
    · exact z1_13 _
    · exact z1_14 _
    · exact z1_15 _
  · intro i h1 h2
    have h := congrArg (fun l => l[i - 18]?) (z1_tail w.heap.size)
    simp only [List.getElem?_take_of_lt (show i - 18 < 68 by omega), List.getElem?_drop, List.getElem?_replicate, if_pos (show i - 18 < 68 by omega), show 18 + (i - 18) = i by omega, Array.getElem?_toList] at h
    exact ⟨0, h⟩
  · intro i h1 h2
    have : i = 86 ∨ i = 87 ∨ i = 88 := by omega
    rcases this with rfl | rfl | rfl
    · exact ⟨false, z1_86 _⟩
    · exact ⟨false, z1_87 _⟩
    · exact ⟨false, z1_88 _⟩
end Go.Proofs.YtlmcglaajmjanaaGreatDoor

namespace Go.Proofs.YtlmcglaajmjanaaGreatDoor
open Go.RowKit
section
variable {K : Nat → Prop} {w : World} {p : Nat} {l : List UInt8} {vu : Nat} {m : Int} {mo : Bool} {R : Nat → Option Value} {ov : Int}
theorem BufL.cR (h : BufL K w p l vu m mo R) (i : Nat) (hi : 4 ≤ i) : w.cell? ⟨p, i, none⟩ = R i := by obtain ⟨a, c, h⟩ := h; exact h.cR i hi
theorem BufL.fz (h : BufL K w p l vu m mo R) (i : Nat) : w.frozen? ⟨p, i, none⟩ = false := by obtain ⟨a, c, h⟩ := h; exact h.fz i
theorem BufL.lt (h : BufL K w p l vu m mo R) : p < w.heap.size := by obtain ⟨a, c, h⟩ := h; exact h.lt
theorem BufL.below {w' : World} (h : BufL K w p l vu m mo R) (hb : Below w.heap.size w w') : BufL K w' p l vu m mo R := by obtain ⟨a, c, h⟩ := h; exact ⟨a, c, h.below hb⟩
theorem BufL.drew (h : BufL K w p l vu m mo R) : BufL K w.drew p l vu m mo R := by obtain ⟨a, c, h⟩ := h; exact ⟨a, c, h.drew⟩
theorem fbWriteString (s : ByteArray) (h : BufL K w p l vu m mo R) (hl : l.length ≤ 90000) (hs : s.size ≤ 90000) (hz : m = 0 → mo = false → NoHash l) :
    Calls Tryz.prog 113 #[.pointer (some ⟨p, 0, none⟩), .string s] w (BufQ K p w (.tuple #[]) (swl l m mo ++ s.data.toList) (swv l vu m mo) m (swm m mo) R) := by
  have HW := Lib.hid (writeString_any s h hl hs hz)
  clear h hz
  generalize swl l m mo ++ s.data.toList = l1 at HW
  generalize swv l vu m mo = vu1 at HW
  generalize swm m mo = mo1 at HW
  go_enter Tryz.func113, Tryz.ntmps113
  go_wp2_with fail
  refine HW.out.mono ?_
  rintro e w1 ⟨rfl, h1, hb1⟩
  go_wp2_with fail
  first | go_end0 | ((try simp only [Exit.inBlock, Exit.then]); refine bodyPost_ret (results_none rfl _ _ _) rfl ?_)
  exact ⟨rfl, h1, hb1⟩
theorem fbWriteByte (x : UInt8) (h : BufL K w p l vu m mo R) (hl : l.length ≤ 90000) (hz : m = 0 → mo = false → NoHash l) (hx : m = 0 → x.toNat < 128) :
    Calls Tryz.prog 103 #[.pointer (some ⟨p, 0, none⟩), .int .u8 x.toNat] w (BufQ K p w (.tuple #[]) (swl l m mo ++ [x]) (swv l vu m mo) m (swm m mo) R) := by
  have HW := Lib.hid (writeByte_any x h hl hz hx)
  clear h hz hx
  generalize swl l m mo ++ [x] = l1 at HW
  generalize swv l vu m mo = vu1 at HW
  generalize swm m mo = mo1 at HW
  go_enter Tryz.func103, Tryz.ntmps103
  go_wp2_with fail
  refine HW.out.mono ?_
  rintro e w1 ⟨rfl, h1, hb1⟩
  go_wp2_with fail
  first | go_end0 | ((try simp only [Exit.inBlock, Exit.then]); refine bodyPost_ret (results_none rfl _ _ _) rfl ?_)
  exact ⟨rfl, h1, hb1⟩
theorem fbWrite (s : Value) (t : List UInt8) (h : BufL K w p l vu m mo R) (hs : BAt w s t) (hl : l.length ≤ 90000) (hs2 : t.length ≤ 90000) (hz : m = 0 → mo = false → NoHash l) (hp : ∀ w' a' n' c' xs' vu' mo', Buf K w' p a' n' c' xs' vu' m mo' R → Kp K w w' → BAt w' s t) :
    Calls Tryz.prog 191 #[.pointer (some ⟨p, 0, none⟩), s] w (BufQ K p w (.tuple #[]) (swl l m mo ++ t) (swv l vu m mo) m (swm m mo) R) := by
  have HW := Lib.hid (write_any s t h hs hl hs2 hz hp)
  clear h hz hp hs
  generalize swl l m mo ++ t = l1 at HW
  generalize swv l vu m mo = vu1 at HW
  generalize swm m mo = mo1 at HW
  go_enter Tryz.func191, Tryz.ntmps191
  go_wp2_with fail
  refine HW.out.mono ?_
  rintro e w1 ⟨rfl, h1, hb1⟩
  go_wp2_with fail
  first | go_end0 | ((try simp only [Exit.inBlock, Exit.then]); refine bodyPost_ret (results_none rfl _ _ _) rfl ?_)
  exact ⟨rfl, h1, hb1⟩
theorem padString_any (s : ByteArray) (hR : PPR p R ov) (h : BufL K w p l vu m mo R) (hl : l.length ≤ 90000) (hs : s.size ≤ 90000) (hz : m = 0 → mo = false → NoHash l) :
    Calls Tryz.prog 135 #[.pointer (some ⟨p, 6, none⟩), .string s] w (BufQ K p w (.tuple #[]) (swl l m mo ++ s.data.toList) (swv l vu m mo) m (swm m mo) R) := by
  have HW := Lib.hid (fbWriteString s h hl hs hz)
  have c7 := (h.cR 7 (by omega)).trans (hR.fl 7 (by omega) (by omega))
  have c6 := (h.cR 6 (by omega)).trans hR.fb
  clear h hz hR
  generalize swl l m mo ++ s.data.toList = l1 at HW
  generalize swv l vu m mo = vu1 at HW
  generalize swm m mo = mo1 at HW
  go_enter Tryz.func135, Tryz.ntmps135
  go_wp2_with fail
  refine HW.out.mono ?_
  rintro e w1 ⟨rfl, h1, hb1⟩
  go_wp2_with fail
  first | go_end0 | ((try simp only [Exit.inBlock, Exit.then]); refine bodyPost_ret (results_none rfl _ _ _) rfl ?_)
  exact ⟨rfl, h1, hb1⟩
theorem truncateString_any (s : ByteArray) (hR : PPR p R ov) (h : BufL K w p l vu m mo R) :
    Calls Tryz.prog 181 #[.pointer (some ⟨p, 6, none⟩), .string s] w fun e w' => e = .returned (.string s) ∧ w = w' := by
  have c8 := (h.cR 8 (by omega)).trans (hR.fl 8 (by omega) (by omega))
  clear h hR
  go_enter Tryz.func181, Tryz.ntmps181
  go_wp2_with fail
  go_ret
  exact ⟨rfl, rfl⟩
theorem fmtS_any (s : ByteArray) (hR : PPR p R ov) (h : BufL K w p l vu m mo R) (hl : l.length ≤ 90000) (hs : s.size ≤ 90000) (hz : m = 0 → mo = false → NoHash l) :
    Calls Tryz.prog 167 #[.pointer (some ⟨p, 6, none⟩), .string s] w (BufQ K p w (.tuple #[]) (swl l m mo ++ s.data.toList) (swv l vu m mo) m (swm m mo) R) := by
  have HW := Lib.hid (padString_any s hR h hl hs hz)
  have HT := Lib.hid (truncateString_any s hR h)
  clear h hz hR
  generalize swl l m mo ++ s.data.toList = l1 at HW
  generalize swv l vu m mo = vu1 at HW
  generalize swm m mo = mo1 at HW
  go_enter Tryz.func167, Tryz.ntmps167
  go_wp2_with fail
  refine HT.out.mono ?_
  rintro e w1 ⟨rfl, rfl⟩
  go_wp2_with fail
  refine HW.out.mono ?_
  rintro e w1 ⟨rfl, h1, hb1⟩
  go_wp2_with fail
  first | go_end0 | ((try simp only [Exit.inBlock, Exit.then]); refine bodyPost_ret (results_none rfl _ _ _) rfl ?_)
  exact ⟨rfl, h1, hb1⟩
end
end Go.Proofs.YtlmcglaajmjanaaGreatDoor

namespace Go.Proofs.YtlmcglaajmjanaaGreatDoor
open Go.RowKit
section
variable {K : Nat → Prop} {w : World} {p : Nat} {l : List UInt8} {vu : Nat} {m : Int} {mo : Bool} {R : Nat → Option Value} {ov : Int}
theorem Kp.cell {K : Nat → Prop} {w w' : World} (h : Kp K w w') {r : Nat} (hr : K r) (i : Nat) : w'.cell? ⟨r, i, none⟩ = w.cell? ⟨r, i, none⟩ := World.cell?_of_block (h.block r hr)
theorem Kp.frozen {K : Nat → Prop} {w w' : World} (h : Kp K w w') {r : Nat} (hr : K r) (i : Nat) : w'.frozen? ⟨r, i, none⟩ = w.frozen? ⟨r, i, none⟩ := by simp only [World.frozen?, h.block r hr]
/-- The tables of package utf8 stand, below p, and are kept. -/
def Env (K : Nat → Prop) (w : World) (p : Nat) : Prop := K 1 ∧ K 2 ∧ 2 < p ∧ Tabs w
theorem Env.kp {w' : World} (h : Env K w p) (hb : Kp K w w') : Env K w' p := ⟨h.1, h.2.1, h.2.2.1, fun c hc => (hb.cell h.1 c).trans (h.2.2.2.1 c hc), fun i hi => ⟨(hb.cell h.2.1 _).trans (h.2.2.2.2 i hi).1, (hb.cell h.2.1 _).trans (h.2.2.2.2 i hi).2⟩⟩
/-- The printer's whole state. -/
def PP (K : Nat → Prop) (w : World) (p : Nat) (l : List UInt8) (vu : Nat) (m : Int) (mo : Bool) (ov : Int) : Prop := ∃ R, PPR p R ov ∧ BufL K w p l vu m mo R ∧ Env K w p
theorem Buf.setR {a : Option Addr} {n c : Nat} {xs : List Value} (h : Buf K w p a n c xs vu m mo R) (i : Nat) (hi : 4 ≤ i) (x v : Value) (hx : R i = some x) : Buf K (w.setCell ⟨p, i, none⟩ v) p a n c xs vu m mo (fun j => if j = i then some v else R j) := by
  obtain ⟨cs, T, hT, hp, h0, h1, h2, h3, hr⟩ := h.blk
  refine ⟨fun k hk => by simpa [World.setCell] using h.hK k hk, h.hp, ⟨_, T, hT, Lib.heap_setCell_same (i := i) hp _, set_get h0 (by omega), set_get h1 (by omega), set_get h2 (by omega), set_get h3 (by omega), fun j hj => ?_⟩, Buf.row_set h.row i _⟩
  by_cases hji : j = i
  · subst hji
    rw [if_pos rfl]; exact set_same ((hr j hj).trans hx)
  · rw [if_neg hji, Array.getElem?_setIfInBounds_ne (by omega)]; exact hr j hj
theorem BufL.hK (h : BufL K w p l vu m mo R) : ∀ k, K k → k < w.heap.size := by obtain ⟨a, c, h⟩ := h; exact h.hK
theorem BufL.hp (h : BufL K w p l vu m mo R) : ¬ K p := by obtain ⟨a, c, h⟩ := h; exact h.hp
theorem PP.hK (h : PP K w p l vu m mo ov) : ∀ k, K k → k < w.heap.size := by obtain ⟨R, hR, h, hE⟩ := h; exact h.hK
theorem PP.hp (h : PP K w p l vu m mo ov) : ¬ K p := by obtain ⟨R, hR, h, hE⟩ := h; exact h.hp
theorem PP.env (h : PP K w p l vu m mo ov) : Env K w p := by obtain ⟨R, hR, h, hE⟩ := h; exact hE
theorem PP.setOv (h : PP K w p l vu m mo ov) (k : Int) : PP K (w.setCell ⟨p, 4, none⟩ (.int .i64 k)) p l vu m mo k := by
  have hpK := h.hp
  obtain ⟨R, hR, ⟨a, c, h⟩, hE⟩ := h
  refine ⟨_, ?_, ⟨a, c, h.setR 4 (by omega) _ (.int .i64 k) hR.ov⟩, hE.kp ((Kp.refl K w).setCell hpK _ _)⟩
  exact ⟨by simp, by simpa using hR.arg, by simpa using hR.fb, fun i h1 h2 => by rw [if_neg (by omega)]; exact hR.fl i h1 h2, by simpa using hR.wd, by simpa using hR.pr, fun i h1 h2 => by rw [if_neg (by omega)]; exact hR.ib i h1 h2, fun i h1 h2 => by rw [if_neg (by omega)]; exact hR.er i h1 h2⟩
theorem PP.setArg (h : PP K w p l vu m mo ov) (v : Value) : PP K (w.setCell ⟨p, 5, none⟩ v) p l vu m mo ov := by
  have hpK := h.hp
  obtain ⟨R, hR, ⟨a, c, h⟩, hE⟩ := h
  obtain ⟨x, hx⟩ := hR.arg
  refine ⟨_, ?_, ⟨a, c, h.setR 5 (by omega) _ v hx⟩, hE.kp ((Kp.refl K w).setCell hpK _ _)⟩
  exact ⟨by simpa using hR.ov, ⟨v, by simp⟩, by simpa using hR.fb, fun i h1 h2 => by rw [if_neg (by omega)]; exact hR.fl i h1 h2, by simpa using hR.wd, by simpa using hR.pr, fun i h1 h2 => by rw [if_neg (by omega)]; exact hR.ib i h1 h2, fun i h1 h2 => by rw [if_neg (by omega)]; exact hR.er i h1 h2⟩
theorem PP.c4 (h : PP K w p l vu m mo ov) : w.cell? ⟨p, 4, none⟩ = some (.int .i64 ov) := by obtain ⟨R, hR, h, hE⟩ := h; rw [h.cR 4 (by omega)]; exact hR.ov
theorem PP.fz (h : PP K w p l vu m mo ov) (i : Nat) : w.frozen? ⟨p, i, none⟩ = false := by obtain ⟨R, hR, h, hE⟩ := h; exact h.fz i
theorem PP.lt (h : PP K w p l vu m mo ov) : p < w.heap.size := by obtain ⟨R, hR, h, hE⟩ := h; exact h.lt
theorem PP.below {w' : World} (h : PP K w p l vu m mo ov) (hb : Below w.heap.size w w') : PP K w' p l vu m mo ov := by
  have hK := h.hK
  obtain ⟨R, hR, h, hE⟩ := h
  exact ⟨R, hR, h.below hb, hE.kp (Kp.of_below hK hb)⟩
def PPQ (K : Nat → Prop) (p : Nat) (w : World) (r : Value) (l : List UInt8) (vu : Nat) (m : Int) (mo : Bool) (ov : Int) (e : Ending) (w' : World) : Prop := e = .returned r ∧ Hid (PP K w' p l vu m mo ov) ∧ Kp K w w'
theorem Buf.setOther {a : Option Addr} {n c : Nat} {xs : List Value} (h : Buf K w p a n c xs vu m mo R) {r : Nat} (hr : K r) (i : Nat) (v : Value) : Buf K (w.setCell ⟨r, i, none⟩ v) p a n c xs vu m mo R := by
  have hpr : p ≠ r := fun e => h.hp (e ▸ hr)
  obtain ⟨cs, T, hT, hp, rest⟩ := h.blk
  refine ⟨fun k hk => by simpa [World.setCell] using h.hK k hk, h.hp, ⟨cs, T, hT, by rw [Below.heap_setCell _ _ _ _ hpr]; exact hp, rest⟩, ?_⟩
  rcases h.row with h1 | ⟨g, cur, ha, hg, hh, rest⟩
  · exact .inl h1
  · exact .inr ⟨g, cur, ha, hg, by rw [Below.heap_setCell _ _ _ _ (show g ≠ r from fun e => hg.2 (e ▸ hr))]; exact hh, rest⟩
theorem PP.setOther (h : PP K w p l vu m mo ov) {r : Nat} (hr : K r) (hr1 : r ≠ 1) (hr2 : r ≠ 2) (i : Nat) (v : Value) : PP K (w.setCell ⟨r, i, none⟩ v) p l vu m mo ov := by
  obtain ⟨R, hR, ⟨a, c, h⟩, hE⟩ := h
  refine ⟨R, hR, ⟨a, c, h.setOther hr i v⟩, hE.1, hE.2.1, hE.2.2.1, fun c hc => ?_, fun j hj => ?_⟩
  · exact (World.cell?_of_block (Below.heap_setCell _ _ _ _ (show 1 ≠ r from fun e => hr1 e.symm))).trans (hE.2.2.2.1 c hc)
  · have e2 := fun o => World.cell?_of_block (a := ⟨2, o, none⟩) (Below.heap_setCell w ⟨r, i, none⟩ v 2 (show 2 ≠ r from fun e => hr2 e.symm))
    exact ⟨(e2 _).trans (hE.2.2.2.2 j hj).1, (e2 _).trans (hE.2.2.2.2 j hj).2⟩
theorem PP.keep (h : PP K w p l vu m mo ov) (o : Obj) : PP (fun k => K k ∨ k = w.heap.size) (w.alloc o) p l vu m mo ov := by
  have hK := h.hK
  obtain ⟨R, hR, ⟨a, c, h⟩, hE⟩ := h
  have hE' := hE.kp (Kp.of_below hK ((Below.refl _ w).alloc (Nat.le_refl _) o))
  exact ⟨R, hR, ⟨a, c, h.keep o⟩, .inl hE'.1, .inl hE'.2.1, hE'.2.2⟩
theorem PP.anti {K' : Nat → Prop} (h : PP K w p l vu m mo ov) (hk : ∀ k, K' k → K k) (h1 : K' 1) (h2 : K' 2) : PP K' w p l vu m mo ov := by obtain ⟨R, hR, ⟨a, c, h⟩, hE⟩ := h; exact ⟨R, hR, ⟨a, c, h.anti hk⟩, h1, h2, hE.2.2⟩
theorem PP.drewN (h : PP K w p l vu m mo ov) (n : Nat) : PP K (w.drewN n) p l vu m mo ov := by obtain ⟨R, hR, ⟨a, c, h⟩, hE⟩ := h; exact ⟨R, hR, ⟨a, c, h.drewN n⟩, hE⟩
theorem PPQ.of_buf {r : Value} {e : Ending} {w' : World} (hR : PPR p R ov) (hE : Env K w p) (h : BufQ K p w r l vu m mo R e w') : PPQ K p w r l vu m mo ov e w' := ⟨h.1, ⟨R, hR, h.2.1.out, hE.kp h.2.2⟩, h.2.2⟩
theorem getModeP (h : PP K w p l vu m mo ov) : Calls Tryz.prog 156 #[.pointer (some ⟨p, 0, none⟩)] w fun e w' => e = .returned (.int .i64 m) ∧ w = w' := by obtain ⟨R, hR, h, hE⟩ := h; exact getMode_any h
theorem setModeP_same (h : PP K w p l vu m mo ov) : Calls Tryz.prog 101 #[.pointer (some ⟨p, 0, none⟩), .int .i64 m] w (PPQ K p w (.tuple #[]) l vu m mo ov) := by
  have h0 := h
  obtain ⟨R, hR, h, hE⟩ := h
  refine (setMode_same h).mono ?_
  rintro e w' ⟨rfl, rfl⟩
  exact ⟨rfl, h0, Kp.refl K w⟩
/-- What SetMode asks of a text. -/
structure SM (l : List UInt8) (vu : Nat) (m : Int) (mo : Bool) : Prop where
  hm : m = 0 ∨ m = 1 ∨ m = 2
  hl : l.length ≤ 50000
  hl2 : (smE l vu m).length ≤ 90000
  hv : vu ≤ l.length
  hbad : badEnd l = false
  hn : mo = true → smE l vu m ≠ []
theorem setModeP (m' : Int) (h : PP K w p l vu m mo ov) (hmm : m ≠ m') (hs : SM l vu m mo) :
    Calls Tryz.prog 101 #[.pointer (some ⟨p, 0, none⟩), .int .i64 m'] w (PPQ K p w (.tuple #[]) (smL l vu m mo) (smL l vu m mo).length m' false ov) := by
  obtain ⟨R, hR, h, hE⟩ := h
  exact (setMode_any m' h hmm hs.hm hs.hl hs.hl2 hs.hv hE.2.2.2 hE.2.2.1 hs.hbad hs.hn).mono fun e w' hq => PPQ.of_buf hR hE hq
def Rv (p : Nat) (m ov : Int) : Value := .agg #[.pointer (some ⟨p, 0, none⟩), .int .i64 m, .int .i64 ov]
theorem Kp.rblock {K : Nat → Prop} {w w1 : World} {o : Obj} (hK : ∀ k, K k → k < w.heap.size) (h : Kp (fun k => K k ∨ k = w.heap.size) (w.alloc o) w1) (a b c : Value) :
    Kp K w (((w1.setCell ⟨w.heap.size, 0, none⟩ a).setCell ⟨w.heap.size, 1, none⟩ b).setCell ⟨w.heap.size, 2, none⟩ c) := by
  have hr : ¬ K w.heap.size := fun hk => Nat.lt_irrefl _ (hK _ hk)
  exact ((((Kp.of_below hK ((Below.refl _ w).alloc (Nat.le_refl _) o)).trans (h.anti fun k hk => .inl hk)).setCell hr 0 a).setCell hr 1 b).setCell hr 2 c
theorem PP.rblock {w1 : World} {r : Nat} (h : PP (fun k => K k ∨ k = r) w1 p l vu m mo ov) (hr : 2 < r) (h1 : K 1) (h2 : K 2) (a b c : Value) :
    PP K (((w1.setCell ⟨r, 0, none⟩ a).setCell ⟨r, 1, none⟩ b).setCell ⟨r, 2, none⟩ c) p l vu m mo ov :=
  (((h.setOther (.inr rfl) (by omega) (by omega) 0 a).setOther (.inr rfl) (by omega) (by omega) 1 b).setOther (.inr rfl) (by omega) (by omega) 2 c).anti (fun k hk => .inl hk) h1 h2
theorem cell_new (w : World) (cs : Array Value) (T : TypeId) (i : Nat) : (w.alloc (.cells cs T)).cell? ⟨w.heap.size, i, none⟩ = cs[i]? := by
  unfold World.cell?
  rw [show (w.alloc (.cells cs T)).heap[(⟨w.heap.size, i, none⟩ : Addr).block]? = _ from heap_alloc_new w _]; rfl
theorem frozen_new (w : World) (cs : Array Value) (T : TypeId) (i : Nat) : (w.alloc (.cells cs T)).frozen? ⟨w.heap.size, i, none⟩ = false := by
  unfold World.frozen?
  rw [show (w.alloc (.cells cs T)).heap[(⟨w.heap.size, i, none⟩ : Addr).block]? = _ from heap_alloc_new w _]; simp
set_option maxRecDepth 100000 in
theorem startUnsafe_0 (h : PP K w p l vu 1 false 0) (hs : SM l vu 1 false) :
    Calls Tryz.prog 159 #[.pointer (some ⟨p, 0, none⟩)] w (PPQ K p w (Rv p 1 0) (smL l vu 1 false) (smL l vu 1 false).length 0 false 0) := by
  have HS := Lib.hid hs; clear hs
  have hp := h.lt
  have hz := h.env.2.2.1
  have hk := h.keep (.cells #[.pointer none, .int .i64 0, .int .i64 0] 144)
  have H := Lib.hid h; clear h
  have c4 := hk.c4
  have HK := Lib.hid hk; clear hk
  go_enter Tryz.func159, Tryz.ntmps159
  go_wp2_with fail
  refine (getModeP HK.out).mono ?_
  rintro e w1 ⟨rfl, rfl⟩
  go_wp2_with fail
  refine (setModeP 0 HK.out (by decide) HS.out).mono ?_
  rintro e w1 ⟨rfl, h1, hb1⟩
  have d4 := h1.out.c4
  have hr0 : w1.cell? ⟨w.heap.size, 0, none⟩ = some (.pointer none) := (hb1.cell (.inr rfl) 0).trans (cell_new _ _ _ _)
  have hr1 : w1.cell? ⟨w.heap.size, 1, none⟩ = some (.int .i64 0) := (hb1.cell (.inr rfl) 1).trans (cell_new _ _ _ _)
  have hr2 : w1.cell? ⟨w.heap.size, 2, none⟩ = some (.int .i64 0) := (hb1.cell (.inr rfl) 2).trans (cell_new _ _ _ _)
  have hf0 : w1.frozen? ⟨w.heap.size, 0, none⟩ = false := (hb1.frozen (.inr rfl) 0).trans (frozen_new _ _ _ _)
  have hf1 : w1.frozen? ⟨w.heap.size, 1, none⟩ = false := (hb1.frozen (.inr rfl) 1).trans (frozen_new _ _ _ _)
  have hf2 : w1.frozen? ⟨w.heap.size, 2, none⟩ = false := (hb1.frozen (.inr rfl) 2).trans (frozen_new _ _ _ _)
  go_wp2_with fail
  exact bodyPost_ret (v := (Rv p 1 0)) (by simp [results, Tryz.results159, go_sem, hr0, hr1, hr2, Rv]) rfl ⟨rfl, h1.out.rblock (by omega) H.out.env.1 H.out.env.2.1 _ _ _, Kp.rblock H.out.hK hb1 _ _ _⟩
set_option maxRecDepth 100000 in
theorem startUnsafe_1 (h : PP K w p l vu 1 mo 1) : Calls Tryz.prog 159 #[.pointer (some ⟨p, 0, none⟩)] w (PPQ K p w (Rv p 1 1) l vu 1 mo 1) := by
  have hp := h.lt
  have hz := h.env.2.2.1
  have hk := h.keep (.cells #[.pointer none, .int .i64 0, .int .i64 0] 144)
  have H := Lib.hid h; clear h
  have c4 := hk.c4
  have HK := Lib.hid hk; clear hk
  go_enter Tryz.func159, Tryz.ntmps159
  go_wp2_with fail
  refine (getModeP HK.out).mono ?_
  rintro e w1 ⟨rfl, rfl⟩
  go_wp2_with fail
  exact bodyPost_ret (v := Rv p 1 1) (by simp [results, Tryz.results159, go_sem, Rv]) rfl ⟨rfl, H.out.below ((Below.refl _ w).alloc (Nat.le_refl _) _), Kp.of_below H.out.hK ((Below.refl _ w).alloc (Nat.le_refl _) _)⟩
set_option maxRecDepth 100000 in
theorem startUnsafe_2 (h : PP K w p l vu 0 mo 2) : Calls Tryz.prog 159 #[.pointer (some ⟨p, 0, none⟩)] w (PPQ K p w (Rv p 0 2) l vu 0 mo 2) := by
  have hp := h.lt
  have hz := h.env.2.2.1
  have hk := h.keep (.cells #[.pointer none, .int .i64 0, .int .i64 0] 144)
  have H := Lib.hid h; clear h
  have c4 := hk.c4
  have HK := Lib.hid hk; clear hk
  go_enter Tryz.func159, Tryz.ntmps159
  go_wp2_with fail
  refine (getModeP HK.out).mono ?_
  rintro e w1 ⟨rfl, rfl⟩
  go_wp2_with fail
  refine (setModeP_same HK.out).mono ?_
  rintro e w1 ⟨rfl, h1, hb1⟩
  have d4 := h1.out.c4
  have hr0 : w1.cell? ⟨w.heap.size, 0, none⟩ = some (.pointer none) := (hb1.cell (.inr rfl) 0).trans (cell_new _ _ _ _)
  have hr1 : w1.cell? ⟨w.heap.size, 1, none⟩ = some (.int .i64 0) := (hb1.cell (.inr rfl) 1).trans (cell_new _ _ _ _)
  have hr2 : w1.cell? ⟨w.heap.size, 2, none⟩ = some (.int .i64 0) := (hb1.cell (.inr rfl) 2).trans (cell_new _ _ _ _)
  have hf0 : w1.frozen? ⟨w.heap.size, 0, none⟩ = false := (hb1.frozen (.inr rfl) 0).trans (frozen_new _ _ _ _)
  have hf1 : w1.frozen? ⟨w.heap.size, 1, none⟩ = false := (hb1.frozen (.inr rfl) 1).trans (frozen_new _ _ _ _)
  have hf2 : w1.frozen? ⟨w.heap.size, 2, none⟩ = false := (hb1.frozen (.inr rfl) 2).trans (frozen_new _ _ _ _)
  go_wp2_with fail
  exact bodyPost_ret (v := (Rv p 0 2)) (by simp [results, Tryz.results159, go_sem, hr0, hr1, hr2, Rv]) rfl ⟨rfl, h1.out.rblock (by omega) H.out.env.1 H.out.env.2.1 _ _ _, Kp.rblock H.out.hK hb1 _ _ _⟩
set_option maxRecDepth 100000 in
theorem startPre_0 (h : PP K w p l vu 1 false 0) (hs : SM l vu 1 false) : Calls Tryz.prog 141 #[.pointer (some ⟨p, 0, none⟩)] w (PPQ K p w (Rv p 1 0) (smL l vu 1 false) (smL l vu 1 false).length 2 false 0) := by
  have HS := Lib.hid hs; clear hs
  have hp := h.lt
  have hz := h.env.2.2.1
  have hk := h.keep (.cells #[.pointer none, .int .i64 0, .int .i64 0] 144)
  have H := Lib.hid h; clear h
  have c4 := hk.c4
  have HK := Lib.hid hk; clear hk
  go_enter Tryz.func141, Tryz.ntmps141
  go_wp2_with fail
  refine (getModeP HK.out).mono ?_
  rintro e w1 ⟨rfl, rfl⟩
  go_wp2_with fail
  refine (setModeP 2 HK.out (by decide) HS.out).mono ?_
  rintro e w1 ⟨rfl, h1, hb1⟩
  have d4 := h1.out.c4
  have hr0 : w1.cell? ⟨w.heap.size, 0, none⟩ = some (.pointer none) := (hb1.cell (.inr rfl) 0).trans (cell_new _ _ _ _)
  have hr1 : w1.cell? ⟨w.heap.size, 1, none⟩ = some (.int .i64 0) := (hb1.cell (.inr rfl) 1).trans (cell_new _ _ _ _)
  have hr2 : w1.cell? ⟨w.heap.size, 2, none⟩ = some (.int .i64 0) := (hb1.cell (.inr rfl) 2).trans (cell_new _ _ _ _)
  have hf0 : w1.frozen? ⟨w.heap.size, 0, none⟩ = false := (hb1.frozen (.inr rfl) 0).trans (frozen_new _ _ _ _)
  have hf1 : w1.frozen? ⟨w.heap.size, 1, none⟩ = false := (hb1.frozen (.inr rfl) 1).trans (frozen_new _ _ _ _)
  have hf2 : w1.frozen? ⟨w.heap.size, 2, none⟩ = false := (hb1.frozen (.inr rfl) 2).trans (frozen_new _ _ _ _)
  go_wp2_with fail
  exact bodyPost_ret (v := (Rv p 1 0)) (by simp [results, Tryz.results141, go_sem, hr0, hr1, hr2, Rv]) rfl ⟨rfl, h1.out.rblock (by omega) H.out.env.1 H.out.env.2.1 _ _ _, Kp.rblock H.out.hK hb1 _ _ _⟩
set_option maxRecDepth 100000 in
theorem startSafe_0 (h : PP K w p l vu 1 mo 0) : Calls Tryz.prog 130 #[.pointer (some ⟨p, 0, none⟩)] w (PPQ K p w (Rv p 1 0) l vu 1 mo 1) := by
  have hp := h.lt
  have hz := h.env.2.2.1
  have hk := h.keep (.cells #[.pointer none, .int .i64 0, .int .i64 0] 144)
  have H := Lib.hid h; clear h
  have c4 := hk.c4
  have HK := Lib.hid hk; clear hk
  go_enter Tryz.func130, Tryz.ntmps130
  go_wp2_with fail
  refine (getModeP HK.out).mono ?_
  rintro e w1 ⟨rfl, rfl⟩
  go_wp2_with fail
  refine (setModeP_same HK.out).mono ?_
  rintro e w1 ⟨rfl, h1, hb1⟩
  have d4 := h1.out.c4
  have g4 := h1.out.fz 4
  have hr0 : w1.cell? ⟨w.heap.size, 0, none⟩ = some (.pointer none) := (hb1.cell (.inr rfl) 0).trans (cell_new _ _ _ _)
  have hr1 : w1.cell? ⟨w.heap.size, 1, none⟩ = some (.int .i64 0) := (hb1.cell (.inr rfl) 1).trans (cell_new _ _ _ _)
  have hr2 : w1.cell? ⟨w.heap.size, 2, none⟩ = some (.int .i64 0) := (hb1.cell (.inr rfl) 2).trans (cell_new _ _ _ _)
  have hf0 : w1.frozen? ⟨w.heap.size, 0, none⟩ = false := (hb1.frozen (.inr rfl) 0).trans (frozen_new _ _ _ _)
  have hf1 : w1.frozen? ⟨w.heap.size, 1, none⟩ = false := (hb1.frozen (.inr rfl) 1).trans (frozen_new _ _ _ _)
  have hf2 : w1.frozen? ⟨w.heap.size, 2, none⟩ = false := (hb1.frozen (.inr rfl) 2).trans (frozen_new _ _ _ _)
  go_wp2_with fail
  exact bodyPost_ret (v := (Rv p 1 0)) (by simp [results, Tryz.results130, go_sem, hr0, hr1, hr2, Rv]) rfl ⟨rfl, (h1.out.setOv 1).rblock (by omega) H.out.env.1 H.out.env.2.1 _ _ _, Kp.rblock H.out.hK (hb1.setCell HK.out.hp _ _) _ _ _⟩
set_option maxRecDepth 100000 in
theorem startUnsafeOv_0 (h : PP K w p l vu 1 false 0) (hs : SM l vu 1 false) : Calls Tryz.prog 133 #[.pointer (some ⟨p, 0, none⟩)] w (PPQ K p w (Rv p 1 0) (smL l vu 1 false) (smL l vu 1 false).length 0 false 2) := by
  have HS := Lib.hid hs; clear hs
  have hp := h.lt
  have hz := h.env.2.2.1
  have hk := h.keep (.cells #[.pointer none, .int .i64 0, .int .i64 0] 144)
  have H := Lib.hid h; clear h
  have c4 := hk.c4
  have HK := Lib.hid hk; clear hk
  go_enter Tryz.func133, Tryz.ntmps133
  go_wp2_with fail
  refine (getModeP HK.out).mono ?_
  rintro e w1 ⟨rfl, rfl⟩
  go_wp2_with fail
  refine (setModeP 0 HK.out (by decide) HS.out).mono ?_
  rintro e w1 ⟨rfl, h1, hb1⟩
  have d4 := h1.out.c4
  have g4 := h1.out.fz 4
  have hr0 : w1.cell? ⟨w.heap.size, 0, none⟩ = some (.pointer none) := (hb1.cell (.inr rfl) 0).trans (cell_new _ _ _ _)
  have hr1 : w1.cell? ⟨w.heap.size, 1, none⟩ = some (.int .i64 0) := (hb1.cell (.inr rfl) 1).trans (cell_new _ _ _ _)
  have hr2 : w1.cell? ⟨w.heap.size, 2, none⟩ = some (.int .i64 0) := (hb1.cell (.inr rfl) 2).trans (cell_new _ _ _ _)
  have hf0 : w1.frozen? ⟨w.heap.size, 0, none⟩ = false := (hb1.frozen (.inr rfl) 0).trans (frozen_new _ _ _ _)
  have hf1 : w1.frozen? ⟨w.heap.size, 1, none⟩ = false := (hb1.frozen (.inr rfl) 1).trans (frozen_new _ _ _ _)
  have hf2 : w1.frozen? ⟨w.heap.size, 2, none⟩ = false := (hb1.frozen (.inr rfl) 2).trans (frozen_new _ _ _ _)
  go_wp2_with fail
  exact bodyPost_ret (v := (Rv p 1 0)) (by simp [results, Tryz.results133, go_sem, hr0, hr1, hr2, Rv]) rfl ⟨rfl, (h1.out.setOv 2).rblock (by omega) H.out.env.1 H.out.env.2.1 _ _ _, Kp.rblock H.out.hK (hb1.setCell HK.out.hp _ _) _ _ _⟩
end
end Go.Proofs.YtlmcglaajmjanaaGreatDoor

namespace Go.Proofs.YtlmcglaajmjanaaGreatDoor
open Go.RowKit
section
variable {K : Nat → Prop} {w : World} {p : Nat} {l l2 : List UInt8} {vu vu2 : Nat} {m m' : Int} {mo mo2 : Bool} {R : Nat → Option Value} {ov ov' : Int}
set_option maxHeartbeats 1000000 in
set_option maxRecDepth 100000 in
theorem restore_of (h : PP K w p l vu m mo ov) (hc : ∀ K' W, PP K' W p l vu m mo ov → Calls Tryz.prog 101 #[.pointer (some ⟨p, 0, none⟩), .int .i64 m'] W (PPQ K' p W (.tuple #[]) l2 vu2 m' mo2 ov)) (u : FrameMode) :
    CallsD Tryz.prog 131 #[Rv p m' ov'] u w fun e u' w' => u' = u ∧ PPQ K p w (.tuple #[]) l2 vu2 m' mo2 ov' e w' := by
  have hp := h.lt
  have hz := h.env.2.2.1
  have hk := h.keep (.cells #[.pointer (some ⟨p, 0, none⟩), .int .i64 m', .int .i64 ov'] 144)
  have H := Lib.hid h; clear h
  have HC := Lib.hid hc; clear hc
  have q0 := cell_new w #[.pointer (some ⟨p, 0, none⟩), .int .i64 m', .int .i64 ov'] 144 0
  have q1 := cell_new w #[.pointer (some ⟨p, 0, none⟩), .int .i64 m', .int .i64 ov'] 144 1
  have q2 := cell_new w #[.pointer (some ⟨p, 0, none⟩), .int .i64 m', .int .i64 ov'] 144 2
  simp only [List.getElem?_toArray, List.getElem?_cons_zero, List.getElem?_cons_succ] at q0 q1 q2
  have HK := Lib.hid hk; clear hk
  unfold Rv
  go_enter_d Tryz.func131, Tryz.ntmps131
  go_upto_region 1 with fail
  go_region_with (go_at_call 101; refine (HC.out (fun k => K k ∨ k = w.heap.size) _ (by exact HK.out.drewN 1)).mono ?_; rintro e w1 ⟨rfl, h1, hb1⟩; have r0 := (hb1.cell (.inr rfl) 0).trans q0; have r2 := (hb1.cell (.inr rfl) 2).trans q2; have g4 := h1.out.fz 4; have d4 := h1.out.c4)
  all_goals
    go_wp2_with fail
    go_end0
    exact ⟨rfl, (h1.out.setOv ov').anti (fun k hk => .inl hk) H.out.env.1 H.out.env.2.1, (((Kp.of_below H.out.hK ((Below.refl _ w).alloc (Nat.le_refl _) _)).drewN 1).trans (hb1.anti fun k hk => .inl hk)).setCell H.out.hp _ _⟩
theorem PP.fl (h : PP K w p l vu m mo ov) (i : Nat) (h1 : 7 ≤ i) (h2 : i < 16) : w.cell? ⟨p, i, none⟩ = some (.bool false) := by obtain ⟨R, hR, h, hE⟩ := h; rw [h.cR i (by omega)]; exact hR.fl i h1 h2
theorem restore_same (h : PP K w p l vu m mo ov) : CallsD Tryz.prog 131 #[Rv p m ov'] .returning w fun e u' w' => u' = .returning ∧ PPQ K p w (.tuple #[]) l vu m mo ov' e w' :=
  restore_of h (fun _ _ hP => setModeP_same hP) .returning
theorem restore_to (h : PP K w p l vu m mo ov) (hmm : m ≠ m') (hs : SM l vu m mo) : CallsD Tryz.prog 131 #[Rv p m' ov'] .returning w fun e u' w' => u' = .returning ∧ PPQ K p w (.tuple #[]) (smL l vu m mo) (smL l vu m mo).length m' false ov' e w' :=
  restore_of h (fun _ _ hP => setModeP m' hP hmm hs) .returning
section
variable {l1 l3 : List UInt8} {vu1 vu3 : Nat} {m0 m1 : Int} {mo1 mo3 : Bool} {ov0 ov1 : Int}
set_option maxHeartbeats 1000000 in
set_option maxRecDepth 100000 in
theorem fmtString_of (s : ByteArray) (verb : Int) (hv : verb = 118 ∨ verb = 115)
    (hS : Calls Tryz.prog 159 #[.pointer (some ⟨p, 0, none⟩)] w (PPQ K p w (Rv p m0 ov0) l1 vu1 m1 mo1 ov1))
    (hW : ∀ W, PP K W p l1 vu1 m1 mo1 ov1 → Calls Tryz.prog 167 #[.pointer (some ⟨p, 6, none⟩), .string s] W (PPQ K p W (.tuple #[]) l2 vu2 m1 mo2 ov1))
    (hR : ∀ W, PP K W p l2 vu2 m1 mo2 ov1 → CallsD Tryz.prog 131 #[Rv p m0 ov0] .returning W fun e u' w' => u' = .returning ∧ PPQ K p W (.tuple #[]) l3 vu3 m0 mo3 ov0 e w') :
    Calls Tryz.prog 139 #[.pointer (some ⟨p, 0, none⟩), .string s, .int .i32 verb] w (PPQ K p w (.tuple #[]) l3 vu3 m0 mo3 ov0) := by
  have HS := Lib.hid hS; clear hS
  have HW := Lib.hid hW; clear hW
  have HR := Lib.hid hR; clear hR
  rcases hv with rfl | rfl
  ·
    go_enter_defers Tryz.func139, Tryz.ntmps139
    go_wp2_with fail
    refine HS.out.mono ?_
    rintro e w1 ⟨rfl, h1, hb1⟩
    have c15 := h1.out.fl 15 (by omega) (by omega)
    go_wp2_with fail
    refine (HW.out w1 h1.out).mono ?_
    rintro e w2 ⟨rfl, h2, hb2⟩
    go_wp2_with fail
    refine leaves_cons (f := 131) (args := #[Rv p m0 ov0]) (by simp) (by simp [go_sem, Rv]) ?_
    refine (HR.out w2 h2.out).mono ?_
    rintro e u' w3 ⟨rfl, rfl, h3, hb3⟩
    exact ⟨_, results_none rfl _ _ _, rfl, h3, hb1.trans (hb2.trans hb3)⟩
  ·
    go_enter_defers Tryz.func139, Tryz.ntmps139
    go_wp2_with fail
    refine HS.out.mono ?_
    rintro e w1 ⟨rfl, h1, hb1⟩
    have c15 := h1.out.fl 15 (by omega) (by omega)
    go_wp2_with fail
    refine (HW.out w1 h1.out).mono ?_
    rintro e w2 ⟨rfl, h2, hb2⟩
    go_wp2_with fail
    refine leaves_cons (f := 131) (args := #[Rv p m0 ov0]) (by simp) (by simp [go_sem, Rv]) ?_
    refine (HR.out w2 h2.out).mono ?_
    rintro e u' w3 ⟨rfl, rfl, h3, hb3⟩
    exact ⟨_, results_none rfl _ _ _, rfl, h3, hb1.trans (hb2.trans hb3)⟩
end
end
end Go.Proofs.YtlmcglaajmjanaaGreatDoor

namespace Go.Proofs.YtlmcglaajmjanaaGreatDoor
open Go.RowKit
section
variable {K : Nat → Prop} {w : World} {p : Nat} {l : List UInt8} {vu : Nat} {m : Int} {mo : Bool} {R : Nat → Option Value} {ov : Int}
theorem pad_any (s : Value) (t : List UInt8) (hR : PPR p R ov) (h : BufL K w p l vu m mo R) (hs : BAt w s t) (hl : l.length ≤ 90000) (hs2 : t.length ≤ 90000) (hz : m = 0 → mo = false → NoHash l) (hp : ∀ w' a' n' c' xs' vu' mo', Buf K w' p a' n' c' xs' vu' m mo' R → Kp K w w' → BAt w' s t) :
    Calls Tryz.prog 177 #[.pointer (some ⟨p, 6, none⟩), s] w (BufQ K p w (.tuple #[]) (swl l m mo ++ t) (swv l vu m mo) m (swm m mo) R) := by
  have HW := Lib.hid (fbWrite s t h hs hl hs2 hz hp)
  have c7 := (h.cR 7 (by omega)).trans (hR.fl 7 (by omega) (by omega))
  have c6 := (h.cR 6 (by omega)).trans hR.fb
  clear h hz hR hp hs
  generalize swl l m mo ++ t = l1 at HW
  generalize swv l vu m mo = vu1 at HW
  generalize swm m mo = mo1 at HW
  go_enter Tryz.func177, Tryz.ntmps177
  go_wp2_with fail
  refine HW.out.mono ?_
  rintro e w1 ⟨rfl, h1, hb1⟩
  go_wp2_with fail
  first | go_end0 | ((try simp only [Exit.inBlock, Exit.then]); refine bodyPost_ret (results_none rfl _ _ _) rfl ?_)
  exact ⟨rfl, h1, hb1⟩
/-- The end of a printer's number buffer holds d. -/
def PPI (K : Nat → Prop) (w : World) (p : Nat) (l : List UInt8) (vu : Nat) (m : Int) (mo : Bool) (ov : Int) (d : List UInt8) : Prop :=
  ∃ R, PPR p R ov ∧ BufL K w p l vu m mo R ∧ Env K w p ∧ d.length ≤ 68 ∧ ∀ j (h : j < d.length), R (18 + (68 - d.length) + j) = some (.int .u8 ((d[j]'h).toNat : Int))
theorem PP.nil (h : PP K w p l vu m mo ov) : PPI K w p l vu m mo ov [] := by
  obtain ⟨R, hR, h, hE⟩ := h
  exact ⟨R, hR, h, hE, by simp, fun j hj => by cases hj⟩
theorem PPI.pp {d : List UInt8} (h : PPI K w p l vu m mo ov d) : PP K w p l vu m mo ov := by
  obtain ⟨R, hR, h, hE, _⟩ := h
  exact ⟨R, hR, h, hE⟩
theorem PPI.len {d : List UInt8} (h : PPI K w p l vu m mo ov d) : d.length ≤ 68 := by
  obtain ⟨R, hR, h, hE, hl, _⟩ := h
  exact hl
theorem PPI.push {d : List UInt8} (h : PPI K w p l vu m mo ov d) (i : Nat) (hi : i + 1 + d.length = 68) (x : UInt8) :
    (∃ y, w.cell? ⟨p, 18 + i, none⟩ = some y) ∧ w.frozen? ⟨p, 18 + i, none⟩ = false ∧ PPI K (w.setCell ⟨p, 18 + i, none⟩ (.int .u8 (x.toNat : Int))) p l vu m mo ov (x :: d) := by
  have hpK := h.pp.hp
  obtain ⟨R, hR, ⟨a, c, h⟩, hE, hl, hd⟩ := h
  obtain ⟨b, hb⟩ := hR.ib (18 + i) (by omega) (by omega)
  refine ⟨⟨_, (h.cR (18 + i) (by omega)).trans hb⟩, h.fz _, _, ?_, ⟨a, c, h.setR (18 + i) (by omega) _ (.int .u8 (x.toNat : Int)) hb⟩, hE.kp ((Kp.refl K w).setCell hpK _ _), by simp; omega, fun j hj => ?_⟩
  · exact ⟨by rw [if_neg (by omega)]; exact hR.ov, by obtain ⟨v, hv⟩ := hR.arg; exact ⟨v, by rw [if_neg (by omega)]; exact hv⟩, by rw [if_neg (by omega)]; exact hR.fb, fun k h1 h2 => by rw [if_neg (by omega)]; exact hR.fl k h1 h2, by rw [if_neg (by omega)]; exact hR.wd, by rw [if_neg (by omega)]; exact hR.pr,
      fun k h1 h2 => by
        by_cases hk : k = 18 + i
        · exact ⟨x, by rw [if_pos hk]⟩
        · rw [if_neg hk]; exact hR.ib k h1 h2,
      fun k h1 h2 => by rw [if_neg (by omega)]; exact hR.er k h1 h2⟩
  · simp only [List.length_cons] at hj ⊢
    cases j with
    | zero => rw [if_pos (by omega)]; rfl
    | succ j =>
      rw [if_neg (by omega)]
      have := hd j (by omega)
      simp only [List.getElem_cons_succ]
      rw [← this]; congr 1; omega
/-- The last n bytes of the number buffer, as a slice. -/
theorem PPI.bat {d : List UInt8} {R : Nat → Option Value} {a : Option Addr} {n c : Nat} {xs : List Value} (h : Buf K w p a n c xs vu m mo R) (hl : d.length ≤ 68) (hd : ∀ j (h : j < d.length), R (18 + (68 - d.length) + j) = some (.int .u8 ((d[j]'h).toNat : Int))) :
    BAt w (.slice (some ⟨p, 18 + (68 - d.length), none⟩) d.length d.length) d :=
  ⟨_, p, 18 + (68 - d.length), d.length, rfl, Nat.le_refl _, by omega, .inr rfl, fun j hj => by rw [h.cR _ (by omega)]; exact hd j hj⟩
theorem padI_any {d : List UInt8} (h : PPI K w p l vu m mo ov d) (hl : l.length ≤ 90000) (hz : m = 0 → mo = false → NoHash l) :
    Calls Tryz.prog 177 #[.pointer (some ⟨p, 6, none⟩), .slice (some ⟨p, 18 + (68 - d.length), none⟩) d.length d.length] w (PPQ K p w (.tuple #[]) (swl l m mo ++ d) (swv l vu m mo) m (swm m mo) ov) := by
  obtain ⟨R, hR, h, hE, hdl, hd⟩ := h
  have h0 := h
  obtain ⟨a, c, hB⟩ := h0
  exact (pad_any _ d hR h (PPI.bat hB hdl hd) hl (by omega) hz (fun w' _ _ _ _ _ _ hB' _ => PPI.bat hB' hdl hd)).mono fun e w' hq => PPQ.of_buf hR hE hq
theorem padI_at {d : List UInt8} (h : PPI K w p l vu m mo ov d) (i : Nat) (hi : i + d.length = 68) (hl : l.length ≤ 90000) (hz : m = 0 → mo = false → NoHash l) :
    Calls Tryz.prog 177 #[.pointer (some ⟨p, 6, none⟩), .slice (some ⟨p, 18 + i, none⟩) (68 - i) (68 - i)] w (PPQ K p w (.tuple #[]) (swl l m mo ++ d) (swv l vu m mo) m (swm m mo) ov) := by
  have h1 := padI_any h hl hz
  rw [show 68 - d.length = i by omega, show d.length = 68 - i by omega] at h1
  exact h1
theorem PPI.setZ {d : List UInt8} (h : PPI K w p l vu m mo ov d) : PPI K (w.setCell ⟨p, 13, none⟩ (.bool false)) p l vu m mo ov d := by
  have hpK := h.pp.hp
  obtain ⟨R, hR, ⟨a, c, h⟩, hE, hl, hd⟩ := h
  refine ⟨_, ?_, ⟨a, c, h.setR 13 (by omega) _ (.bool false) (hR.fl 13 (by omega) (by omega))⟩, hE.kp ((Kp.refl K w).setCell hpK _ _), hl, fun j hj => by rw [if_neg (by omega)]; exact hd j hj⟩
  exact ⟨by rw [if_neg (by omega)]; exact hR.ov, by obtain ⟨v, hv⟩ := hR.arg; exact ⟨v, by rw [if_neg (by omega)]; exact hv⟩, by rw [if_neg (by omega)]; exact hR.fb,
    fun k h1 h2 => by
      by_cases hk : k = 13
      · rw [if_pos hk]
      · rw [if_neg hk]; exact hR.fl k h1 h2,
    by rw [if_neg (by omega)]; exact hR.wd, by rw [if_neg (by omega)]; exact hR.pr, fun k h1 h2 => by rw [if_neg (by omega)]; exact hR.ib k h1 h2, fun k h1 h2 => by rw [if_neg (by omega)]; exact hR.er k h1 h2⟩
theorem PP.setZ (h : PP K w p l vu m mo ov) : PP K (w.setCell ⟨p, 13, none⟩ (.bool false)) p l vu m mo ov := h.nil.setZ.pp
def LD : ByteArray := ⟨#[48, 49, 50, 51, 52, 53, 54, 55, 56, 57, 97, 98, 99, 100, 101, 102, 120]⟩
theorem arr_len : Tryz.prog.arrayLen 85 = 68 := by kernel_rfl
theorem arr_elem : Tryz.prog.elem 85 = 5 := by kernel_rfl
theorem arr_und : Tryz.prog.underlying 85 = some (.array (Tryz.prog.arrayLen 85) (Tryz.prog.elem 85)) := by rw [arr_len, arr_elem]; exact Tryz.underlying85
theorem buf_slice (p : Nat) : ∃ bv : Value, (∀ w', (Instr.sliceAt 85 (.pointer (some ⟨p, 18, none⟩)) (some (.int .i64 0)) none none).run Tryz.prog w' = .ok bv w') ∧
    (∀ w' ty, (Builtin.len_ #[31] ty #[bv]).run Tryz.prog w' = .ok (.int .i64 68) w') ∧
    (∀ (i : Nat), i < 68 → ∀ w', (Instr.indexAt 31 bv (.int .i64 i)).run Tryz.prog w' = .ok (.pointer (some ⟨p, 18 + i, none⟩)) w') ∧
    (∀ (i : Nat), i < 68 → ∀ w', (Instr.sliceAt 31 bv (some (.int .i64 i)) none none).run Tryz.prog w' = .ok (.slice (some ⟨p, 18 + i, none⟩) (68 - i) (68 - i)) w') := by
  refine ⟨.slice (some ⟨p, 18, none⟩) 68 68, fun w' => ?_, fun w' ty => run_len_slice w' _ _ _ _ _ und_bytes, fun i hi w' => ?_, fun i hi w' => ?_⟩
  · rw [run_sliceAt_array_l (P := Tryz.prog) _ _ _ arr_und .i64 0 (by decide) (by rw [arr_len]; decide), arr_elem, sizeOf_byte, arr_len]
    simp [Result.andThen, slicedAt, add_plain]
  · have h3 : ¬ 68 ≤ i := by omega
    simp [Instr.indexAt, asIntOf, run_underlying und_bytes, elem_bytes, h3, add_plain]
  · rw [run_sliceAt_slice w' _ _ _ _ _ und_bytes, run_slice_l w' _ _ _ _ und_bytes _ _ (by omega) (by omega), elem_bytes, sizeOf_byte]
    simp [Result.andThen, sliced, add_plain]; omega
theorem byte_wrap (u : Nat) : IntKind.u64.wrap (IntKind.u64.wrap (48 + (u : Int)) - (u : Int) / 10 * 10) % 256 = ((UInt8.ofNat (48 + u % 10)).toNat : Int) := by
  rw [byte_nat (by omega), IntKind.wrap_u64, IntKind.wrap_u64]
  omega
theorem digs_push {u jj : Nat} {d goal : List UInt8} (h10 : 10 ≤ u) (hu : u < 10 ^ (jj + 1)) (hj : jj ≤ 19) (h : digs u ++ d = goal) : digs (u / 10) ++ (UInt8.ofNat (48 + u % 10) :: d) = goal := by
  have : u < 10 ^ 20 := Nat.lt_of_lt_of_le hu (Nat.pow_le_pow_right (by omega) (by omega))
  rw [← h, digs_high u h10 this]; simp
theorem digit_at : ∀ (u : Nat) (h : u < 10), ((⟨#[48, 49, 50, 51, 52, 53, 54, 55, 56, 57, 97, 98, 99, 100, 101, 102, 120]⟩ : ByteArray)[u]'(by show u < 17; omega)) = UInt8.ofNat (48 + u) := by decide
theorem pow_down {u j : Nat} (h : u < 10 ^ j) (h10 : 10 ≤ u) : ∃ k, j = k + 1 ∧ 1 ≤ k ∧ u / 10 < 10 ^ k := by
  cases j with
  | zero => simp at h; omega
  | succ k =>
    refine ⟨k, rfl, ?_, ?_⟩
    · cases k with
      | zero => simp at h; omega
      | succ k => omega
    · rw [Nat.pow_succ] at h
      exact Nat.div_lt_of_lt_mul (by omega)
theorem PPI.flags {d : List UInt8} (h : PPI K w p l vu m mo ov d) (i : Nat) (h1 : 7 ≤ i) (h2 : i < 16) : w.cell? ⟨p, i, none⟩ = some (.bool false) := h.pp.fl i h1 h2
set_option maxHeartbeats 2000000 in
set_option maxRecDepth 100000 in
theorem fmtInteger_pos (n : Nat) (hn : n < 9223372036854775808) (verb : Int) (hv : verb = 118 ∨ verb = 100) (h : PP K w p l vu m mo ov) (hl : l.length ≤ 90000) (hz : m = 0 → mo = false → NoHash l) :
    Calls Tryz.prog 162 #[.pointer (some ⟨p, 6, none⟩), .int .u64 n, .int .i64 10, .bool true, .int .i32 verb, .string LD] w (PPQ K p w (.tuple #[]) (swl l m mo ++ digs n) (swv l vu m mo) m (swm m mo) ov) := by
  obtain ⟨bv, hsl, hbl, hbi, hbf⟩ := buf_slice p
  have c7 := h.fl 7 (by omega) (by omega)
  have c8 := h.fl 8 (by omega) (by omega)
  have c11 := h.fl 11 (by omega) (by omega)
  have c13 := h.fl 13 (by omega) (by omega)
  have hv79 : (verb == 79) = false := by rcases hv with rfl | rfl <;> rfl
  have hneg : (decide ((n : Int) < 0)) = false := by simp
  have HI := Lib.hid h.nil; clear h
  have HBI := Lib.hid hbi; clear hbi
  have HBF := Lib.hid hbf; clear hbf
  generalize hG : digs n = goal
  have HG := Lib.hid hG; clear hG
  have HZ := Lib.hid hz; clear hz
  unfold LD
  go_enter Tryz.func162, Tryz.ntmps162
  go_wp2_with fail
  go_loopw [1, 17] (fun a b wr => ∃ (u i j : Nat) (d : List UInt8), a = .int .u64 u ∧ b = .int .i64 i ∧ i + d.length = 68 ∧ j + d.length = 20 ∧ u < 18446744073709551616 ∧ Hid (u < 10 ^ j ∧ digs u ++ d = goal) ∧ Hid (PPI K wr p l vu m mo ov d) ∧ Hid (Kp K w wr))
    (fun a _ _ => (intOf a).toNat)
  case atStart => exact ⟨n, 68, 20, [], rfl, rfl, rfl, rfl, by omega, ⟨by omega, by rw [HG.out]; simp⟩, HI.out, Kp.refl K w⟩
  case round =>
    obtain ⟨u, i, j, d, rfl, rfl, hid, hjd, hu, hdig, hI, hK⟩ := hrel
    by_cases h10 : 10 ≤ u
    · obtain ⟨jj, hj, hj1, hu2⟩ := pow_down hdig.out.1 h10
      have hix := HBI.out (i - 1) (by omega)
      have ei : ((i - 1 : Nat) : Int) = (i : Int) - 1 := by omega
      rw [ei] at hix
      obtain ⟨⟨y, hy⟩, hfz, hpush⟩ := hI.out.push (i - 1) (by omega) (UInt8.ofNat (48 + u % 10))
      have HU2 := Lib.hid hu2; clear hu2
      have HJ := Lib.hid hj; clear hj
      clear ei
      have HPU := Lib.hid hpush; clear hpush
      have h10i : (10 : Int) ≤ (u : Int) := by omega
      have hui : (u : Int) < 18446744073709551616 := by omega
      have HD := Lib.hid hdig; clear hdig
      go_wp2_with fail
      go_roundw
      case rel =>
        rw [byte_wrap u]
        refine ⟨u / 10, i - 1, jj, UInt8.ofNat (48 + u % 10) :: d, by go_num, by go_num, by simp; omega, by have := HJ.out; simp; omega, by omega, ⟨HU2.out, ?_⟩, HPU.out, hK.out.setCell hI.out.pp.hp _ _⟩
        have h2 := HD.out.out
        rw [HJ.out] at h2
        exact digs_push h10 h2.1 (by have := HJ.out; omega) h2.2
      case measure => simp [intOf]; omega
    · have h10i : (u : Int) < 10 := by omega
      have h0i : (0 : Int) ≤ (u : Int) := by omega
      have hix := HBI.out (i - 1) (by omega)
      have ei : ((i - 1 : Nat) : Int) = (i : Int) - 1 := by omega
      rw [ei] at hix
      obtain ⟨x, hx⟩ : ∃ x, UInt8.ofNat (48 + u) = x := ⟨_, rfl⟩
      have hdx : ((⟨#[48, 49, 50, 51, 52, 53, 54, 55, 56, 57, 97, 98, 99, 100, 101, 102, 120]⟩ : ByteArray)[u]'(by show u < 17; omega)) = x := by rw [← hx]; exact digit_at u (by omega)
      have HX := Lib.hid hx; clear hx
      obtain ⟨⟨y, hy⟩, hfz, hpush⟩ := hI.out.push (i - 1) (by omega) x
      clear ei
      have HPU := Lib.hid (And.intro hpush (hK.out.setCell hI.out.pp.hp (18 + (i - 1)) (.int .u8 (x.toNat : Int)))); clear hpush
      have HD := Lib.hid hdig; clear hdig
      have h5 : (68 : Int) - ((i : Int) - 1) ≥ 0 := by omega
      have hii : i - 1 < 68 := by omega
      go_wp2_with fail
      generalize wr.setCell ⟨p, 18 + (i - 1), none⟩ (.int .u8 (x.toNat : Int)) = W2 at HPU ⊢
      clear hy hfz hix hdx
      have e7 := HPU.out.1.flags 7 (by omega) (by omega)
      have e10 := HPU.out.1.flags 10 (by omega) (by omega)
      have e11 := HPU.out.1.flags 11 (by omega) (by omega)
      have e12 := HPU.out.1.flags 12 (by omega) (by omega)
      have e13 := HPU.out.1.flags 13 (by omega) (by omega)
      have f13 := HPU.out.1.pp.fz 13
      have hbf := HBF.out (i - 1) hii
      have ei : ((i - 1 : Nat) : Int) = (i : Int) - 1 := by omega
      rw [ei] at hbf
      clear ei
      refine wp_loop_rounds 1 ?_
      rw [rounds_succ]
      go_wp2_with fail
      refine (padI_at HPU.out.1.setZ (i - 1) (by simp; omega) hl HZ.out).mono ?_
      rintro e w3 ⟨rfl, h3, hb3⟩
      have g13 := h3.out.fl 13 (by omega) (by omega)
      have k13 := h3.out.fz 13
      go_wp2_with fail
      first | go_end0 | ((try simp only [Exit.inBlock, Exit.then]); refine bodyPost_ret (results_none rfl _ _ _) rfl ?_)
      have hgoal : x :: d = goal := by
        have h2 := HD.out.out.2
        rw [digs_low u (by omega), HX.out] at h2
        exact h2
      rw [← hgoal]
      exact ⟨rfl, h3.out.setZ, ((HPU.out.2.setCell HI.out.pp.hp _ _).trans hb3).setCell HI.out.pp.hp _ _⟩
set_option maxHeartbeats 2000000 in
set_option maxRecDepth 100000 in
theorem fmtInteger_neg (n : Nat) (hn0 : 0 < n) (hn : n ≤ 9223372036854775808) (uI : Int) (huI : uI = 18446744073709551616 - (n : Int)) (verb : Int) (hv : verb = 118 ∨ verb = 100) (h : PP K w p l vu m mo ov) (hl : l.length ≤ 90000) (hz : m = 0 → mo = false → NoHash l) :
    Calls Tryz.prog 162 #[.pointer (some ⟨p, 6, none⟩), .int .u64 uI, .int .i64 10, .bool true, .int .i32 verb, .string LD] w (PPQ K p w (.tuple #[]) (swl l m mo ++ (45 :: digs n)) (swv l vu m mo) m (swm m mo) ov) := by
  obtain ⟨bv, hsl, hbl, hbi, hbf⟩ := buf_slice p
  have c7 := h.fl 7 (by omega) (by omega)
  have c8 := h.fl 8 (by omega) (by omega)
  have c11 := h.fl 11 (by omega) (by omega)
  have c13 := h.fl 13 (by omega) (by omega)
  have hv79 : (verb == 79) = false := by rcases hv with rfl | rfl <;> rfl
  have hw1 : IntKind.i64.wrap uI = -(n : Int) := by rw [IntKind.wrap_i64]; omega
  have hw2 : IntKind.u64.wrap (-uI) = (n : Int) := by rw [IntKind.wrap_u64]; omega
  have hw3 : -(n : Int) < 0 := by omega
  have HN := Lib.hid (And.intro hn0 huI); clear hn0 huI
  have HI := Lib.hid h.nil; clear h
  have HBI := Lib.hid hbi; clear hbi
  have HBF := Lib.hid hbf; clear hbf
  generalize hG : digs n = goal
  have HG := Lib.hid hG; clear hG
  have HZ := Lib.hid hz; clear hz
  unfold LD
  go_enter Tryz.func162, Tryz.ntmps162
  go_wp2_with fail
  go_loopw [1, 17] (fun a b wr => ∃ (u i j : Nat) (d : List UInt8), a = .int .u64 u ∧ b = .int .i64 i ∧ i + d.length = 68 ∧ j + d.length = 20 ∧ u < 18446744073709551616 ∧ Hid (u < 10 ^ j ∧ digs u ++ d = goal) ∧ Hid (PPI K wr p l vu m mo ov d) ∧ Hid (Kp K w wr))
    (fun a _ _ => (intOf a).toNat)
  case atStart => exact ⟨n, 68, 20, [], rfl, rfl, rfl, rfl, by omega, ⟨by omega, by rw [HG.out]; simp⟩, HI.out, Kp.refl K w⟩
  case round =>
    obtain ⟨u, i, j, d, rfl, rfl, hid, hjd, hu, hdig, hI, hK⟩ := hrel
    by_cases h10 : 10 ≤ u
    · obtain ⟨jj, hj, hj1, hu2⟩ := pow_down hdig.out.1 h10
      have hix := HBI.out (i - 1) (by omega)
      have ei : ((i - 1 : Nat) : Int) = (i : Int) - 1 := by omega
      rw [ei] at hix
      obtain ⟨⟨y, hy⟩, hfz, hpush⟩ := hI.out.push (i - 1) (by omega) (UInt8.ofNat (48 + u % 10))
      have HU2 := Lib.hid hu2; clear hu2
      have HJ := Lib.hid hj; clear hj
      clear ei
      have HPU := Lib.hid hpush; clear hpush
      have h10i : (10 : Int) ≤ (u : Int) := by omega
      have hui : (u : Int) < 18446744073709551616 := by omega
      have HD := Lib.hid hdig; clear hdig
      go_wp2_with fail
      go_roundw
      case rel =>
        rw [byte_wrap u]
        refine ⟨u / 10, i - 1, jj, UInt8.ofNat (48 + u % 10) :: d, by go_num, by go_num, by simp; omega, by have := HJ.out; simp; omega, by omega, ⟨HU2.out, ?_⟩, HPU.out, hK.out.setCell hI.out.pp.hp _ _⟩
        have h2 := HD.out.out
        rw [HJ.out] at h2
        exact digs_push h10 h2.1 (by have := HJ.out; omega) h2.2
      case measure => simp [intOf]; omega
    · have h10i : (u : Int) < 10 := by omega
      have h0i : (0 : Int) ≤ (u : Int) := by omega
      have hix := HBI.out (i - 1) (by omega)
      have ei : ((i - 1 : Nat) : Int) = (i : Int) - 1 := by omega
      rw [ei] at hix
      obtain ⟨x, hx⟩ : ∃ x, UInt8.ofNat (48 + u) = x := ⟨_, rfl⟩
      have hdx : ((⟨#[48, 49, 50, 51, 52, 53, 54, 55, 56, 57, 97, 98, 99, 100, 101, 102, 120]⟩ : ByteArray)[u]'(by show u < 17; omega)) = x := by rw [← hx]; exact digit_at u (by omega)
      have HX := Lib.hid hx; clear hx
      obtain ⟨⟨y, hy⟩, hfz, hpush⟩ := hI.out.push (i - 1) (by omega) x
      clear ei
      have HPU := Lib.hid (And.intro hpush (hK.out.setCell hI.out.pp.hp (18 + (i - 1)) (.int .u8 (x.toNat : Int)))); clear hpush
      have HD := Lib.hid hdig; clear hdig
      have h5 : (68 : Int) - ((i : Int) - 1) ≥ 0 := by omega
      have hii : i - 1 < 68 := by omega
      go_wp2_with fail
      generalize wr.setCell ⟨p, 18 + (i - 1), none⟩ (.int .u8 (x.toNat : Int)) = W2 at HPU ⊢
      clear hy hfz hix hdx
      have e7 := HPU.out.1.flags 7 (by omega) (by omega)
      have e10 := HPU.out.1.flags 10 (by omega) (by omega)
      have e11 := HPU.out.1.flags 11 (by omega) (by omega)
      have e12 := HPU.out.1.flags 12 (by omega) (by omega)
      have e13 := HPU.out.1.flags 13 (by omega) (by omega)
      have f13 := HPU.out.1.pp.fz 13
      have hbf := HBF.out (i - 2) (by omega)
      have hix := HBI.out (i - 2) (by omega)
      have ei : ((i - 2 : Nat) : Int) = (i : Int) - 1 - 1 := by omega
      rw [ei] at hbf hix
      clear ei
      obtain ⟨⟨y, hy⟩, hfz, hpush⟩ := HPU.out.1.push (i - 2) (by simp; omega) 45
      have HP2 := Lib.hid hpush; clear hpush
      refine wp_loop_rounds 1 ?_
      rw [rounds_succ]
      go_wp2_with fail
      refine (padI_at (d := 45 :: x :: d) (PPI.setZ (by exact HP2.out)) (i - 2) (by simp; omega) hl HZ.out).mono ?_
      rintro e w3 ⟨rfl, h3, hb3⟩
      have g13 := h3.out.fl 13 (by omega) (by omega)
      have k13 := h3.out.fz 13
      go_wp2_with fail
      first | go_end0 | ((try simp only [Exit.inBlock, Exit.then]); refine bodyPost_ret (results_none rfl _ _ _) rfl ?_)
      have hgoal : x :: d = goal := by
        have h2 := HD.out.out.2
        rw [digs_low u (by omega), HX.out] at h2
        exact h2
      rw [← hgoal]
      exact ⟨rfl, h3.out.setZ, (((HPU.out.2.setCell HI.out.pp.hp _ _).setCell HI.out.pp.hp _ _).trans hb3).setCell HI.out.pp.hp _ _⟩
/-- A number as uint64. -/
def u64 (n : Int) : Int := if n < 0 then 18446744073709551616 + n else n
theorem fmtInteger_any (n : Int) (h0 : -9223372036854775808 ≤ n) (h1 : n ≤ 9223372036854775807) (verb : Int) (hv : verb = 118 ∨ verb = 100) (h : PP K w p l vu m mo ov) (hl : l.length ≤ 90000) (hz : m = 0 → mo = false → NoHash l) :
    Calls Tryz.prog 162 #[.pointer (some ⟨p, 6, none⟩), .int .u64 (u64 n), .int .i64 10, .bool true, .int .i32 verb, .string LD] w (PPQ K p w (.tuple #[]) (swl l m mo ++ numL n) (swv l vu m mo) m (swm m mo) ov) := by
  unfold u64 numL
  by_cases hn : n < 0
  · rw [if_pos hn, if_pos hn]
    exact fmtInteger_neg n.natAbs (by omega) (by omega) _ (by omega) verb hv h hl hz
  · rw [if_neg hn, if_neg hn]
    have := fmtInteger_pos n.natAbs (by omega) verb hv h hl hz
    rw [show (n.natAbs : Int) = n by omega] at this
    exact this
section
variable {l1 l2 l3 : List UInt8} {vu1 vu2 vu3 : Nat} {m0 m1 : Int} {mo1 mo2 mo3 : Bool} {ov0 ov1 : Int}
set_option maxHeartbeats 1000000 in
set_option maxRecDepth 100000 in
theorem ppInteger_of (n : Int) (verb : Int) (hv : verb = 118 ∨ verb = 100) (h : PP K w p l vu m mo ov)
    (hS : Calls Tryz.prog 159 #[.pointer (some ⟨p, 0, none⟩)] w (PPQ K p w (Rv p m0 ov0) l1 vu1 m1 mo1 ov1))
    (hW : ∀ W, PP K W p l1 vu1 m1 mo1 ov1 → Calls Tryz.prog 162 #[.pointer (some ⟨p, 6, none⟩), .int .u64 (u64 n), .int .i64 10, .bool true, .int .i32 verb, .string LD] W (PPQ K p W (.tuple #[]) l2 vu2 m1 mo2 ov1))
    (hR : ∀ W, PP K W p l2 vu2 m1 mo2 ov1 → CallsD Tryz.prog 131 #[Rv p m0 ov0] .returning W fun e u' w' => u' = .returning ∧ PPQ K p W (.tuple #[]) l3 vu3 m0 mo3 ov0 e w') :
    Calls Tryz.prog 138 #[.pointer (some ⟨p, 0, none⟩), .int .u64 (u64 n), .bool true, .int .i32 verb] w (PPQ K p w (.tuple #[]) l3 vu3 m0 mo3 ov0) := by
  have c15 := h.fl 15 (by omega) (by omega)
  clear h
  have HS := Lib.hid hS; clear hS
  have HW := Lib.hid hW; clear hW
  have HR := Lib.hid hR; clear hR
  unfold LD at HW
  generalize u64 n = un at *
  rcases hv with rfl | rfl
  ·
    go_enter_defers Tryz.func138, Tryz.ntmps138
    go_wp2_with fail
    refine HS.out.mono ?_
    rintro e w1 ⟨rfl, h1, hb1⟩
    go_wp2_with fail
    refine (HW.out w1 h1.out).mono ?_
    rintro e w2 ⟨rfl, h2, hb2⟩
    go_wp2_with fail
    refine leaves_cons (f := 131) (args := #[Rv p m0 ov0]) (by simp) (by simp [go_sem, Rv]) ?_
    refine (HR.out w2 h2.out).mono ?_
    rintro e u' w3 ⟨rfl, rfl, h3, hb3⟩
    exact ⟨_, results_none rfl _ _ _, rfl, h3, hb1.trans (hb2.trans hb3)⟩
  ·
    go_enter_defers Tryz.func138, Tryz.ntmps138
    go_wp2_with fail
    refine HS.out.mono ?_
    rintro e w1 ⟨rfl, h1, hb1⟩
    go_wp2_with fail
    refine (HW.out w1 h1.out).mono ?_
    rintro e w2 ⟨rfl, h2, hb2⟩
    go_wp2_with fail
    refine leaves_cons (f := 131) (args := #[Rv p m0 ov0]) (by simp) (by simp [go_sem, Rv]) ?_
    refine (HR.out w2 h2.out).mono ?_
    rintro e u' w3 ⟨rfl, rfl, h3, hb3⟩
    exact ⟨_, results_none rfl _ _ _, rfl, h3, hb1.trans (hb2.trans hb3)⟩
end
end
end Go.Proofs.YtlmcglaajmjanaaGreatDoor
