/- Walks of the buffer's methods: what is taken out, single bytes. -/
import Derived.Test.YtlmcglaajmjanaaGreatDoorBufC
namespace Go.Proofs.YtlmcglaajmjanaaGreatDoor
open Go.RowKit
section
variable {K : Nat → Prop} {w : World} {p : Nat} {a : Option Addr} {n c : Nat} {xs : List Value} {l : List UInt8} {vu : Nat} {m : Int} {mo : Bool} {R : Nat → Option Value}
/-- What taking the text out gives: the text, and an empty buffer. -/
def TakeQ (K : Nat → Prop) (p : Nat) (w : World) (L : List UInt8) (R : Nat → Option Value) (e : Ending) (w' : World) : Prop := ∃ y : ByteArray, e = .returned (.string y) ∧ Hid (y.data.toList = L) ∧ Hid (BufL K w' p [] 0 0 false R) ∧ Kp K w w'
def TakeBQ (K : Nat → Prop) (p : Nat) (w : World) (L : List UInt8) (R : Nat → Option Value) (e : Ending) (w' : World) : Prop := ∃ v, e = .returned v ∧ Hid (BAt w' v L) ∧ Hid (BufL K w' p [] 0 0 false R) ∧ Kp K w w'
theorem Buf.emptied (h : Buf K w p a n c xs vu m mo R) : BufL K (((w.setCell ⟨p, 0, none⟩ (.slice none 0 0)).setCell ⟨p, 1, none⟩ (.int .i64 0)).setCell ⟨p, 2, none⟩ (.int .i64 0)) p [] 0 0 mo R :=
  ⟨none, 0, ((h.setSl (.inl ⟨rfl, rfl, rfl, rfl⟩)).setVu 0).setMode 0⟩
/-- A slice of bytes in a block above p reads on where cells of p are stored to. -/
theorem BAt.setCell {v : Value} {t : List UInt8} (h : BAt w v t) (q : Nat) (hq : ∀ b c n, v = .slice (some b) n c → t ≠ [] → b.block ≠ q) (i : Nat) (x : Value) : BAt (w.setCell ⟨q, i, none⟩ x) v t := by
  obtain ⟨p, b, o, c, rfl, hc, hm, hp, hx⟩ := h
  refine ⟨p, b, o, c, rfl, hc, hm, hp, fun j hj => ?_⟩
  have hne : t ≠ [] := by intro hn; rw [hn] at hj; cases hj
  rcases hp with ⟨h0, _⟩ | rfl
  · exact absurd h0 hne
  · have hb : b ≠ q := hq ⟨b, o, none⟩ c t.length rfl hne
    rw [← hx j hj]
    exact World.cell?_of_block (Below.heap_setCell _ _ _ _ hb)
theorem Buf.bat_off (h : Buf K w p a l.length c (Lib.byteCells l) vu m mo R) (x y z : Value) (i j k : Nat) : BAt (((w.setCell ⟨p, i, none⟩ x).setCell ⟨p, j, none⟩ y).setCell ⟨p, k, none⟩ z) (.slice a l.length c) l := by
  have hq : ∀ b c' n, Value.slice a l.length c = .slice (some b) n c' → l ≠ [] → b.block ≠ p := by
    intro b c' n hv hne
    injection hv with e1 _ _
    rcases h.row with ⟨h1, h2, _⟩ | ⟨g, cur, ha, hg, _⟩
    · exact absurd (List.eq_nil_of_length_eq_zero h2) hne
    · rw [ha] at e1; cases e1; exact hg.1
  exact ((h.bat.setCell p hq i x).setCell p hq j y).setCell p hq k z
set_option maxHeartbeats 1000000 in
set_option maxRecDepth 100000 in
theorem takeString_any (h : BufL K w p l vu m mo R) (hm : m = 0 ∨ m = 1 ∨ m = 2) (hl : l.length ≤ 50000) (hl2 : (finE l vu m).length ≤ 90000) (hv : vu ≤ l.length) (hT : Tabs w) (hz : 2 < p) (hbad : badEnd l = false) (hn : mo = true → finE l vu m ≠ []) :
    Calls Tryz.prog 77 #[.pointer (some ⟨p, 0, none⟩)] w (TakeQ K p w (finL l vu m mo) R) := by
  have HFin := Lib.hid (finalize_any h hm hl hl2 hv hT hz hbad hn)
  clear h hm hl hl2 hv hT hbad hn
  generalize finL l vu m mo = L at HFin
  go_enter Tryz.func77, Tryz.ntmps77
  go_wp2_with fail
  refine HFin.out.mono ?_
  rintro e w1 ⟨rfl, h1, hb1⟩
  obtain ⟨a1, c1, h1⟩ := h1.out
  have hst := h1.bat.str 50 Tryz.underlying50
  have d0 := h1.c0
  have d1 := h1.c1
  have d2 := h1.c2
  have g0 := h1.fz 0
  have g1 := h1.fz 1
  have g2 := h1.fz 2
  have H1 := Lib.hid h1; clear h1
  go_wp2_with fail
  go_ret
  exact ⟨_, rfl, rfl, H1.out.emptied, ((hb1.setCell H1.out.hp _ _).setCell H1.out.hp _ _).setCell H1.out.hp _ _⟩
set_option maxHeartbeats 1000000 in
set_option maxRecDepth 100000 in
theorem takeBytes_any (h : BufL K w p l vu m mo R) (hm : m = 0 ∨ m = 1 ∨ m = 2) (hl : l.length ≤ 50000) (hl2 : (finE l vu m).length ≤ 90000) (hv : vu ≤ l.length) (hT : Tabs w) (hz : 2 < p) (hbad : badEnd l = false) (hn : mo = true → finE l vu m ≠ []) :
    Calls Tryz.prog 153 #[.pointer (some ⟨p, 0, none⟩)] w (TakeBQ K p w (finL l vu m mo) R) := by
  have HFin := Lib.hid (finalize_any h hm hl hl2 hv hT hz hbad hn)
  clear h hm hl hl2 hv hT hbad hn
  generalize finL l vu m mo = L at HFin
  go_enter Tryz.func153, Tryz.ntmps153
  go_wp2_with fail
  refine HFin.out.mono ?_
  rintro e w1 ⟨rfl, h1, hb1⟩
  obtain ⟨a1, c1, h1⟩ := h1.out
  have d0 := h1.c0
  have d1 := h1.c1
  have d2 := h1.c2
  have g0 := h1.fz 0
  have g1 := h1.fz 1
  have g2 := h1.fz 2
  have H1 := Lib.hid h1; clear h1
  go_wp2_with fail
  go_ret
  refine ⟨_, rfl, ?_, H1.out.emptied, ((hb1.setCell H1.out.hp _ _).setCell H1.out.hp _ _).setCell H1.out.hp _ _⟩
  show BAt _ _ _
  exact H1.out.bat_off _ _ _ 0 1 2
theorem getMode_any (h : BufL K w p l vu m mo R) : Calls Tryz.prog 156 #[.pointer (some ⟨p, 0, none⟩)] w fun e w' => e = .returned (.int .i64 m) ∧ w = w' := by
  obtain ⟨a, c, h⟩ := h
  have c2 := h.c2
  clear h
  go_enter Tryz.func156, Tryz.ntmps156
  go_wp2_with fail
  go_ret
  exact ⟨rfl, rfl⟩
/-- A store into the last cell of the room. -/
theorem Buf.put {g : Nat} {y : Value} (h : Buf K w p (some ⟨g, 0, none⟩) (n + 1) c (xs ++ [y]) vu m mo R) (hx : xs.length = n) (v : Value) :
    w.cell? ⟨g, n, none⟩ = some y ∧ w.frozen? ⟨g, n, none⟩ = false ∧ Buf K (w.setCell ⟨g, n, none⟩ v) p (some ⟨g, 0, none⟩) (n + 1) c (xs ++ [v]) vu m mo R ∧ Kp K w (w.setCell ⟨g, n, none⟩ v) := by
  rcases h.row with ⟨h1, _⟩ | ⟨g', cur, ha, hg, hh, h1, h2, h3, h4⟩
  · cases h1
  · cases ha
    have hn : n < cur.size := by omega
    refine ⟨?_, by simp [World.frozen?, hh], ?_, (Kp.refl K w).setCell hg.2 _ _⟩
    · have e : (cur.toList.take (n + 1))[n]? = (xs ++ [y])[n]? := by rw [h4]
      rw [List.getElem?_take_of_lt (by omega), Array.getElem?_toList, List.getElem?_append_right (by omega), hx] at e
      simp only [Nat.sub_self, List.getElem?_cons_zero] at e
      simp [World.cell?, hh, e]
    · rw [setCell_eq_setRow w g n cur 5 (0, 0) v hh]
      have hf := h.filled (k := 1) hx rfl hg hh h3 [v] rfl
      have e : cur.setIfInBounds n v = (cur.toList.take n ++ [v] ++ cur.toList.drop (n + [v].length)).toArray := by
        apply Array.ext'
        rw [Array.toList_setIfInBounds, List.toList_toArray]
        rw [List.set_eq_take_append_cons_drop, if_pos (by simpa using hn)]
        simp
      rw [e]; exact hf.1
theorem list_one {α : Type} {g : List α} (h : g.length = 1) : ∃ y, g = [y] := by
  match g, h with
  | [y], _ => exact ⟨y, rfl⟩
theorem Buf.some_ (h : Buf K w p a (n + 1) c xs vu m mo R) : ∃ g, a = some ⟨g, 0, none⟩ := by
  rcases h.row with ⟨_, h1, _⟩ | ⟨g, cur, ha, _⟩
  · omega
  · exact ⟨g, ha⟩
set_option maxHeartbeats 1000000 in
set_option maxRecDepth 100000 in
theorem writeByte_any (x : UInt8) (h : BufL K w p l vu m mo R) (hl : l.length ≤ 90000) (hz : m = 0 → mo = false → NoHash l) (hx : m = 0 → x.toNat < 128) :
    Calls Tryz.prog 127 #[.pointer (some ⟨p, 0, none⟩), .int .u8 x.toNat] w (BufQ K p w .nilIface (swl l m mo ++ [x]) (swv l vu m mo) m (swm m mo) R) := by
  have HB := Lib.hid h; clear h
  have hl1 := swl_le l m mo
  have HS := startWrite_any HB.out (by omega) hz
  generalize swl l m mo = l1 at HS hl1
  generalize swv l vu m mo = vu1 at HS
  generalize swm m mo = mo1 at HS
  have HS := Lib.hid HS
  clear hz
  by_cases hm : m = 0
  · subst hm
    have hx := hx rfl
    have hxI : (x.toNat : Int) < 128 := by omega
    have hx2 : ((x.toNat : Int) == (((⟨#[226, 128, 185]⟩ : ByteArray)[0]'(by decide)).toNat : Int)) = false := by
      show ((x.toNat : Int) == 226) = false
      exact beq_eq_false_iff_ne.2 (by omega)
    have hx3 : ((x.toNat : Int) == (((⟨#[226, 128, 186]⟩ : ByteArray)[0]'(by decide)).toNat : Int)) = false := by
      show ((x.toNat : Int) == 226) = false
      exact beq_eq_false_iff_ne.2 (by omega)
    go_enter Tryz.func127, Tryz.ntmps127
    go_wp2_with fail
    refine HS.out.mono ?_
    rintro e w1 ⟨rfl, h1, hbP⟩
    obtain ⟨a1, c1, h1⟩ := h1.out
    have c2 := h1.c2
    have H1 := Lib.hid h1; clear h1
    go_wp2_with fail
    by_cases hroom : l1.length + 1 ≤ c1
    · refine (tryGrow_yes H1.out 1 1 rfl hroom (by omega) (by omega)).mono ?_
      rintro e w' ⟨rfl, ⟨g, hg, hB⟩, hb⟩
      obtain ⟨y, rfl⟩ := list_one hg
      obtain ⟨g, rfl⟩ := hB.some_
      obtain ⟨hc1, hc2, hB2, hb2⟩ := hB.put (Lib.byteCells_length l1) (.int .u8 x.toNat)
      have d0 := hB.c0
      have hcap := hB.le
      have HB2 := Lib.hid hB2
      clear hB hB2
      go_wp2_with fail
      go_ret
      exact ⟨rfl, HB2.out.toL (t := [x]) rfl, hbP.trans (hb.trans hb2)⟩
    · refine (tryGrow_no H1.out 1 1 rfl (by omega)).mono ?_
      rintro e w' ⟨rfl, rfl⟩
      go_wp2_with fail
      refine (grow_any (k := 1) H1.out 1 rfl (by omega) (by omega) (by omega)).mono ?_
      rintro e w' ⟨rfl, ⟨a', c', g, hg, hB⟩, hb⟩
      obtain ⟨y, rfl⟩ := list_one hg
      obtain ⟨g, rfl⟩ := hB.some_
      obtain ⟨hc1, hc2, hB2, hb2⟩ := hB.put (Lib.byteCells_length l1) (.int .u8 x.toNat)
      have d0 := hB.c0
      have hcap := hB.le
      have HB2 := Lib.hid hB2
      clear hB hB2
      go_wp2_with fail
      go_ret
      exact ⟨rfl, HB2.out.toL (t := [x]) rfl, hbP.trans (hb.trans hb2)⟩
  · have hmb : (m == 0) = false := beq_eq_false_iff_ne.2 hm
    clear hx hm
    go_enter Tryz.func127, Tryz.ntmps127
    go_wp2_with fail
    refine HS.out.mono ?_
    rintro e w1 ⟨rfl, h1, hbP⟩
    obtain ⟨a1, c1, h1⟩ := h1.out
    have c2 := h1.c2
    have H1 := Lib.hid h1; clear h1
    go_wp2_with fail
    by_cases hroom : l1.length + 1 ≤ c1
    · refine (tryGrow_yes H1.out 1 1 rfl hroom (by omega) (by omega)).mono ?_
      rintro e w' ⟨rfl, ⟨g, hg, hB⟩, hb⟩
      obtain ⟨y, rfl⟩ := list_one hg
      obtain ⟨g, rfl⟩ := hB.some_
      obtain ⟨hc1, hc2, hB2, hb2⟩ := hB.put (Lib.byteCells_length l1) (.int .u8 x.toNat)
      have d0 := hB.c0
      have hcap := hB.le
      have HB2 := Lib.hid hB2
      clear hB hB2
      go_wp2_with fail
      go_ret
      exact ⟨rfl, HB2.out.toL (t := [x]) rfl, hbP.trans (hb.trans hb2)⟩
    · refine (tryGrow_no H1.out 1 1 rfl (by omega)).mono ?_
      rintro e w' ⟨rfl, rfl⟩
      go_wp2_with fail
      refine (grow_any (k := 1) H1.out 1 rfl (by omega) (by omega) (by omega)).mono ?_
      rintro e w' ⟨rfl, ⟨a', c', g, hg, hB⟩, hb⟩
      obtain ⟨y, rfl⟩ := list_one hg
      obtain ⟨g, rfl⟩ := hB.some_
      obtain ⟨hc1, hc2, hB2, hb2⟩ := hB.put (Lib.byteCells_length l1) (.int .u8 x.toNat)
      have d0 := hB.c0
      have hcap := hB.le
      have HB2 := Lib.hid hB2
      clear hB hB2
      go_wp2_with fail
      go_ret
      exact ⟨rfl, HB2.out.toL (t := [x]) rfl, hbP.trans (hb.trans hb2)⟩
end
end Go.Proofs.YtlmcglaajmjanaaGreatDoor
