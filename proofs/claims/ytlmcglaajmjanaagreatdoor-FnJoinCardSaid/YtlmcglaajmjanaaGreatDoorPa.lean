/- Walks of package redactfmt: what is written through a printer. -/
import Derived.Test.YtlmcglaajmjanaaGreatDoorPp
namespace Go.Proofs.YtlmcglaajmjanaaGreatDoor
open Go.RowKit
section
variable {K : Nat → Prop} {w : World} {p : Nat} {l : List UInt8} {vu : Nat} {m : Int} {mo : Bool} {R : Nat → Option Value} {ov : Int}
theorem BufL.cR (h : BufL K w p l vu m mo R) (i : Nat) (hi : 4 ≤ i) : w.cell? ⟨p, i, none⟩ = R i := by obtain ⟨a, c, h⟩ := h; exact h.cR i hi
theorem BufL.fz (h : BufL K w p l vu m mo R) (i : Nat) : w.frozen? ⟨p, i, none⟩ = false := by obtain ⟨a, c, h⟩ := h; exact h.fz i
theorem BufL.lt (h : BufL K w p l vu m mo R) : p < w.heap.size := by obtain ⟨a, c, h⟩ := h; exact h.lt
theorem BufL.below {w' : World} (h : BufL K w p l vu m mo R) (hb : Below w.heap.size w w') : BufL K w' p l vu m mo R := by obtain ⟨a, c, h⟩ := h; exact ⟨a, c, h.below hb⟩
theorem BufL.drew (h : BufL K w p l vu m mo R) : BufL K w.drew p l vu m mo R := by obtain ⟨a, c, h⟩ := h; exact ⟨a, c, h.drew⟩
theorem fbWriteString (s : ByteArray) (h : BufL K w p l vu m mo R) (hl : l.length ≤ 90000) (hs : s.size ≤ 90000) (hz : m = 0 → mo = false → NoHash l) :
    Calls Tryz.prog 113 #[.pointer (some ⟨p, 0, none⟩), .string s] w (BufQ K p w (.tuple #[]) (swl l m mo ++ s.data.toList) (swv l vu m mo) m (swm m mo) R) := by
  have HW := Lib.hid (writeString_any s h hl hs hz)
  clear h hz
  generalize swl l m mo ++ s.data.toList = l1 at HW
  generalize swv l vu m mo = vu1 at HW
  generalize swm m mo = mo1 at HW
  go_enter Tryz.func113, Tryz.ntmps113
  go_wp2_with fail
  refine HW.out.mono ?_
  rintro e w1 ⟨rfl, h1, hb1⟩
  go_wp2_with fail
  first | go_end0 | ((try simp only [Exit.inBlock, Exit.then]); refine bodyPost_ret (results_none rfl _ _ _) rfl ?_)
  exact ⟨rfl, h1, hb1⟩
theorem fbWriteByte (x : UInt8) (h : BufL K w p l vu m mo R) (hl : l.length ≤ 90000) (hz : m = 0 → mo = false → NoHash l) (hx : m = 0 → x.toNat < 128) :
    Calls Tryz.prog 103 #[.pointer (some ⟨p, 0, none⟩), .int .u8 x.toNat] w (BufQ K p w (.tuple #[]) (swl l m mo ++ [x]) (swv l vu m mo) m (swm m mo) R) := by
  have HW := Lib.hid (writeByte_any x h hl hz hx)
  clear h hz hx
  generalize swl l m mo ++ [x] = l1 at HW
  generalize swv l vu m mo = vu1 at HW
  generalize swm m mo = mo1 at HW
  go_enter Tryz.func103, Tryz.ntmps103
  go_wp2_with fail
  refine HW.out.mono ?_
  rintro e w1 ⟨rfl, h1, hb1⟩
  go_wp2_with fail
  first | go_end0 | ((try simp only [Exit.inBlock, Exit.then]); refine bodyPost_ret (results_none rfl _ _ _) rfl ?_)
  exact ⟨rfl, h1, hb1⟩
theorem fbWrite (s : Value) (t : List UInt8) (h : BufL K w p l vu m mo R) (hs : BAt w s t) (hl : l.length ≤ 90000) (hs2 : t.length ≤ 90000) (hz : m = 0 → mo = false → NoHash l) (hp : ∀ w' a' n' c' xs' vu' mo', Buf K w' p a' n' c' xs' vu' m mo' R → Kp K w w' → BAt w' s t) :
    Calls Tryz.prog 191 #[.pointer (some ⟨p, 0, none⟩), s] w (BufQ K p w (.tuple #[]) (swl l m mo ++ t) (swv l vu m mo) m (swm m mo) R) := by
  have HW := Lib.hid (write_any s t h hs hl hs2 hz hp)
  clear h hz hp hs
  generalize swl l m mo ++ t = l1 at HW
  generalize swv l vu m mo = vu1 at HW
  generalize swm m mo = mo1 at HW
  go_enter Tryz.func191, Tryz.ntmps191
  go_wp2_with fail
  refine HW.out.mono ?_
  rintro e w1 ⟨rfl, h1, hb1⟩
  go_wp2_with fail
  first | go_end0 | ((try simp only [Exit.inBlock, Exit.then]); refine bodyPost_ret (results_none rfl _ _ _) rfl ?_)
  exact ⟨rfl, h1, hb1⟩
theorem padString_any (s : ByteArray) (hR : PPR p R ov) (h : BufL K w p l vu m mo R) (hl : l.length ≤ 90000) (hs : s.size ≤ 90000) (hz : m = 0 → mo = false → NoHash l) :
    Calls Tryz.prog 135 #[.pointer (some ⟨p, 6, none⟩), .string s] w (BufQ K p w (.tuple #[]) (swl l m mo ++ s.data.toList) (swv l vu m mo) m (swm m mo) R) := by
  have HW := Lib.hid (fbWriteString s h hl hs hz)
  have c7 := (h.cR 7 (by omega)).trans (hR.fl 7 (by omega) (by omega))
  have c6 := (h.cR 6 (by omega)).trans hR.fb
  clear h hz hR
  generalize swl l m mo ++ s.data.toList = l1 at HW
  generalize swv l vu m mo = vu1 at HW
  generalize swm m mo = mo1 at HW
  go_enter Tryz.func135, Tryz.ntmps135
  go_wp2_with fail
  refine HW.out.mono ?_
  rintro e w1 ⟨rfl, h1, hb1⟩
  go_wp2_with fail
  first | go_end0 | ((try simp only [Exit.inBlock, Exit.then]); refine bodyPost_ret (results_none rfl _ _ _) rfl ?_)
  exact ⟨rfl, h1, hb1⟩
theorem truncateString_any (s : ByteArray) (hR : PPR p R ov) (h : BufL K w p l vu m mo R) :
    Calls Tryz.prog 181 #[.pointer (some ⟨p, 6, none⟩), .string s] w fun e w' => e = .returned (.string s) ∧ w = w' := by
  have c8 := (h.cR 8 (by omega)).trans (hR.fl 8 (by omega) (by omega))
  clear h hR
  go_enter Tryz.func181, Tryz.ntmps181
  go_wp2_with fail
  go_ret
  exact ⟨rfl, rfl⟩
theorem fmtS_any (s : ByteArray) (hR : PPR p R ov) (h : BufL K w p l vu m mo R) (hl : l.length ≤ 90000) (hs : s.size ≤ 90000) (hz : m = 0 → mo = false → NoHash l) :
    Calls Tryz.prog 167 #[.pointer (some ⟨p, 6, none⟩), .string s] w (BufQ K p w (.tuple #[]) (swl l m mo ++ s.data.toList) (swv l vu m mo) m (swm m mo) R) := by
  have HW := Lib.hid (padString_any s hR h hl hs hz)
  have HT := Lib.hid (truncateString_any s hR h)
  clear h hz hR
  generalize swl l m mo ++ s.data.toList = l1 at HW
  generalize swv l vu m mo = vu1 at HW
  generalize swm m mo = mo1 at HW
  go_enter Tryz.func167, Tryz.ntmps167
  go_wp2_with fail
  refine HT.out.mono ?_
  rintro e w1 ⟨rfl, rfl⟩
  go_wp2_with fail
  refine HW.out.mono ?_
  rintro e w1 ⟨rfl, h1, hb1⟩
  go_wp2_with fail
  first | go_end0 | ((try simp only [Exit.inBlock, Exit.then]); refine bodyPost_ret (results_none rfl _ _ _) rfl ?_)
  exact ⟨rfl, h1, hb1⟩
end
end Go.Proofs.YtlmcglaajmjanaaGreatDoor
