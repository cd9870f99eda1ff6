/- Walk of redactfmt.Sprint. -/
import Derived.Test.YtlmcglaajmjanaaGreatDoorPu
namespace Go.Proofs.YtlmcglaajmjanaaGreatDoor
open Go.RowKit
section
variable {K : Nat → Prop} {w : World} {p : Nat} {o : List Nat}
theorem initW_below (w : World) : Below w.heap.size w (initW (w.alloc (.cells Z0 89)).drew w.heap.size) := by
  unfold initW
  exact ((((((((((((Below.refl w.heap.size w).alloc (Nat.le_refl _) _).drew).setCell (p := ⟨w.heap.size, 6, none⟩) (Nat.le_refl _) _).setCell (p := ⟨w.heap.size, 7, none⟩) (Nat.le_refl _) _).setCell (p := ⟨w.heap.size, 8, none⟩) (Nat.le_refl _) _).setCell (p := ⟨w.heap.size, 9, none⟩) (Nat.le_refl _) _).setCell (p := ⟨w.heap.size, 10, none⟩) (Nat.le_refl _) _).setCell (p := ⟨w.heap.size, 11, none⟩) (Nat.le_refl _) _).setCell (p := ⟨w.heap.size, 12, none⟩) (Nat.le_refl _) _).setCell (p := ⟨w.heap.size, 13, none⟩) (Nat.le_refl _) _).setCell (p := ⟨w.heap.size, 14, none⟩) (Nat.le_refl _) _).setCell (p := ⟨w.heap.size, 15, none⟩) (Nat.le_refl _) _
/-- The tables stand, and the heap is behind them. -/
def TabW (w : World) : Prop := Tabs w ∧ 2 < w.heap.size
theorem TabW.below {w w' : World} (h : TabW w) (hb : Below w.heap.size w w') : TabW w' := ⟨h.1.below hb h.2, Nat.lt_of_lt_of_le h.2 hb.size⟩
theorem newPP_pp (w : World) (hT : TabW w) : PP (· < w.heap.size) (initW (w.alloc (.cells Z0 89)).drew w.heap.size) w.heap.size [] 0 0 false 0 := by
  obtain ⟨R, hR, hB⟩ := newPP (K := (· < w.heap.size)) w (fun k hk => hk)
  have h2 := hT.2
  exact ⟨R, hR, hB, show 1 < w.heap.size by omega, show 2 < w.heap.size by omega, h2, hT.1.below (initW_below w) h2⟩
theorem fin_1 {a t : List Nat} (hs : Scs (a ++ t)) (ht : NoM t) : finL (encs (a ++ t)) (encs a).length 1 false = encs (a ++ t) := by
  have := smL_1 hs ht
  exact this
def TkQ (K : Nat → Prop) (w : World) (l : List UInt8) (e : Ending) (w' : World) : Prop := ∃ y : ByteArray, e = .returned (.string y) ∧ Hid (y.data.toList = l) ∧ Kp K w w'
theorem take_ps (h : Ps K w p o 0) (hg : GoodT o 40000) : Calls Tryz.prog 77 #[.pointer (some ⟨p, 0, none⟩)] w (TkQ K w (encs o)) := by
  obtain ⟨a, t, rfl, hn, R, hR, h, hE⟩ := h
  have hle := hg.le
  have hf := fin_1 hg.sc hn
  have hfe : finE (encs (a ++ t)) (encs a).length 1 = encs (a ++ t) := smE_1 hg.sc hn
  refine (takeString_any h (.inr (.inl rfl)) (by omega) (by rw [hfe]; omega) (by rw [encs_append, List.length_append]; omega) hE.2.2.2 hE.2.2.1 (badEnd_enc hg.sc) (fun h => by cases h)).mono ?_
  rintro e w' ⟨y, he, hy, _, hk⟩
  rw [hf] at hy
  exact ⟨y, he, hy, hk⟩
/-- What Sprint returns. -/
def SprQ (w : World) (l : List UInt8) (e : Ending) (w' : World) : Prop := ∃ y : ByteArray, e = .returned (.string y) ∧ Hid (y.data.toList = l) ∧ Below w.heap.size w w'
set_option maxRecDepth 100000 in
theorem rfmtSprint_any (v : Value) (l : List AArg) (w : World) (hT : TabW w) (hv : IfAt (· < w.heap.size) w v (l.map AArg.pv)) (hl : l.length ≤ 10) (hok : ∀ a ∈ l, a.Ok) :
    Calls Tryz.prog 49 #[v] w (SprQ w (encs (sprG [] none l))) := by
  have hP := newPP_pp w hT
  have hK0 : Kp (· < w.heap.size) w (initW (w.alloc (.cells Z0 89)).drew w.heap.size) := Kp.of_below (fun _ h => h) (initW_below w)
  have HD := Lib.hid (doPrint_any v l hP (hv.kp hK0) hl hok)
  have HG := Lib.hid ((GoodT.spr l [] none 0 GoodT.nil hok).mono (show 0 + 411 * l.length ≤ 40000 by omega))
  have HK0 := Lib.hid hK0
  have HT := Lib.hid hT
  clear hP hK0 hv hok hT
  generalize sprG [] none l = g at HD HG
  generalize hW : initW (w.alloc (.cells Z0 89)).drew w.heap.size = W at HD HK0
  have HW := Lib.hid hW; clear hW
  go_enter Tryz.func49, Tryz.ntmps49
  go_wp2_with fail
  refine (newPrinter_any w).mono ?_
  rintro e w1 ⟨rfl, hw1⟩
  obtain rfl : w1 = W := hw1.trans HW.out
  clear hw1
  go_wp2_with fail
  refine HD.out.mono ?_
  rintro e w2 ⟨rfl, h2, hb2⟩
  go_wp2_with fail
  refine (take_ps h2.out HG.out).mono ?_
  rintro e w3 ⟨y, rfl, hy, hb3⟩
  go_wp2_with fail
  go_ret
  exact ⟨y, rfl, hy, (HK0.out.trans (hb2.trans hb3)).below⟩
end
end Go.Proofs.YtlmcglaajmjanaaGreatDoor
