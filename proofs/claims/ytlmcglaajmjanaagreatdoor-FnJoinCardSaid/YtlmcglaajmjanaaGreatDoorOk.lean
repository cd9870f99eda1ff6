/- Walks of package impl: argsOk, at arguments that are taken. -/
import Derived.Test.YtlmcglaajmjanaaGreatDoorVa
namespace Go.Proofs.YtlmcglaajmjanaaGreatDoor
open Go.RowKit
/-- An argument that impl takes, of so many kinds. -/
structure Taken (kinds : Int) (a : AArg) : Prop where
  k0 : 0 ≤ a.kind
  k1 : a.kind < kinds
  tx : a.text.size ≤ 400
  nn : 7 ≤ a.kind → 0 ≤ a.n ∧ a.n ≤ 127
set_option maxHeartbeats 1000000 in
theorem argOk1_low (k : Int) (s : ByteArray) (n : Int) (kinds : Int) (kb : Nat) (w : World) (hc : w.cell? ⟨kb, 0, none⟩ = some (.int .i64 kinds)) (h0 : 0 ≤ k) (h1 : k < kinds) (hs : s.size ≤ 400) (h7 : k < 7) :
    Calls Tryz.prog 72 #[.agg #[.int .i64 k, .string s, .int .i64 n], .pointer (some ⟨kb, 0, none⟩)] w (ValQ (.bool false) w) := by
  have hkb := World.block_lt_of_cell? w _ hc
  have d1 : decide (k < 0) = false := by simp; omega
  have d2 : decide (kinds ≤ k) = false := by simp; omega
  have d3 : decide (400 < (s.size : Int)) = false := by simp; omega
  have d4 : decide (7 ≤ k) = false := by simp; omega
  have d5 : decide (9 ≤ k) = false := by simp; omega
  go_enter Tryz.func72, Tryz.ntmps72
  go_wp2_with fail
  go_ret
  exact ⟨rfl, (Below.refl _ _).alloc (Nat.le_refl _) _⟩
theorem validRune_ascii (n : Int) (h0 : 0 ≤ n) (h1 : n ≤ 127) : Lib.validRune n = true := by
  unfold Lib.validRune
  simp; omega
set_option maxHeartbeats 1000000 in
theorem argOk1_mid (k : Int) (s : ByteArray) (n : Int) (kinds : Int) (kb : Nat) (w : World) (hc : w.cell? ⟨kb, 0, none⟩ = some (.int .i64 kinds)) (h1 : k < kinds) (hs : s.size ≤ 400) (h7 : 7 ≤ k) (h8 : k ≤ 8) (n0 : 0 ≤ n) (n1 : n ≤ 127) :
    Calls Tryz.prog 72 #[.agg #[.int .i64 k, .string s, .int .i64 n], .pointer (some ⟨kb, 0, none⟩)] w (ValQ (.bool false) w) := by
  have hkb := World.block_lt_of_cell? w _ hc
  have d1 : decide (k < 0) = false := by simp; omega
  have d2 : decide (kinds ≤ k) = false := by simp; omega
  have d3 : decide (400 < (s.size : Int)) = false := by simp; omega
  have d4 : decide (7 ≤ k) = true := by simp; omega
  have d4' : decide (k ≤ 8) = true := by simp; omega
  have d5 : decide (9 ≤ k) = false := by simp; omega
  have d6 : decide (n < 0) = false := by simp; omega
  have d7 : decide (1114111 < n) = false := by simp; omega
  have HV := Lib.hid (validRune_ascii n n0 n1)
  go_enter Tryz.func72, Tryz.ntmps72
  go_wp2_with fail
  refine (Tryz.utf8_ValidRune _ _).mono ?_
  rw [HV.out]
  rintro e w' ⟨rfl, rfl⟩
  go_wp2_with fail
  go_ret
  exact ⟨rfl, (Below.refl _ _).alloc (Nat.le_refl _) _⟩
set_option maxHeartbeats 1000000 in
theorem argOk1_high (k : Int) (s : ByteArray) (n : Int) (kinds : Int) (kb : Nat) (w : World) (hc : w.cell? ⟨kb, 0, none⟩ = some (.int .i64 kinds)) (h1 : k < kinds) (hs : s.size ≤ 400) (h9 : 9 ≤ k) (n0 : 0 ≤ n) (n1 : n ≤ 127) :
    Calls Tryz.prog 72 #[.agg #[.int .i64 k, .string s, .int .i64 n], .pointer (some ⟨kb, 0, none⟩)] w (ValQ (.bool false) w) := by
  have hkb := World.block_lt_of_cell? w _ hc
  have d1 : decide (k < 0) = false := by simp; omega
  have d2 : decide (kinds ≤ k) = false := by simp; omega
  have d3 : decide (400 < (s.size : Int)) = false := by simp; omega
  have d4 : decide (7 ≤ k) = true := by simp; omega
  have d4' : decide (k ≤ 8) = false := by simp; omega
  have d5 : decide (9 ≤ k) = true := by simp; omega
  have d6 : decide (n < 0) = false := by simp; omega
  have d7 : decide (255 < n) = false := by simp; omega
  go_enter Tryz.func72, Tryz.ntmps72
  go_wp2_with fail
  go_ret
  exact ⟨rfl, (Below.refl _ _).alloc (Nat.le_refl _) _⟩
theorem argOk1_any (a : AArg) (kinds : Int) (kb : Nat) (w : World) (hc : w.cell? ⟨kb, 0, none⟩ = some (.int .i64 kinds)) (h : Taken kinds a) :
    Calls Tryz.prog 72 #[.agg #[.int .i64 a.kind, .string a.text, .int .i64 a.n], .pointer (some ⟨kb, 0, none⟩)] w (ValQ (.bool false) w) := by
  by_cases h7 : a.kind < 7
  · exact argOk1_low _ _ _ kinds kb w hc h.k0 h.k1 h.tx h7
  · have hn := h.nn (by omega)
    by_cases h9 : 9 ≤ a.kind
    · exact argOk1_high _ _ _ kinds kb w hc h.k1 h.tx h9 hn.1 hn.2
    · exact argOk1_mid _ _ _ kinds kb w hc h.k1 h.tx (by omega) (by omega) hn.1 hn.2
def AllTaken (kinds : Int) (l : List AArg) : Prop := ∀ a ∈ l, Taken kinds a
set_option maxHeartbeats 2000000 in
theorem indexFunc_no (v : Value) (l : List AArg) (kinds : Int) (kb : Nat) (w : World) (hA : ArgsAt w v l) (hc : w.cell? ⟨kb, 0, none⟩ = some (.int .i64 kinds)) (hl : l.length ≤ 20) (ht : AllTaken kinds l) :
    Calls Tryz.prog 99 #[v, .func (.func 72) #[] #[.pointer (some ⟨kb, 0, none⟩)]] w (ValQ (.int .i64 (-1)) w) := by
  have hlen := fun ty => hA.len ty
  have HA := Lib.hid hA; clear hA
  have HT := Lib.hid ht; clear ht
  have HC := Lib.hid hc; clear hc
  go_enter Tryz.func99, Tryz.ntmps99
  go_wp2_with fail
  go_loopw [8] (fun i wr => ∃ k : Nat, i = .int .i64 k ∧ k ≤ l.length ∧ Below w.heap.size w wr)
    (fun i _ => l.length - (intOf i).toNat)
  case atStart => exact ⟨0, rfl, Nat.zero_le _, Below.refl _ _⟩
  case round =>
    obtain ⟨k, rfl, hk, hnx⟩ := hrel
    by_cases hlt : k < l.length
    · obtain ⟨qb, qo, hix, hld0⟩ := HA.out.at_ k hlt
      obtain ⟨c0, c1, c2⟩ := hld0 wr (HA.out.below hnx)
      clear hld0
      have htk := HT.out _ (List.getElem_mem hlt)
      obtain ⟨x, hx⟩ : ∃ x, l[k]'hlt = x := ⟨_, rfl⟩
      rw [hx] at c0 c1 c2 htk
      clear hx
      have hwz := hnx.size
      have HV := Lib.hid (argOk1_any x kinds kb wr ((hnx.cell (p := ⟨kb, 0, none⟩) (World.block_lt_of_cell? w _ HC.out)).trans HC.out) htk)
      clear htk
      obtain ⟨kd, tx, nn⟩ := x
      dsimp only at c0 c1 c2 HV
      go_wp2_with fail
      refine HV.out.mono ?_
      rintro e w2 ⟨rfl, hb2⟩
      go_wp2_with fail
      go_roundw
      case rel => exact ⟨k + 1, by go_num, by omega, hnx.trans (hb2.mono hwz)⟩
      case measure => simp [intOf]; omega
    · go_wp2_with fail
      go_ret
      exact ⟨rfl, hnx⟩
end Go.Proofs.YtlmcglaajmjanaaGreatDoor
