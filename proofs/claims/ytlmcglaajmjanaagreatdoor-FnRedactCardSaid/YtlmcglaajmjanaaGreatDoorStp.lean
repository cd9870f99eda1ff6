/- Walk of stripMarkersBytes: a text without its markers, or with something in their place. -/
import Derived.Test.YtlmcglaajmjanaaGreatDoorSib
import Derived.Test.YtlmcglaajmjanaaGreatDoorZc
import Derived.Lib.MapLaws
namespace Go.Proofs.YtlmcglaajmjanaaGreatDoor
open Go.RowKit
def stripF (rl : List UInt8) : Nat → List UInt8 → List UInt8
  | 0, _ => []
  | _ + 1, [] => []
  | f + 1, x :: xs => if isMk ((x :: xs).take 3) then rl ++ stripF rl f ((x :: xs).drop 3) else x :: stripF rl f xs
/-- What lies in l, rl in the place of each marker. -/
def stL (rl l : List UInt8) : List UInt8 := stripF rl l.length l
theorem stripF_more (rl : List UInt8) : ∀ (f g : Nat) (l : List UInt8), l.length ≤ f → l.length ≤ g → stripF rl f l = stripF rl g l := by
  intro f
  induction f with
  | zero =>
    intro g l h _
    have : l = [] := List.eq_nil_of_length_eq_zero (by omega)
    subst this
    cases g <;> rfl
  | succ f ih =>
    intro g l h h'
    cases g with
    | zero =>
      have : l = [] := List.eq_nil_of_length_eq_zero (by omega)
      subst this; rfl
    | succ g =>
      cases l with
      | nil => rfl
      | cons x xs =>
        simp only [stripF]
        simp at h h'
        split
        · rw [ih g _ (by simp; omega) (by simp; omega)]
        · rw [ih g _ h h']
theorem stL_nil (rl : List UInt8) : stL rl [] = [] := rfl
theorem stL_mk {rl l : List UInt8} (h : isMk (l.take 3) = true) : stL rl l = rl ++ stL rl (l.drop 3) := by
  cases l with
  | nil => simp [isMk, mkS, mkE, mkH] at h
  | cons x xs =>
    unfold stL
    show (if _ then _ else _) = _
    rw [if_pos h, stripF_more rl xs.length ((x :: xs).drop 3).length _ (by simp) (Nat.le_refl _)]
theorem stL_no {rl xs : List UInt8} {x : UInt8} (h : isMk ((x :: xs).take 3) = false) : stL rl (x :: xs) = x :: stL rl xs := by
  unfold stL
  show (if _ then _ else _) = _
  rw [if_neg (by rw [h]; decide)]
theorem stL_drop {rl l : List UInt8} {i : Nat} (hi : i < l.length) (h : isMk ((l.drop i).take 3) = false) : stL rl (l.drop i) = (l[i]'hi) :: stL rl (l.drop (i + 1)) := by
  rw [List.drop_eq_getElem_cons hi] at h ⊢
  exact stL_no h
/-- Where the scan stands. -/
def StI (rl l goal : List UInt8) (pos i : Nat) (acc : List UInt8) : Prop := pos ≤ i ∧ i ≤ l.length ∧ acc ++ (l.take i).drop pos ++ stL rl (l.drop i) = goal ∧ (pos = 0 → acc = []) ∧ acc.length ≤ 3 * pos
theorem StI.miss {rl l goal acc : List UInt8} {pos i : Nat} (h : StI rl l goal pos i acc) (hi : i < l.length) (hm : isMk ((l.drop i).take 3) = false) : StI rl l goal pos (i + 1) acc := by
  obtain ⟨h1, h2, h3, h4, h5⟩ := h
  refine ⟨by omega, by omega, ?_, h4, h5⟩
  rw [stL_drop hi hm] at h3
  rw [← h3, List.take_succ_eq_append_getElem hi, List.drop_append_of_le_length (by simp; omega)]
  simp
theorem StI.hit {rl l goal acc : List UInt8} {pos i : Nat} (h : StI rl l goal pos i acc) (hm : isMk ((l.drop i).take 3) = true) (h3i : i + 3 ≤ l.length) (hr : rl.length ≤ 3) : StI rl l goal (i + 3) (i + 3) (acc ++ (l.take i).drop pos ++ rl) := by
  obtain ⟨h1, h2, h3, h4, h5⟩ := h
  refine ⟨Nat.le_refl _, h3i, ?_, fun h => by omega, by simp; omega⟩
  rw [stL_mk hm, List.drop_drop] at h3
  rw [← h3]
  have : (l.take (i + 3)).drop (i + 3) = [] := List.drop_of_length_le (by simp; omega)
  rw [this]; simp
theorem StI.stop {rl l goal acc : List UInt8} {pos i : Nat} (h : StI rl l goal pos i acc) (hi : ¬ i < l.length) : acc ++ l.drop pos = goal ∧ (pos = 0 → l = goal) := by
  obtain ⟨h1, h2, h3, h4, h5⟩ := h
  have hil : i = l.length := by omega
  subst hil
  rw [List.take_length, List.drop_length, stL_nil, List.append_nil] at h3
  refine ⟨h3, fun h0 => ?_⟩
  rw [h4 h0, h0] at h3
  simpa using h3
/-- No marker lies ahead of the first byte 226. -/
theorem st_first {rl : List UInt8} : ∀ (l : List UInt8), (Lib.indexByte l 226 = -1 → stL rl l = l) ∧ ∀ f : Nat, Lib.indexByte l 226 = f → f < l.length ∧ l.take f ++ stL rl (l.drop f) = stL rl l := by
  intro l
  induction l with
  | nil => exact ⟨fun _ => rfl, fun f h => by simp [Lib.indexByte] at h⟩
  | cons b l ih =>
    simp only [Lib.indexByte]
    by_cases hb : b = 226
    · subst hb
      refine ⟨fun h => by simp at h, fun f h => ?_⟩
      obtain rfl : f = 0 := by simp at h; omega
      simp
    · have hb2 : (b == 226) = false := by simp [hb]
      have hm : isMk ((b :: l).take 3) = false := by
        cases hmk : isMk ((b :: l).take 3) with
        | false => rfl
        | true => have := isMk_head hmk; simp at this; exact absurd this hb
      rw [hb2]
      simp only [Bool.false_eq_true, if_false]
      by_cases hn : Lib.indexByte l 226 = -1
      · rw [if_pos (by simp [hn])]
        refine ⟨fun _ => by rw [stL_no hm, ih.1 hn], fun f h => by omega⟩
      · rw [if_neg (by simp [hn])]
        have hge := Lib.indexByte_ge l 226
        refine ⟨fun h => by omega, fun f h => ?_⟩
        obtain ⟨g, rfl⟩ : ∃ g, f = g + 1 := ⟨f - 1, by omega⟩
        have := ih.2 g (by omega)
        refine ⟨by simp; omega, ?_⟩
        rw [stL_no hm, List.take_succ_cons, List.drop_succ_cons, List.cons_append, this.2]
theorem isMk3 (a b c : UInt8) : isMk [a, b, c] = (a == 226 && b == 128 && (c == 185 || c == 186 || c == 160)) := by
  unfold isMk mkS mkE mkH
  cases ha : a == 226 <;> cases hb : b == 128 <;> simp_all
theorem isMk_at {l : List UInt8} {i : Nat} : isMk ((l.drop i).take 3) = (decide (i + 2 < l.length) && (l.getD i 0 == 226 && l.getD (i + 1) 0 == 128 && (l.getD (i + 2) 0 == 185 || l.getD (i + 2) 0 == 186 || l.getD (i + 2) 0 == 160))) := by
  by_cases h : i + 2 < l.length
  · rw [decide_eq_true h, Bool.true_and, Lib.takeC _ (by simp; omega), isMk3]
    simp [List.getD, List.getElem?_drop]
  · rw [decide_eq_false h, Bool.false_and]
    cases hm : isMk ((l.drop i).take 3) with
    | false => rfl
    | true =>
      rw [isMk_iff] at hm
      exfalso
      have hl : ((l.drop i).take 3).length = 3 := by rcases hm with h | h | h <;> rw [h] <;> rfl
      simp at hl; omega
end Go.Proofs.YtlmcglaajmjanaaGreatDoor
