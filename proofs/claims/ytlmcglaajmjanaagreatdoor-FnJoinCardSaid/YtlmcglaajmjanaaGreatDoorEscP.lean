/- Words for the walk of InternalEscapeBytes. -/
import Derived.Test.YtlmcglaajmjanaaGreatDoorEsc
namespace Go.Proofs.YtlmcglaajmjanaaGreatDoor
open Go.RowKit
def EscQ (s : Value) (l goal : List UInt8) (w : World) (e : Ending) (w' : World) : Prop := ∃ v, e = .returned v ∧ Hid ((v = s ∧ goal = l) ∨ Own w' w.heap.size v goal) ∧ Below w.heap.size w w'
def EscAt (brk : Bool) (l goal : List UInt8) (i : Nat) (out : List UInt8) : Prop := escGo brk out (l.drop i) = goal ∧ out.length ≤ 7 * i
/-- What the loop has made: nothing of its own yet, or a row that holds acc; out is that and what is pending from k on. -/
def EscS (wr : World) (B : Nat) (s rv : Value) (l : List UInt8) (cp : Bool) (k i : Nat) (out : List UInt8) : Prop :=
  (cp = false ∧ rv = s ∧ k = 0 ∧ out = l.take i) ∨ (cp = true ∧ ∃ acc, Own wr B rv acc ∧ acc ++ (l.take i).drop k = out ∧ acc.length ≤ 7 * k)
theorem Own.base {w : World} {B B' : Nat} {v : Value} {l : List UInt8} (h : Own w B v l) (hB : B' ≤ B) : Own w B' v l := by
  obtain ⟨h1, h2⟩ := h
  refine ⟨h1, ?_⟩
  rcases h2 with h2 | ⟨g, cap, cur, hv, hg, r⟩
  · exact .inl h2
  · exact .inr ⟨g, cap, cur, hv, Nat.le_trans hB hg, r⟩
theorem Own.make' (w : World) (nI : Int) (n : Nat) (hnn : nI = n) (hn : n ≤ 1000000) :
    ∃ w', (Instr.makeSlice 31 (.int .i64 0) (.int .i64 nI)).run Tryz.prog w = .ok (.slice (some ⟨w.heap.size, 0, none⟩) 0 n) w' ∧ Own w' w.heap.size (.slice (some ⟨w.heap.size, 0, none⟩) 0 n) [] ∧ Below w.heap.size w w' := by
  subst hnn; exact Own.make w n hn
theorem isMk_of {l : List UInt8} (h : l = mkS ∨ l = mkE ∨ l = mkH) : isMk l = true := by
  rcases h with rfl | rfl | rfl <;> rfl
theorem isMk_not {l : List UInt8} (h1 : (l == mkS) = false) (h2 : (l == mkE) = false) (h3 : (l == mkH) = false) : isMk l = false := by
  unfold isMk; rw [h1, h2, h3]; rfl
theorem isMk_short {l : List UInt8} (h : l.length < 3) : isMk l = false := by
  refine isMk_not ?_ ?_ ?_ <;> refine beq_eq_false_iff_ne.2 fun hn => ?_ <;> subst hn <;> simp [mkS, mkE, mkH] at h
theorem drop_head {l : List UInt8} {i : Nat} (h : i < l.length) : l.drop i = l.getD i 0 :: l.drop (i + 1) := by
  rw [List.drop_eq_getElem_cons h]; simp [List.getD, h]
theorem EscAt.mk {brk : Bool} {l goal out : List UInt8} {i : Nat} (h : EscAt brk l goal i out) (hx : (brk && l.getD i 0 == 10) = false) (hi : i < l.length) (hm : isMk ((l.drop i).take 3) = true) : EscAt brk l goal (i + 3) (out ++ [63]) := by
  refine ⟨?_, by have := h.2; simp; omega⟩
  rw [← h.1, escGo_mk out (by rw [drop_head hi]; simpa using hx) hm, List.drop_drop]
theorem EscAt.plain {brk : Bool} {l goal out : List UInt8} {i : Nat} (h : EscAt brk l goal i out) (hx : (brk && l.getD i 0 == 10) = false) (hi : i < l.length) (hm : isMk ((l.drop i).take 3) = false) : EscAt brk l goal (i + 1) (out ++ [l.getD i 0]) := by
  refine ⟨?_, by have := h.2; simp; omega⟩
  rw [← h.1]
  rw [drop_head hi] at hm ⊢
  rw [escGo_plain out hx hm]
theorem EscS.plain {wr : World} {B : Nat} {s rv : Value} {l : List UInt8} {cp : Bool} {k i : Nat} {out : List UInt8} (h : EscS wr B s rv l cp k i out) (hi : i < l.length) (hk : k ≤ i) : EscS wr B s rv l cp k (i + 1) (out ++ [l.getD i 0]) := by
  have ht : l.take (i + 1) = l.take i ++ [l.getD i 0] := by rw [List.take_succ_eq_append_getElem hi]; simp [List.getD, hi]
  rcases h with ⟨a, b, c, d⟩ | ⟨a, acc, b, c, d⟩
  · exact .inl ⟨a, b, c, by rw [d, ht]⟩
  · refine .inr ⟨a, acc, b, ?_, d⟩
    rw [ht, List.drop_append_of_le_length (by simp; omega), ← List.append_assoc, c]
theorem nl_span : ∀ r : List UInt8, ∃ n, r.takeWhile (· == 10) = r.take n ∧ r.dropWhile (· == 10) = r.drop n ∧ n ≤ r.length ∧ (∀ t, t < n → r.getD t 0 = 10) ∧ (n < r.length → r.getD n 0 ≠ 10) ∧ (r.getD 0 0 = 10 → r ≠ [] → 0 < n) := by
  intro r
  induction r with
  | nil => exact ⟨0, rfl, rfl, Nat.le_refl _, fun t ht => absurd ht (by omega), fun h => by simp at h, fun _ h => absurd rfl h⟩
  | cons x r ih =>
    obtain ⟨n, h1, h2, h3, h4, h5, h6⟩ := ih
    by_cases hx : x = 10
    · subst hx
      refine ⟨n + 1, by simp [h1], by simp [h2], by simp; omega, ?_, ?_, fun _ _ => by omega⟩
      · intro t ht
        cases t with
        | zero => rfl
        | succ t => simpa using h4 t (by omega)
      · intro hn
        simpa using h5 (by simpa using hn)
    · refine ⟨0, by simp [hx], by simp [hx], by omega, fun t ht => absurd ht (by omega), fun _ => by simpa using hx, fun h _ => absurd (by simpa using h) hx⟩
theorem nl_run (l : List UInt8) (i : Nat) (hi : i < l.length) (hx : l.getD i 0 = 10) : ∃ j, i < j ∧ j ≤ l.length ∧ (∀ t, i ≤ t → t < j → l.getD t 0 = 10) ∧ (j < l.length → l.getD j 0 ≠ 10) ∧ (l.take j).drop i = (l.drop i).takeWhile (· == 10) ∧ l.drop j = (l.drop i).dropWhile (· == 10) := by
  obtain ⟨n, h1, h2, h3, h4, h5, h6⟩ := nl_span (l.drop i)
  have hg : ∀ t, (l.drop i).getD t 0 = l.getD (i + t) 0 := by intro t; simp [List.getD, List.getElem?_drop]
  simp only [List.length_drop] at h3 h5
  have h0 := h6 (by rw [hg]; exact hx) (by intro hn; have := congrArg List.length hn; simp at this; omega)
  refine ⟨i + n, by omega, by omega, fun t ht1 ht2 => ?_, fun hn => ?_, ?_, ?_⟩
  · have := h4 (t - i) (by omega)
    rwa [hg, show i + (t - i) = t by omega] at this
  · rw [← hg]; exact h5 (by omega)
  · rw [h1, List.drop_take]; congr 1; omega
  · rw [h2, List.drop_drop]
theorem cut_le (out : List UInt8) : (if Lib.hasSuffix out mkS then out.take (out.length - 3) else out ++ mkE).length ≤ out.length + 3 := by
  split
  · simp; omega
  · simp [mkE]
end Go.Proofs.YtlmcglaajmjanaaGreatDoor
