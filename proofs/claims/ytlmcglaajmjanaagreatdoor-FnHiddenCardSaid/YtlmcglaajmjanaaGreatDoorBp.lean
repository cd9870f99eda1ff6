/- Plain words: what arguments put into a builder, one behind the other, make, in runes. No program is in sight. -/
import Derived.Test.YtlmcglaajmjanaaGreatDoorZk
namespace Go.Proofs.YtlmcglaajmjanaaGreatDoor
open Go.RowKit
theorem fold_last : ∀ (s : List Nat) (st : List Nat × Bool), s ≠ [] → (s.foldl unsN st).2 = true → (s.foldl unsN st).1.getLast? = some 10 := by
  intro s
  induction s with
  | nil => intro st h _; exact absurd rfl h
  | cons r s ih =>
    intro st _ h
    rw [List.foldl_cons] at h ⊢
    by_cases hs : s = []
    · subst hs
      have hr : r = 10 := by simpa [unsN] using h
      subst hr
      simp [unsN]
    · exact ih _ hs h
/-- An unsafe text put behind another one is the two of them put at once. -/
theorem unsafeN_append {o : List Nat} (h : Mk o) (s t : List Nat) : unsafeN o (s ++ t) = unsafeN (unsafeN o s) t := by
  by_cases ht : t = []
  · subst ht
    have : ∀ y, unsafeN y [] = y := fun y => by unfold unsafeN; rw [if_pos rfl]
    rw [List.append_nil, this]
  by_cases hs : s = []
  · subst hs
    have : unsafeN o [] = o := by unfold unsafeN; rw [if_pos rfl]
    rw [this]; rfl
  have e1 : unsafeN o s = finN ((s.map escN).foldl unsN (openN o, false)) := by unfold unsafeN; rw [if_neg hs]
  have e2 : unsafeN o (s ++ t) = finN ((t.map escN).foldl unsN ((s.map escN).foldl unsN (openN o, false))) := by
    unfold unsafeN
    rw [if_neg (by simp [hs]), List.map_append, List.foldl_append]
  rw [e1, e2]
  have h1 := UnsAt.fold (s.map escN) (openN o, false) (UnsAt.start h) (fun x hx => by obtain ⟨y, _, rfl⟩ := List.mem_map.1 hx; exact escN_noM y) (by simpa using hs)
  have h2 := fold_last (s.map escN) (openN o, false) (by simpa using hs)
  generalize (s.map escN).foldl unsN (openN o, false) = st at h1 h2
  obtain ⟨x, ln⟩ := st
  have e3 : ∀ y, unsafeN y t = finN ((t.map escN).foldl unsN (openN y, false)) := fun y => by unfold unsafeN; rw [if_neg ht]
  rw [e3]
  congr 1
  cases ln with
  | false =>
    have : openN (finN (x, false)) = x := by simp [finN, openN]
    rw [this]
  | true =>
    have hl : x.getLast? = some 10 := h2 rfl
    have : openN (finN (x, true)) = x ++ [8249] := by
      have hf : finN (x, true) = x := rfl
      rw [hf]; unfold openN; rw [if_neg (by simp [hl])]
    rw [this]
    cases t with
    | nil => exact absurd rfl ht
    | cons r t =>
      rw [List.map_cons, List.foldl_cons, List.foldl_cons]
      congr 1
      by_cases hr : escN r = 10
      · rw [hr]; simp [unsN, closeN]
      · simp [unsN, hr]
theorem unsafeN_nil (o : List Nat) : unsafeN o [] = o := by unfold unsafeN; rw [if_pos rfl]
def putB (o : List Nat) (a : AArg) : List Nat :=
  if a.kind = 1 ∨ a.kind = 4 then o ++ runes a.text else if a.kind = 3 then o ++ numN a.n
  else if a.kind = 7 ∨ a.kind = 9 then unsafeN o [a.n.toNat] else if a.kind = 8 ∨ a.kind = 10 then o ++ [a.n.toNat] else unsafeN o (runes a.text)
def bldN (o : List Nat) (l : List AArg) : List Nat := l.foldl putB o
/-- One of ten kinds; a right text; a number; runes and bytes of ASCII. -/
structure AArg.OkB (a : AArg) : Prop where
  kd : a.kind = 0 ∨ a.kind = 1 ∨ a.kind = 3 ∨ a.kind = 4 ∨ a.kind = 5 ∨ a.kind = 6 ∨ a.kind = 7 ∨ a.kind = 8 ∨ a.kind = 9 ∨ a.kind = 10
  tx : Txt a.text (runes a.text)
  sf : a.kind = 1 → NoM (runes a.text)
  mk1 : a.kind = 4 → Mk (runes a.text)
  n0 : -9223372036854775808 ≤ a.n
  n1 : a.n ≤ 9223372036854775807
  nn : 7 ≤ a.kind → 0 ≤ a.n ∧ a.n ≤ 127
theorem asc_noM1 {n : Nat} (h : n ≤ 127) : NoM [n] := fun x hx => by
  obtain rfl := List.mem_singleton.1 hx
  unfold isM; simp; omega
theorem asc_sc1 {n : Nat} (h : n ≤ 127) : Scs [n] := Scs.one (sc_lt (by omega))
theorem asc_len {n : Nat} (h : n ≤ 127) : (encs [n]).length = 1 := by rw [encs_one, encL_ascii _ (by omega)]; rfl
theorem GoodT.safe {o x : List Nat} {n k : Nat} (h : GoodT o n) (hs : Scs x) (hm : Mk x) (hl : (encs x).length ≤ k) : GoodT (o ++ x) (n + k) :=
  ⟨h.sc.append hs, h.mkd.append hm, by have := h.le; rw [encs_append, List.length_append]; omega⟩
theorem GoodT.uns {o x : List Nat} {n : Nat} (h : GoodT o n) (hs : Scs x) (hl : (encs x).length ≤ 100) : GoodT (unsafeN o x) (n + 410) :=
  ⟨h.sc.unsafeN hs, h.mkd.unsafeN, by have := h.le; have := unsafeN_le (o := o) hs; omega⟩
theorem GoodT.putB {o : List Nat} {n : Nat} {a : AArg} (h : GoodT o n) (ha : a.OkB) : GoodT (putB o a) (n + 410) := by
  have hx := ha.tx.len
  have hn := numL_le a.n
  have hle := h.le
  unfold Proofs.YtlmcglaajmjanaaGreatDoor.putB
  split
  · rename_i hk
    refine (h.safe ha.tx.sc ?_ (k := 100) hx).mono (by omega)
    rcases hk with hk | hk
    · exact Mk.safe (ha.sf hk)
    · exact ha.mk1 hk
  · split
    · exact (h.safe (numN_sc _) (Mk.safe (numN_noM _)) (k := 21) (by rw [numN_enc]; omega)).mono (by omega)
    · split
      · rename_i hk
        have := ha.nn (by omega)
        exact h.uns (asc_sc1 (by omega)) (by rw [asc_len (by omega)]; omega)
      · split
        · rename_i hk
          have := ha.nn (by omega)
          exact (h.safe (asc_sc1 (by omega)) (Mk.safe (asc_noM1 (by omega))) (k := 1) (by rw [asc_len (by omega)]; omega)).mono (by omega)
        · exact h.uns ha.tx.sc hx
theorem GoodT.bld : ∀ (l : List AArg) (o : List Nat) (n : Nat), GoodT o n → (∀ a ∈ l, a.OkB) → GoodT (bldN o l) (n + 410 * l.length) := by
  intro l
  induction l with
  | nil => intro o n h _; exact h
  | cons a l ih =>
    intro o n h ha
    have h3 := ih _ _ (h.putB (ha a (List.mem_cons_self ..))) (fun x hx => ha x (List.mem_cons_of_mem _ hx))
    exact h3.mono (by simp; omega)
theorem bld_step {o : List Nat} {l : List AArg} {k : Nat} {g : List Nat} (hk : k < l.length) (h : bldN o (l.drop k) = g) : bldN (putB o (l[k]'hk)) (l.drop (k + 1)) = g := by
  rw [List.drop_eq_getElem_cons hk] at h
  exact h
theorem areB_okB {l : List AArg} (h : areB buKinds l = true) (hn : NumOk l) : l.length ≤ 10 ∧ ∀ a ∈ l, a.OkB := by
  unfold areB at h
  rw [Bool.and_eq_true, decide_eq_true_eq] at h
  refine ⟨h.1, fun a ha => ?_⟩
  obtain ⟨⟨k, hk, he⟩, h2, h3, h4, h5⟩ := argB_parts (List.all_eq_true.1 h.2 a ha)
  refine ⟨?_, h2, h3, h4, (hn a ha).1, (hn a ha).2, fun h7 => ?_⟩
  · rw [he]
    simp [buKinds] at hk
    exact hk
  · unfold numBad at h5
    simp at h5
    have := h5 h7
    omega
theorem AArg.OkB.taken {a : AArg} (h : a.OkB) : Taken 11 a :=
  ⟨by rcases h.kd with h | h | h | h | h | h | h | h | h | h <;> omega, by rcases h.kd with h | h | h | h | h | h | h | h | h | h <;> omega, by have := h.tx.le; omega, h.nn⟩
end Go.Proofs.YtlmcglaajmjanaaGreatDoor
