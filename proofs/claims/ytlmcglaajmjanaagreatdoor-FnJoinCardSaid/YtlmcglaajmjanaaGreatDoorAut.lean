/- Plain words: redactable texts, by an automaton over their runes; that writing keeps them so. No program is in sight. -/
import Derived.Test.YtlmcglaajmjanaaGreatDoorPln
namespace Go.Proofs.YtlmcglaajmjanaaGreatDoor
open Go.RowKit
/-- 0: outside; 1: behind a marker that begins; 2: inside, with something; 3: wrong. -/
def mkQ (q r : Nat) : Nat :=
  if q = 0 then (if r = 8249 then 1 else if r = 8250 ∨ r = 8224 then 3 else 0)
  else if q = 3 then 3
  else if r = 8250 then (if q = 2 then 0 else 3)
  else if r = 8249 ∨ r = 8224 ∨ r = 10 then 3 else 2
def mkS_ (rs : List Nat) : Nat := rs.foldl mkQ 0
def Mk (rs : List Nat) : Prop := mkS_ rs = 0
theorem mkS_append (a b : List Nat) : mkS_ (a ++ b) = b.foldl mkQ (mkS_ a) := by unfold mkS_; rw [List.foldl_append]
theorem mkS_snoc (a : List Nat) (r : Nat) : mkS_ (a ++ [r]) = mkQ (mkS_ a) r := by rw [mkS_append]; rfl
theorem Mk.nil : Mk [] := rfl
theorem Mk.append {a b : List Nat} (ha : Mk a) (hb : Mk b) : Mk (a ++ b) := by unfold Mk at *; rw [mkS_append, ha]; exact hb
theorem mkQ_bad : ∀ s : List Nat, s.foldl mkQ 3 = 3 := by
  intro s
  induction s with
  | nil => rfl
  | cons r s ih => rw [List.foldl_cons]; exact ih
theorem mk_noH : ∀ (s : List Nat) (q : Nat), s.foldl mkQ q = 0 → 8224 ∉ s := by
  intro s
  induction s with
  | nil => intro q _ h; cases h
  | cons r s ih =>
    intro q h hm
    rw [List.foldl_cons] at h
    rcases List.mem_cons.1 hm with rfl | hm
    · have : mkQ q 8224 = 3 := by unfold mkQ; repeat' split <;> simp_all
      rw [this, mkQ_bad] at h; cases h
    · exact ih _ h hm
theorem Mk.noH {o : List Nat} (h : Mk o) : 8224 ∉ o := mk_noH o 0 h
theorem isM_false {r : Nat} (h : isM r = false) : r ≠ 8249 ∧ r ≠ 8250 ∧ r ≠ 8224 := by simpa [isM, and_assoc] using h
theorem fold_safe : ∀ s : List Nat, (∀ r ∈ s, isM r = false) → s.foldl mkQ 0 = 0 := by
  intro s
  induction s with
  | nil => intro _; rfl
  | cons r s ih =>
    intro h
    obtain ⟨h1, h2, h3⟩ := isM_false (h r (List.mem_cons_self ..))
    rw [List.foldl_cons]
    have : mkQ 0 r = 0 := by simp [mkQ, h1, h2, h3]
    rw [this]; exact ih fun x hx => h x (List.mem_cons_of_mem _ hx)
theorem Mk.safe {s : List Nat} (h : ∀ r ∈ s, isM r = false) : Mk s := fold_safe s h
theorem mkQ_lt {q r : Nat} (_hq : q ≤ 3) : mkQ q r ≤ 3 := by unfold mkQ; (repeat' split) <;> omega
theorem foldQ_le : ∀ (s : List Nat) (q : Nat), q ≤ 3 → s.foldl mkQ q ≤ 3 := by
  intro s
  induction s with
  | nil => intro q h; exact h
  | cons r s ih => intro q h; exact ih _ (mkQ_lt h)
theorem mkS_le (s : List Nat) : mkS_ s ≤ 3 := foldQ_le s 0 (by omega)
theorem mkQ_S {q : Nat} (hq : q ≤ 3) (h : mkQ q 8249 ≠ 3) : q = 0 ∧ mkQ q 8249 = 1 := by
  have : q = 0 ∨ q = 1 ∨ q = 2 ∨ q = 3 := by omega
  rcases this with rfl | rfl | rfl | rfl <;> simp [mkQ] at h ⊢
theorem mkQ_E {q : Nat} (hq : q ≤ 3) (h : mkQ q 8250 = 0) : q = 2 := by
  have : q = 0 ∨ q = 1 ∨ q = 2 ∨ q = 3 := by omega
  rcases this with rfl | rfl | rfl | rfl <;> simp [mkQ] at h ⊢
theorem last_snoc {o : List Nat} {m : Nat} (h : o.getLast? = some m) : ∃ a, o = a ++ [m] := by
  rcases List.eq_nil_or_concat o with rfl | ⟨a, r, rfl⟩
  · cases h
  · rw [List.concat_eq_append] at h ⊢; simp at h; exact ⟨a, by rw [h]⟩
/-- Inside a marked part that has something the last rune is no marker that begins. -/
theorem two_last {a : List Nat} (h : mkS_ a = 2) : a.getLast? ≠ some 8249 := by
  intro hl
  obtain ⟨b, rfl⟩ := last_snoc hl
  rw [mkS_snoc] at h
  have := mkQ_S (mkS_le b) (by rw [h]; omega)
  omega
theorem Mk.inside {a : List Nat} (h : Mk (a ++ [8250])) : mkS_ a = 2 := by
  unfold Mk at h
  rw [mkS_snoc] at h
  exact mkQ_E (mkS_le a) h
theorem closeN_openN {o : List Nat} (h : Mk o) : closeN (openN o) = o := by
  by_cases hl : o.getLast? = some 8250
  · obtain ⟨a, rfl⟩ := last_snoc hl
    have h2 := two_last h.inside
    have : openN (a ++ [8250]) = a := by simp [openN]
    rw [this]
    unfold closeN
    rw [if_neg (by simpa using h2)]
  · have : openN o = o ++ [8249] := by unfold openN; rw [if_neg (by simpa using hl)]
    rw [this]; simp [closeN]
/-- Where a text stands while an unsafe one is put behind it. -/
def UnsAt (st : List Nat × Bool) : Prop := if st.2 then mkS_ st.1 = 0 else (mkS_ st.1 = 1 ∧ st.1.getLast? = some 8249) ∨ (mkS_ st.1 = 2 ∧ st.1.getLast? ≠ some 8249)
theorem UnsAt.start {o : List Nat} (h : Mk o) : UnsAt (openN o, false) := by
  unfold UnsAt
  simp only [Bool.false_eq_true, if_false]
  by_cases hl : o.getLast? = some 8250
  · obtain ⟨a, rfl⟩ := last_snoc hl
    have : openN (a ++ [8250]) = a := by simp [openN]
    rw [this]
    exact .inr ⟨h.inside, two_last h.inside⟩
  · have : openN o = o ++ [8249] := by unfold openN; rw [if_neg (by simpa using hl)]
    rw [this]
    refine .inl ⟨?_, by simp⟩
    rw [mkS_snoc, show mkS_ o = 0 from h]; rfl
theorem UnsAt.close {o : List Nat} (h : UnsAt (o, false)) : mkS_ (closeN o) = 0 := by
  unfold UnsAt at h
  simp only [Bool.false_eq_true, if_false] at h
  unfold closeN
  rcases h with ⟨h1, h2⟩ | ⟨h1, h2⟩
  · rw [if_pos (by simpa using h2)]
    obtain ⟨a, rfl⟩ := last_snoc h2
    rw [List.dropLast_concat]
    rw [mkS_snoc] at h1
    exact (mkQ_S (mkS_le a) (by omega)).1
  · rw [if_neg (by simpa using h2), mkS_snoc, h1]; rfl
theorem escN_noM (r : Nat) : isM (escN r) = false := by
  unfold escN
  cases h : isM r with
  | true => rfl
  | false => simpa using h
theorem UnsAt.step {st : List Nat × Bool} (h : UnsAt st) {r : Nat} (hr : isM r = false) : UnsAt (unsN st r) ∧ ((unsN st r).2 = false → mkS_ (unsN st r).1 = 2) := by
  obtain ⟨o, ln⟩ := st
  obtain ⟨k1, k2, k3⟩ := isM_false hr
  by_cases h10 : r = 10
  · subst h10
    cases ln with
    | false =>
      have e : unsN (o, false) 10 = (closeN o ++ [10], true) := by simp [unsN]
      rw [e]
      refine ⟨?_, by simp⟩
      unfold UnsAt
      simp only [if_true]
      rw [mkS_snoc, h.close]; rfl
    | true =>
      have e : unsN (o, true) 10 = (o ++ [10], true) := by simp [unsN]
      rw [e]
      refine ⟨?_, by simp⟩
      unfold UnsAt at h ⊢
      simp only [if_true] at h ⊢
      rw [mkS_snoc, h]; rfl
  · have hl : ∀ a : List Nat, (a ++ [r]).getLast? ≠ some 8249 := fun a => by simp [k1]
    have hb : (r == 10) = false := by simp [h10]
    cases ln with
    | false =>
      have e : unsN (o, false) r = (o ++ [r], false) := by simp [unsN, h10]
      rw [e]
      have h2 : mkS_ (o ++ [r]) = 2 := by
        unfold UnsAt at h
        simp only [Bool.false_eq_true, if_false] at h
        rw [mkS_snoc]
        rcases h with ⟨h1, _⟩ | ⟨h1, _⟩ <;> rw [h1] <;> simp [mkQ, k1, k2, k3, h10]
      refine ⟨?_, fun _ => h2⟩
      unfold UnsAt
      simp only [Bool.false_eq_true, if_false]
      exact .inr ⟨h2, hl o⟩
    | true =>
      have e : unsN (o, true) r = (o ++ [8249] ++ [r], false) := by simp [unsN, h10]
      rw [e]
      have h2 : mkS_ (o ++ [8249] ++ [r]) = 2 := by
        unfold UnsAt at h
        simp only [if_true] at h
        rw [mkS_snoc, mkS_snoc, h]
        simp [mkQ, k1, k2, k3, h10]
      refine ⟨?_, fun _ => h2⟩
      unfold UnsAt
      simp only [Bool.false_eq_true, if_false]
      exact .inr ⟨h2, hl _⟩
theorem UnsAt.fold : ∀ (s : List Nat) (st : List Nat × Bool), UnsAt st → (∀ r ∈ s, isM r = false) → s ≠ [] → UnsAt (s.foldl unsN st) ∧ ((s.foldl unsN st).2 = false → mkS_ (s.foldl unsN st).1 = 2) := by
  intro s
  induction s with
  | nil => intro st _ _ h; exact absurd rfl h
  | cons r s ih =>
    intro st h hr _
    have h1 := h.step (hr r (List.mem_cons_self ..))
    rw [List.foldl_cons]
    by_cases hs : s = []
    · subst hs; exact h1
    · exact ih _ h1.1 (fun x hx => hr x (List.mem_cons_of_mem _ hx)) hs
theorem Mk.unsafeN {o s : List Nat} (h : Mk o) : Mk (unsafeN o s) := by
  unfold Proofs.YtlmcglaajmjanaaGreatDoor.unsafeN
  split
  · exact h
  · rename_i hs
    have := UnsAt.fold (s.map escN) (openN o, false) (UnsAt.start h) (fun x hx => by obtain ⟨y, _, rfl⟩ := List.mem_map.1 hx; exact escN_noM y) (by simpa using hs)
    generalize (s.map escN).foldl unsN (openN o, false) = st at this
    obtain ⟨a, ln⟩ := st
    unfold finN
    cases ln with
    | true => have h1 := this.1; unfold UnsAt at h1; exact h1
    | false =>
      simp only [Bool.false_eq_true, if_false]
      unfold Mk
      rw [mkS_snoc, this.2 rfl]; rfl
/-! ### markers among the bytes -/
theorem cont_in {r : Nat} (h : Sc r) (rest : List UInt8) : ∀ i, 0 < i → i < (encL r).length → ((encL r ++ rest).drop i).head? ≠ some 226 := by
  intro i h0 hi hh
  have hs := h
  unfold Sc at hs
  rcases encL_shape h with ⟨h1, e⟩ | ⟨h1, h2, e⟩ | ⟨h1, h2, e⟩ | ⟨h1, h2, e⟩
  · rw [e] at hi; simp at hi; omega
  · rw [e] at hh hi
    simp at hi
    obtain rfl : i = 1 := by omega
    exact byte_some hh (by omega) (by show _ ≠ 226; omega)
  · rw [e] at hh hi
    simp at hi
    have : i = 1 ∨ i = 2 := by omega
    rcases this with rfl | rfl
    · exact byte_some hh (by omega) (by show _ ≠ 226; omega)
    · exact byte_some hh (by omega) (by show _ ≠ 226; omega)
  · rw [e] at hh hi
    simp at hi
    have : i = 1 ∨ i = 2 ∨ i = 3 := by omega
    rcases this with rfl | rfl | rfl
    · exact byte_some hh (by omega) (by show _ ≠ 226; omega)
    · exact byte_some hh (by omega) (by show _ ≠ 226; omega)
    · exact byte_some hh (by omega) (by show _ ≠ 226; omega)
theorem mk_mem {m : Nat} (hm : isM m = true) : ∀ (rs : List Nat), Scs rs → ∀ i, ((encs rs).drop i).take 3 = encL m → m ∈ rs := by
  have hmsc : Sc m := by rcases (isM_iff m).1 hm with rfl | rfl | rfl <;> unfold Sc <;> omega
  intro rs
  induction rs with
  | nil =>
    intro _ i h
    have := encL_pos hmsc
    rw [← h] at this
    simp [encs_nil] at this
  | cons r rs ih =>
    intro hs i h
    have hmk : isMk (((encs (r :: rs)).drop i).take 3) = true := by rw [h, isMk_enc hmsc, hm]
    by_cases hi : i < (encL r).length
    · rw [encs_cons] at h hmk
      by_cases h0 : i = 0
      · subst h0
        cases hr : isM r with
        | false => rw [noMk_in hs.head hr _ 0 hi] at hmk; cases hmk
        | true =>
          have h3 : 2048 ≤ r ∧ r < 65536 := by rcases (isM_iff r).1 hr with rfl | rfl | rfl <;> omega
          rw [List.drop_zero, take3_enc hs.head h3] at h
          rw [encL_inj hs.head hmsc h]; exact List.mem_cons_self ..
      · exact absurd (isMk_head hmk) (cont_in hs.head _ i (by omega) hi)
    · refine List.mem_cons_of_mem _ (ih hs.tail (i - (encL r).length) ?_)
      rw [← h, encs_cons, List.drop_append, List.drop_of_length_le (l := encL r) (by omega), List.nil_append]
theorem noHash_enc {o : List Nat} (ho : Scs o) (h : 8224 ∉ o) : NoHash (encs o) := by
  intro i _ hn
  rw [← encH] at hn
  exact h (mk_mem rfl o ho _ hn)
theorem getD_right (a b : List UInt8) (j : Nat) : (a ++ b).getD (a.length + j) 0 = b.getD j 0 := by
  simp [List.getD, List.getElem?_append_right]
theorem badEnd_enc {o : List Nat} (ho : Scs o) : badEnd (encs o) = false := by
  rcases List.eq_nil_or_concat o with rfl | ⟨a, r, rfl⟩
  · rfl
  · rw [List.concat_eq_append] at ho ⊢
    have hr : Sc r := ho.right r (by simp)
    rw [encs_append, encs_one]
    generalize encs a = pre
    have hd := decodeL_enc hr []
    rw [List.append_nil] at hd
    have hs := hr
    unfold Sc at hs
    unfold badEnd
    have hne : pre ++ encL r ≠ [] := by
      intro h0
      have h1 := congrArg List.length h0
      have h2 := encL_pos hr
      rw [List.length_append, List.length_nil] at h1
      omega
    rcases encL_shape hr with ⟨h1, e⟩ | ⟨h1, h2, e⟩ | ⟨h1, h2, e⟩ | ⟨h1, h2, e⟩
    · have hg : (pre ++ encL r).getD ((pre ++ encL r).length - 1) 0 = UInt8.ofNat r := by
        rw [e]; simp
      have : Lib.decodeLastL (pre ++ encL r) = (r, 1) := by
        unfold Lib.decodeLastL
        rw [if_neg hne, hg, byte_nat (by omega), if_pos h1]
      rw [this]
      have : (r == 65533) = false := beq_eq_false_iff_ne.2 (by omega)
      simp [this]
    · have hl : (pre ++ encL r).length = pre.length + 2 := by rw [e]; simp
      have hg1 : (pre ++ encL r).getD (pre.length + 1) 0 = UInt8.ofNat (128 + r % 64) := by rw [getD_right, e]; rfl
      have hg0 : (pre ++ encL r).getD (pre.length + 0) 0 = UInt8.ofNat (192 + r / 64) := by rw [getD_right, e]; rfl
      have hst : Lib.lastStart (pre ++ encL r) = pre.length := by
        unfold Lib.lastStart
        simp only [hl]
        rw [if_neg (by omega), show pre.length + 2 - 2 = pre.length + 0 by omega, hg0, if_pos (by unfold Lib.runeStartB; rw [byte_nat (by omega)]; simp; omega)]
        omega
      have : Lib.decodeLastL (pre ++ encL r) = (r, 2) := by
        unfold Lib.decodeLastL
        rw [if_neg hne, hl, show pre.length + 2 - 1 = pre.length + 1 by omega, hg1, byte_nat (by omega), if_neg (by omega), hst, List.drop_left' rfl, hd, e]
        simp
      rw [this]; rfl
    · have hl : (pre ++ encL r).length = pre.length + 3 := by rw [e]; simp
      have hg2 : (pre ++ encL r).getD (pre.length + 2) 0 = UInt8.ofNat (128 + r % 64) := by rw [getD_right, e]; rfl
      have hg1 : (pre ++ encL r).getD (pre.length + 1) 0 = UInt8.ofNat (128 + r / 64 % 64) := by rw [getD_right, e]; rfl
      have hg0 : (pre ++ encL r).getD (pre.length + 0) 0 = UInt8.ofNat (224 + r / 4096) := by rw [getD_right, e]; rfl
      have hst : Lib.lastStart (pre ++ encL r) = pre.length := by
        unfold Lib.lastStart
        simp only [hl]
        rw [if_neg (by omega), show pre.length + 3 - 2 = pre.length + 1 by omega, hg1, if_neg (by unfold Lib.runeStartB; rw [byte_nat (by omega)]; simp; omega), if_neg (by omega),
          show pre.length + 3 - 3 = pre.length + 0 by omega, hg0, if_pos (by unfold Lib.runeStartB; rw [byte_nat (by omega)]; simp; omega)]
        omega
      have : Lib.decodeLastL (pre ++ encL r) = (r, 3) := by
        unfold Lib.decodeLastL
        rw [if_neg hne, hl, show pre.length + 3 - 1 = pre.length + 2 by omega, hg2, byte_nat (by omega), if_neg (by omega), hst, List.drop_left' rfl, hd, e]
        simp
      rw [this]; rfl
    · have hl : (pre ++ encL r).length = pre.length + 4 := by rw [e]; simp
      have hg3 : (pre ++ encL r).getD (pre.length + 3) 0 = UInt8.ofNat (128 + r % 64) := by rw [getD_right, e]; rfl
      have hg2 : (pre ++ encL r).getD (pre.length + 2) 0 = UInt8.ofNat (128 + r / 64 % 64) := by rw [getD_right, e]; rfl
      have hg1 : (pre ++ encL r).getD (pre.length + 1) 0 = UInt8.ofNat (128 + r / 4096 % 64) := by rw [getD_right, e]; rfl
      have hg0 : (pre ++ encL r).getD (pre.length + 0) 0 = UInt8.ofNat (240 + r / 262144) := by rw [getD_right, e]; rfl
      have hst : Lib.lastStart (pre ++ encL r) = pre.length := by
        unfold Lib.lastStart
        simp only [hl]
        rw [if_neg (by omega), show pre.length + 4 - 2 = pre.length + 2 by omega, hg2, if_neg (by unfold Lib.runeStartB; rw [byte_nat (by omega)]; simp; omega), if_neg (by omega),
          show pre.length + 4 - 3 = pre.length + 1 by omega, hg1, if_neg (by unfold Lib.runeStartB; rw [byte_nat (by omega)]; simp; omega), if_neg (by omega),
          show pre.length + 4 - 4 = pre.length + 0 by omega, hg0, if_pos (by unfold Lib.runeStartB; rw [byte_nat (by omega)]; simp; omega)]
        omega
      have : Lib.decodeLastL (pre ++ encL r) = (r, 4) := by
        unfold Lib.decodeLastL
        rw [if_neg hne, hl, show pre.length + 4 - 1 = pre.length + 3 by omega, hg3, byte_nat (by omega), if_neg (by omega), hst, List.drop_left' rfl, hd, e]
        simp
      rw [this]; rfl
end Go.Proofs.YtlmcglaajmjanaaGreatDoor
