/- Plain words: what the package redacts a right text to is what the reference says. No program is in sight. -/
import Derived.Test.YtlmcglaajmjanaaGreatDoorRed
import Derived.Test.YtlmcglaajmjanaaGreatDoorAr
namespace Go.Proofs.YtlmcglaajmjanaaGreatDoor
open Go.RowKit
theorem isM_sc {m : Nat} (hm : isM m = true) : Sc m := by rcases (isM_iff m).1 hm with rfl | rfl | rfl <;> unfold Sc <;> omega
theorem encM_len {m : Nat} (hm : isM m = true) : (encL m).length = 3 := by
  rcases (isM_iff m).1 hm with rfl | rfl | rfl
  · rw [encS]; rfl
  · rw [encE]; rfl
  · rw [encH]; rfl
/-- Within another rune's bytes no marker begins. -/
theorem no_at {m r : Nat} (hm : isM m = true) (hr : Sc r) (hne : r ≠ m) (rest : List UInt8) : ∀ i, i < (encL r).length → ¬ ((encL r ++ rest).drop i).take (encL m).length = encL m := by
  intro i hi h
  rw [encM_len hm] at h
  have hmk : isMk (((encL r ++ rest).drop i).take 3) = true := by rw [h, isMk_enc (isM_sc hm), hm]
  by_cases h0 : i = 0
  · subst h0
    cases hr2 : isM r with
    | false => rw [noMk_in hr hr2 _ 0 hi] at hmk; cases hmk
    | true =>
      have h3 : 2048 ≤ r ∧ r < 65536 := by rcases (isM_iff r).1 hr2 with rfl | rfl | rfl <;> omega
      rw [List.drop_zero, take3_enc hr h3] at h
      exact hne (encL_inj hr (isM_sc hm) h)
  · exact absurd (isMk_head hmk) (cont_in hr _ i (by omega) hi)
theorem idx_skip (p : List UInt8) : ∀ (c rest : List UInt8), (∀ i, i < c.length → ¬ ((c ++ rest).drop i).take p.length = p) → idxL p (c ++ rest) = (idxL p rest).map (· + c.length) := by
  intro c
  induction c with
  | nil => intro rest _; simp
  | cons x c ih =>
    intro rest h
    have h0 := h 0 (by simp)
    rw [List.cons_append, idxL_miss p _ x (by simpa using h0), ih rest (fun i hi => by have := h (i + 1) (by simp; omega); simpa using this), Option.map_map]
    congr 1
theorem idx_enc {m : Nat} (hm : isM m = true) : ∀ (a b : List Nat), Scs a → m ∉ a → idxL (encL m) (encs a ++ encs (m :: b)) = some (encs a).length := by
  intro a
  induction a with
  | nil =>
    intro b _ _
    rw [encs_nil, List.nil_append, encs_cons]
    exact idxL_hit _ _ (by rw [List.take_left' rfl])
  | cons r a ih =>
    intro b hs hn
    have hr : r ≠ m := fun e => hn (e ▸ List.mem_cons_self ..)
    rw [encs_cons, List.append_assoc, idx_skip _ _ _ (no_at hm hs.head hr _), ih b hs.tail (fun h => hn (List.mem_cons_of_mem _ h))]
    simp; omega
theorem idx_none {m : Nat} (hm : isM m = true) : ∀ (a : List Nat), Scs a → m ∉ a → idxL (encL m) (encs a) = none := by
  intro a
  induction a with
  | nil => intro _ _; exact idxL_short _ _ (by rw [encM_len hm]; simp [encs_nil])
  | cons r a ih =>
    intro hs hn
    have hr : r ≠ m := fun e => hn (e ▸ List.mem_cons_self ..)
    rw [encs_cons, idx_skip _ _ _ (no_at hm hs.head hr _), ih hs.tail (fun h => hn (List.mem_cons_of_mem _ h))]; rfl
theorem split_at (m : Nat) : ∀ o : List Nat, m ∈ o → ∃ a b, o = a ++ m :: b ∧ m ∉ a := by
  intro o
  induction o with
  | nil => intro h; cases h
  | cons r o ih =>
    intro h
    by_cases hr : r = m
    · exact ⟨[], o, by rw [hr]; rfl, by simp⟩
    · rcases List.mem_cons.1 h with h | h
      · exact absurd h.symm hr
      · obtain ⟨a, b, rfl, hn⟩ := ih h
        exact ⟨r :: a, b, rfl, fun h => by
          rcases List.mem_cons.1 h with h | h
          · exact hr h.symm
          · exact hn h⟩
/-- Outside, without a marker that begins: no marker at all. -/
theorem out_noM : ∀ (a : List Nat), 8249 ∉ a → a.foldl mkQ 0 ≠ 3 → NoM a ∧ a.foldl mkQ 0 = 0 := by
  intro a
  induction a with
  | nil => intro _ _; exact ⟨NoM.nil, rfl⟩
  | cons r a ih =>
    intro hn h
    have hr : r ≠ 8249 := fun e => hn (e ▸ List.mem_cons_self ..)
    rw [List.foldl_cons] at h ⊢
    by_cases hb : r = 8250 ∨ r = 8224
    · have : mkQ 0 r = 3 := by unfold mkQ; rw [if_pos rfl, if_neg hr, if_pos hb]
      rw [this, mkQ_bad] at h; exact absurd rfl h
    · have h0 : mkQ 0 r = 0 := by unfold mkQ; rw [if_pos rfl, if_neg hr, if_neg hb]
      rw [h0] at h ⊢
      have := ih (fun h => hn (List.mem_cons_of_mem _ h)) h
      refine ⟨fun x hx => ?_, this.2⟩
      rcases List.mem_cons.1 hx with rfl | hx
      · unfold isM; simp; omega
      · exact this.1 x hx
/-- Inside, up to the marker that ends: no marker, no new line; and it is reached. -/
theorem in_noM : ∀ (b : List Nat) (q : Nat), q = 1 ∨ q = 2 → b.foldl mkQ q = 0 → ∃ c d, b = c ++ 8250 :: d ∧ NoM c ∧ 8250 ∉ c ∧ d.foldl mkQ 0 = 0 := by
  intro b
  induction b with
  | nil => intro q hq h; rcases hq with rfl | rfl <;> cases h
  | cons r b ih =>
    intro q hq h
    rw [List.foldl_cons] at h
    by_cases hE : r = 8250
    · subst hE
      have : mkQ q 8250 = if q = 2 then 0 else 3 := by rcases hq with rfl | rfl <;> rfl
      rw [this] at h
      split at h
      · exact ⟨[], b, rfl, NoM.nil, by simp, h⟩
      · rw [mkQ_bad] at h; cases h
    · by_cases hb : r = 8249 ∨ r = 8224 ∨ r = 10
      · have : mkQ q r = 3 := by unfold mkQ; rw [if_neg (by omega), if_neg (by omega), if_neg hE, if_pos hb]
        rw [this, mkQ_bad] at h; cases h
      · have : mkQ q r = 2 := by unfold mkQ; rw [if_neg (by omega), if_neg (by omega), if_neg hE, if_neg hb]
        rw [this] at h
        obtain ⟨c, d, rfl, h1, h2, h3⟩ := ih 2 (.inr rfl) h
        refine ⟨r :: c, d, rfl, fun x hx => ?_, fun hx => ?_, h3⟩
        · rcases List.mem_cons.1 hx with rfl | hx
          · unfold isM; simp; omega
          · exact h1 x hx
        · rcases List.mem_cons.1 hx with hx | hx
          · exact hE hx.symm
          · exact h2 hx
theorem redN_out : ∀ (a b : List Nat), NoM a → redN false (a ++ b) = a ++ redN false b := by
  intro a
  induction a with
  | nil => intro b _; rfl
  | cons r a ih =>
    intro b h
    obtain ⟨h1, h2, _⟩ := isM_false (h r (List.mem_cons_self ..))
    rw [List.cons_append]
    simp only [redN, if_neg h1, if_neg h2, Bool.false_eq_true, if_false]
    rw [ih b (fun x hx => h x (List.mem_cons_of_mem _ hx))]; rfl
theorem redN_in : ∀ (c d : List Nat), NoM c → redN true (c ++ 8250 :: d) = redN false d := by
  intro c
  induction c with
  | nil => intro d _; simp [redN]
  | cons r c ih =>
    intro d h
    obtain ⟨h1, h2, _⟩ := isM_false (h r (List.mem_cons_self ..))
    rw [List.cons_append]
    simp only [redN, if_neg h1, if_neg h2, if_true]
    exact ih d (fun x hx => h x (List.mem_cons_of_mem _ hx))
/-- The package's redaction of a right text is the reference's. -/
theorem redL_enc : ∀ (n : Nat) (o : List Nat), o.length ≤ n → Scs o → Mk o → redL (encs o) = encs (redN false o) := by
  intro n
  induction n with
  | zero =>
    intro o hn _ _
    have : o = [] := List.eq_nil_of_length_eq_zero (by omega)
    subst this; rfl
  | succ n ih =>
    intro o hn hs hm
    by_cases h : 8249 ∈ o
    · obtain ⟨a, b, rfl, ha⟩ := split_at 8249 o h
      have hm0 : (8249 :: b).foldl mkQ (a.foldl mkQ 0) = 0 := by
        have h1 := hm
        unfold Mk mkS_ at h1
        rw [List.foldl_append] at h1
        exact h1
      have ha3 : a.foldl mkQ 0 ≠ 3 := by intro h3; rw [h3, mkQ_bad] at hm0; cases hm0
      obtain ⟨hna, ha0⟩ := out_noM a ha ha3
      rw [ha0, List.foldl_cons] at hm0
      obtain ⟨c, d, rfl, hc, hcE, hd⟩ := in_noM b 1 (.inl rfl) hm0
      have hsd : Scs d := hs.right.tail.right.tail
      have hsc : Scs c := hs.right.tail.left
      have h1 : idxL mkS (encs (a ++ 8249 :: (c ++ 8250 :: d))) = some (encs a).length := by rw [← encS, encs_append]; exact idx_enc rfl a _ hs.left ha
      have hdr : (encs (a ++ 8249 :: (c ++ 8250 :: d))).drop ((encs a).length + 3) = encs c ++ encs (8250 :: d) := by
        rw [encs_append, encs_cons, ← List.append_assoc, encs_append]
        exact List.drop_left' (by rw [List.length_append, encM_len rfl])
      have h2 : idxL mkE ((encs (a ++ 8249 :: (c ++ 8250 :: d))).drop ((encs a).length + 3)) = some (encs c).length := by rw [hdr, ← encE]; exact idx_enc rfl c d hsc hcE
      rw [redL_shut h1 h2]
      have e1 : (encs (a ++ 8249 :: (c ++ 8250 :: d))).take (encs a).length = encs a := by rw [encs_append]; exact List.take_left' rfl
      have e2 : (encs (a ++ 8249 :: (c ++ 8250 :: d))).drop ((encs a).length + 3 + (encs c).length + 3) = encs d := by
        rw [show (encs a).length + 3 + (encs c).length + 3 = (encs a).length + 3 + ((encs c).length + 3) by omega, ← List.drop_drop, hdr, encs_cons, ← List.append_assoc]
        exact List.drop_left' (by rw [List.length_append, encM_len rfl])
      rw [e1, e2, ih d (by simp at hn; omega) hsd hd, redN_out _ _ hna]
      have e3 : redN false (8249 :: (c ++ 8250 :: d)) = [8249, 215, 8250] ++ redN true (c ++ 8250 :: d) := by simp [redN]
      rw [e3, redN_in c d hc, encs_append, encs_append, encX, List.append_assoc]
    · have hnm := (out_noM o h (by have h1 := hm; unfold Mk mkS_ at h1; rw [h1]; omega)).1
      have h1 : idxL mkS (encs o) = none := by rw [← encS]; exact idx_none rfl o hs h
      rw [redL_none h1]
      have := redN_out o [] hnm
      rw [List.append_nil] at this
      rw [this]; simp [redN]
end Go.Proofs.YtlmcglaajmjanaaGreatDoor
