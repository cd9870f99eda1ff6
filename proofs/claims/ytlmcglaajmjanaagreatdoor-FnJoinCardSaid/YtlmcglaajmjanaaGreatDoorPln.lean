/- Plain words: what escaping a text behind another one makes, what opening and closing a marked part makes; and that both are what the reference says. No program is in sight. -/
import Derived.Test.YtlmcglaajmjanaaGreatDoorUtf
namespace Go.Proofs.YtlmcglaajmjanaaGreatDoor
open Go.RowKit
/-- A text ends in a byte that is no rune's end. -/
def badEnd (l : List UInt8) : Bool := (Lib.decodeLastL l).2 == 1 && (Lib.decodeLastL l).1 == 65533
def escF : Nat → Bool → List UInt8 → List UInt8 → List UInt8
  | 0, _, out, _ => out
  | _ + 1, _, out, [] => out
  | f + 1, brk, out, x :: xs =>
    if brk && x == 10 then escF f brk ((if Lib.hasSuffix out mkS then out.take (out.length - 3) else out ++ mkE) ++ (x :: xs).takeWhile (· == 10) ++ mkS) ((x :: xs).dropWhile (· == 10))
    else if isMk ((x :: xs).take 3) then escF f brk (out ++ [63]) ((x :: xs).drop 3)
    else escF f brk (out ++ [x]) xs
/-- out, and behind it what rest is escaped to. -/
def escGo (brk : Bool) (out rest : List UInt8) : List UInt8 := escF rest.length brk out rest
theorem dropWhile_le (p : UInt8 → Bool) : ∀ l : List UInt8, (l.dropWhile p).length ≤ l.length := by
  intro l
  induction l with
  | nil => simp
  | cons x l ih =>
    simp only [List.dropWhile]
    split
    · simp; omega
    · simp
theorem escF_more : ∀ (f g : Nat) (brk : Bool) (out rest : List UInt8), rest.length ≤ f → rest.length ≤ g → escF f brk out rest = escF g brk out rest := by
  intro f
  induction f with
  | zero =>
    intro g brk out rest h _
    have : rest = [] := List.eq_nil_of_length_eq_zero (by omega)
    subst this
    cases g <;> rfl
  | succ f ih =>
    intro g brk out rest h h'
    cases g with
    | zero =>
      have : rest = [] := List.eq_nil_of_length_eq_zero (by omega)
      subst this; rfl
    | succ g =>
      cases rest with
      | nil => rfl
      | cons x xs =>
        simp only [escF]
        simp at h h'
        split
        · rename_i hx
          have hx10 : (x == 10) = true := by simp at hx; simp [hx.2]
          have : ((x :: xs).dropWhile (· == 10)).length ≤ xs.length := by simp only [List.dropWhile, hx10]; exact dropWhile_le _ _
          exact ih g _ _ _ (by omega) (by omega)
        · split
          · exact ih g _ _ _ (by simp; omega) (by simp; omega)
          · exact ih g _ _ _ h h'
theorem escGo_nil (brk : Bool) (out : List UInt8) : escGo brk out [] = out := rfl
theorem escGo_nl {rest : List UInt8} (out : List UInt8) (h : rest.head? = some 10) :
    escGo true out rest = escGo true ((if Lib.hasSuffix out mkS then out.take (out.length - 3) else out ++ mkE) ++ rest.takeWhile (· == 10) ++ mkS) (rest.dropWhile (· == 10)) := by
  cases rest with
  | nil => simp at h
  | cons x xs =>
    simp at h; subst h
    unfold escGo
    have : ((10 :: xs).dropWhile (· == 10)).length ≤ xs.length := by simp only [List.dropWhile]; exact dropWhile_le _ _
    show (if _ then _ else _) = _
    rw [if_pos (by rfl)]
    exact escF_more _ _ _ _ _ this (Nat.le_refl _)
theorem escGo_mk {brk : Bool} {rest : List UInt8} (out : List UInt8) (h : (brk && rest.head? == some 10) = false) (hm : isMk (rest.take 3) = true) : escGo brk out rest = escGo brk (out ++ [63]) (rest.drop 3) := by
  cases rest with
  | nil => simp [isMk, mkS, mkE, mkH] at hm
  | cons x xs =>
    unfold escGo
    show (if _ then _ else _) = _
    rw [if_neg (by simpa using h), if_pos hm]
    exact escF_more _ _ _ _ _ (by simp) (Nat.le_refl _)
theorem escGo_plain {brk : Bool} {x : UInt8} {xs : List UInt8} (out : List UInt8) (h : (brk && x == 10) = false) (hm : isMk ((x :: xs).take 3) = false) : escGo brk out (x :: xs) = escGo brk (out ++ [x]) xs := by
  unfold escGo
  show (if _ then _ else _) = _
  rw [if_neg (by simpa using h), if_neg (by simpa using hm)]
/-- The text of a buffer behind escapeToEnd. -/
def escT (l : List UInt8) (vu : Nat) (brk : Bool) : List UInt8 := escGo brk (l.take vu) (l.drop vu)
def openL (l : List UInt8) : List UInt8 := if Lib.hasSuffix l mkE then l.take (l.length - 3) else l ++ mkS
def closeL (l : List UInt8) : List UInt8 := if Lib.hasSuffix l mkS then l.take (l.length - 3) else l ++ mkE
/-- No start marker with a hash's mark behind it. -/
def NoHash (l : List UInt8) : Prop := ∀ i, (l.drop i).take 3 = mkS → (l.drop (i + 3)).take 3 ≠ mkH

/-! ### on runes -/
def openN (o : List Nat) : List Nat := if o.getLast? == some 8250 then o.dropLast else o ++ [8249]
def closeN (o : List Nat) : List Nat := if o.getLast? == some 8249 then o.dropLast else o ++ [8250]
def escN (r : Nat) : Nat := if isM r then 63 else r
def unsN (st : List Nat × Bool) (r : Nat) : List Nat × Bool :=
  ((if r == 10 && !st.2 then closeN st.1 else if r != 10 && st.2 then st.1 ++ [8249] else st.1) ++ [r], r == 10)
def finN (st : List Nat × Bool) : List Nat := if st.2 then st.1 else st.1 ++ [8250]
def unsafeN (o s : List Nat) : List Nat := if s = [] then o else finN ((s.map escN).foldl unsN (openN o, false))
theorem sc_lt {r : Nat} (h : r < 128) : Sc r := by unfold Sc; omega
theorem Scs.dropLast {o : List Nat} (h : Scs o) : Scs o.dropLast := fun x hx => h x ((List.dropLast_sublist _).subset hx)
theorem Scs.one {r : Nat} (h : Sc r) : Scs [r] := Scs.nil.cons h
theorem Scs.openN {o : List Nat} (h : Scs o) : Scs (openN o) := by
  unfold Proofs.YtlmcglaajmjanaaGreatDoor.openN; split
  · exact h.dropLast
  · exact h.append (Scs.one scS)
theorem Scs.closeN {o : List Nat} (h : Scs o) : Scs (closeN o) := by
  unfold Proofs.YtlmcglaajmjanaaGreatDoor.closeN; split
  · exact h.dropLast
  · exact h.append (Scs.one scE)
theorem sc_esc {r : Nat} (h : Sc r) : Sc (escN r) := by unfold escN; split; exact sc_lt (by omega); exact h
theorem Scs.esc {s : List Nat} (h : Scs s) : Scs (s.map escN) := fun x hx => by
  obtain ⟨y, hy, rfl⟩ := List.mem_map.1 hx
  exact sc_esc (h y hy)
theorem Scs.unsN {st : List Nat × Bool} {r : Nat} (h : Scs st.1) (hr : Sc r) : Scs (unsN st r).1 := by
  unfold Proofs.YtlmcglaajmjanaaGreatDoor.unsN
  refine Scs.append ?_ (Scs.one hr)
  split
  · exact h.closeN
  · split
    · exact h.append (Scs.one scS)
    · exact h
theorem Scs.fold {s : List Nat} (h : Scs s) : ∀ st : List Nat × Bool, Scs st.1 → Scs (s.foldl Proofs.YtlmcglaajmjanaaGreatDoor.unsN st).1 := by
  induction s with
  | nil => intro st hs; exact hs
  | cons r s ih => intro st hs; exact ih h.tail _ (hs.unsN h.head)
theorem Scs.unsafeN {o s : List Nat} (h : Scs o) (k : Scs s) : Scs (unsafeN o s) := by
  unfold Proofs.YtlmcglaajmjanaaGreatDoor.unsafeN
  split
  · exact h
  · have := Scs.fold k.esc (Proofs.YtlmcglaajmjanaaGreatDoor.openN o, false) h.openN
    unfold finN
    split
    · exact this
    · exact this.append (Scs.one scE)
theorem openL_enc {o : List Nat} (h : Scs o) : openL (encs o) = encs (openN o) := by
  have := suffix_enc (m := 8250) (.inr rfl) h
  rw [encE] at this
  unfold openL openN
  rw [this]
  by_cases hl : o.getLast? = some 8250
  · rw [if_pos (by simp [hl]), if_pos (by simp [hl]), take_enc3 (.inr rfl) hl]
  · rw [if_neg (by simp [hl]), if_neg (by simp [hl]), encs_append, encs_one, encS]
theorem closeL_enc {o : List Nat} (h : Scs o) : closeL (encs o) = encs (closeN o) := by
  have := suffix_enc (m := 8249) (.inl rfl) h
  rw [encS] at this
  unfold closeL closeN
  rw [this]
  by_cases hl : o.getLast? = some 8249
  · rw [if_pos (by simp [hl]), if_pos (by simp [hl]), take_enc3 (.inl rfl) hl]
  · rw [if_neg (by simp [hl]), if_neg (by simp [hl]), encs_append, encs_one, encE]
theorem encL63 : encL 63 = [63] := encL_ascii 63 (by omega)
theorem escR_enc {r : Nat} (h : Sc r) : escR r = encL (escN r) := by
  unfold escR escN
  rw [isMk_enc h]
  split
  · exact encL63.symm
  · rfl
theorem escL_enc {s : List Nat} (h : Scs s) : escL s = encs (s.map escN) := by
  induction s with
  | nil => rfl
  | cons r s ih => simp only [escL, List.map_cons, encs_cons]; rw [escR_enc h.head, ih h.tail]
theorem escB_enc {s : List Nat} (h : Scs s) : escB (encs s) = encs (s.map escN) := by unfold escB; rw [runesL_encs h, escL_enc h]
theorem unsStep_enc {o : List Nat} (h : Scs o) (ln : Bool) (r : Nat) : unsStep (encs o, ln) r = (encs (unsN (o, ln) r).1, (unsN (o, ln) r).2) := by
  unfold unsStep unsN
  have hc := closeL_enc h
  unfold closeL at hc
  simp only [hc, encs_append, encs_one]
  congr 2
  split
  · rfl
  · split
    · rw [encs_append, encs_one, encS]
    · rfl
theorem unsFold_enc : ∀ (s o : List Nat) (ln : Bool), Scs s → Scs o → s.foldl unsStep (encs o, ln) = (encs (s.foldl unsN (o, ln)).1, (s.foldl unsN (o, ln)).2) := by
  intro s
  induction s with
  | nil => intro o ln _ _; rfl
  | cons r s ih =>
    intro o ln hs ho
    simp only [List.foldl_cons]
    rw [unsStep_enc ho]
    exact ih _ _ hs.tail (Scs.unsN (st := (o, ln)) ho hs.head)
theorem unsFin_enc (o : List Nat) (ln : Bool) : unsFin (encs o, ln) = encs (finN (o, ln)) := by
  unfold unsFin finN
  cases ln
  · simp only [Bool.false_eq_true, if_false]; rw [encs_append, encs_one, encE]
  · rfl
theorem encs_ne {s : List Nat} (h : Scs s) (hs : s ≠ []) : encs s ≠ [] := by
  cases s with
  | nil => exact absurd rfl hs
  | cons r s =>
    intro h0
    have h1 := congrArg List.length h0
    have h2 := encL_pos h.head
    rw [encs_cons, List.length_append, List.length_nil] at h1
    omega
/-- The reference's Unsafe, on runes. -/
theorem unsafeL_enc {o s : List Nat} (ho : Scs o) (hs : Scs s) : unsafeL (encs o) (encs s) = encs (unsafeN o s) := by
  unfold unsafeL unsafeN
  by_cases h : s = []
  · subst h; rfl
  · rw [if_neg (encs_ne hs h), if_neg h, escB_enc hs, runesL_encs hs.esc]
    have : unsOpen (encs o) = encs (openN o) := openL_enc ho
    rw [this, unsFold_enc _ _ _ hs.esc ho.openN, unsFin_enc]
theorem escGo_bytes {brk : Bool} : ∀ (c out rest : List UInt8), (∀ i, i < c.length → isMk (((c ++ rest).drop i).take 3) = false) → (∀ x ∈ c, (brk && x == 10) = false) → escGo brk out (c ++ rest) = escGo brk (out ++ c) rest := by
  intro c
  induction c with
  | nil => intro out rest _ _; simp
  | cons x c ih =>
    intro out rest h hx
    have h0 := h 0 (by simp)
    rw [List.cons_append, escGo_plain out (hx x (List.mem_cons_self ..)) (by simpa using h0), ih (out ++ [x]) rest (fun i hi => by have := h (i + 1) (by simp; omega); simpa using this) (fun y hy => hx y (List.mem_cons_of_mem _ hy))]
    simp
theorem escGo_rune {brk : Bool} {r : Nat} (h : Sc r) (hb : (brk && r == 10) = false) (out rest : List UInt8) : escGo brk out (encL r ++ rest) = escGo brk (out ++ encL (escN r)) rest := by
  unfold escN
  cases hm : isM r with
  | true =>
    have h3 : 2048 ≤ r ∧ r < 65536 := by rcases (isM_iff r).1 hm with rfl | rfl | rfl <;> omega
    have ht := take3_enc h h3 rest
    have hlen : (encL r).length = 3 := by
      rcases encL_shape h with ⟨_, _⟩ | ⟨_, _, _⟩ | ⟨_, _, e⟩ | ⟨_, _, _⟩
      · omega
      · omega
      · rw [e]; rfl
      · omega
    have hmk : isMk ((encL r ++ rest).take 3) = true := by rw [ht, isMk_enc h, hm]
    have hd : (encL r ++ rest).drop 3 = rest := List.drop_left' hlen
    rw [escGo_mk out (by rw [isMk_head hmk]; simp) hmk, hd, if_pos rfl, encL63]
  | false =>
    rw [if_neg (by simp)]
    refine escGo_bytes _ _ _ (noMk_in h hm rest) (fun x hx => ?_)
    cases brk with
    | false => rfl
    | true => have := noNl_in h (by simpa using hb) x hx; simpa using this
theorem escGo_false : ∀ (s o : List Nat), Scs s → escGo false (encs o) (encs s) = encs (o ++ s.map escN) := by
  intro s
  induction s with
  | nil => intro o _; rw [encs_nil, escGo_nil]; simp
  | cons r s ih =>
    intro o h
    rw [encs_cons, escGo_rune h.head (by rfl), ← encs_one, ← encs_append, ih _ h.tail]
    simp
theorem nl_split : ∀ s : List Nat, ∃ k b, s = List.replicate k 10 ++ b ∧ b.head? ≠ some 10 := by
  intro s
  induction s with
  | nil => exact ⟨0, [], rfl, by simp⟩
  | cons r s ih =>
    by_cases hr : r = 10
    · obtain ⟨k, b, rfl, hb⟩ := ih
      exact ⟨k + 1, b, by rw [hr]; simp [List.replicate_succ], hb⟩
    · exact ⟨0, r :: s, rfl, by simpa using hr⟩
theorem nl_while (e : List UInt8) (he : e.head? ≠ some 10) : ∀ k, (List.replicate k (10 : UInt8) ++ e).takeWhile (· == 10) = List.replicate k 10 ∧ (List.replicate k (10 : UInt8) ++ e).dropWhile (· == 10) = e := by
  intro k
  induction k with
  | zero =>
    cases e with
    | nil => simp
    | cons x e =>
      have : (x == 10) = false := by simpa using he
      exact ⟨by simp [this], by simp [this]⟩
  | succ k ih => simp only [List.replicate_succ, List.cons_append, List.takeWhile, List.dropWhile]; simpa using ih
theorem encs_nl (k : Nat) : encs (List.replicate k 10) = List.replicate k 10 := by
  induction k with
  | zero => rfl
  | succ k ih => rw [List.replicate_succ, encs_cons, enc10, ih]; rfl
theorem encs_head {b : List Nat} (h : Scs b) (hb : b.head? ≠ some 10) : (encs b).head? ≠ some 10 := by
  cases b with
  | nil => simp [encs_nil]
  | cons r b =>
    have hr : r ≠ 10 := by simpa using hb
    have hp := encL_pos h.head
    cases he : encL r with
    | nil => rw [he] at hp; simp at hp
    | cons x t =>
      rw [encs_cons, he]
      have := noNl_in h.head hr x (by rw [he]; exact List.mem_cons_self ..)
      simpa using this
theorem fold_nl : ∀ (k : Nat) (o : List Nat), (List.replicate k 10).foldl unsN (o, true) = (o ++ List.replicate k 10, true) := by
  intro k
  induction k with
  | zero => intro o; simp
  | succ k ih =>
    intro o
    rw [List.replicate_succ, List.foldl_cons]
    have : unsN (o, true) 10 = (o ++ [10], true) := by simp [unsN]
    rw [this, ih]; simp
theorem escN_nl (r : Nat) : (escN r == 10) = (r == 10) := by
  unfold escN
  cases hm : isM r with
  | true => rcases (isM_iff r).1 hm with rfl | rfl | rfl <;> rfl
  | false => simp
theorem escN_S (r : Nat) : escN r ≠ 8249 := by
  unfold escN
  cases hm : isM r with
  | true => simp
  | false => rw [if_neg (by simp)]; rintro rfl; simp [isM] at hm
/-- What is written as unsafe, escaped and closed, is what the reference says. -/
theorem imp_true : ∀ (n : Nat) (s o : List Nat), s.length ≤ n → Scs o → Scs s → (s ≠ [] ∨ o.getLast? ≠ some 8249) → closeL (escGo true (encs o) (encs s)) = encs (finN ((s.map escN).foldl unsN (o, false))) := by
  intro n
  induction n with
  | zero =>
    intro s o hn ho hs hc
    have : s = [] := List.eq_nil_of_length_eq_zero (by omega)
    subst this
    have hl : o.getLast? ≠ some 8249 := by simpa using hc
    rw [encs_nil, escGo_nil, closeL_enc ho]
    unfold closeN
    rw [if_neg (by simpa using hl)]; rfl
  | succ n ih =>
    intro s o hn ho hs hc
    cases s with
    | nil => exact ih [] o (by simp) ho hs hc
    | cons r t =>
      by_cases hr : r = 10
      · obtain ⟨k, b, hkb, hb⟩ := nl_split (r :: t)
        have hk : 0 < k := by
          rcases Nat.eq_zero_or_pos k with rfl | hk
          · simp at hkb; rw [← hkb] at hb; simp [hr] at hb
          · exact hk
        obtain ⟨k, rfl⟩ : ∃ j, k = j + 1 := ⟨k - 1, by omega⟩
        rw [hkb] at hs hn ⊢
        have hbs : Scs b := hs.right
        have hw := nl_while (encs b) (encs_head hbs hb) (k + 1)
        have hhd : (encs (List.replicate (k + 1) 10 ++ b)).head? = some 10 := by rw [encs_append, encs_nl]; rfl
        rw [escGo_nl _ hhd]
        rw [encs_append, encs_nl, hw.1, hw.2]
        have hX : (if Lib.hasSuffix (encs o) mkS then (encs o).take ((encs o).length - 3) else encs o ++ mkE) = encs (closeN o) := closeL_enc ho
        have hF : ((List.replicate (k + 1) 10 ++ b).map escN).foldl unsN (o, false) = (b.map escN).foldl unsN (closeN o ++ List.replicate (k + 1) 10, true) := by
          rw [List.map_append, List.foldl_append, List.map_replicate]
          have : escN 10 = 10 := by simp [escN, isM]
          rw [this, List.replicate_succ, List.foldl_cons]
          have : unsN (o, false) 10 = (closeN o ++ [10], true) := by simp [unsN]
          rw [this, fold_nl]; simp
        rw [hX, hF]
        have hen : encs (closeN o) ++ List.replicate (k + 1) 10 ++ mkS = encs (closeN o ++ List.replicate (k + 1) 10 ++ [8249]) := by rw [encs_append, encs_append, encs_nl, encs_one, encS]
        rw [hen]
        have hnl : Scs (List.replicate (k + 1) 10) := fun x hx => by rw [(List.mem_replicate.1 hx).2]; exact sc_lt (by omega)
        have hsc : Scs (closeN o ++ List.replicate (k + 1) 10) := ho.closeN.append hnl
        cases b with
        | nil =>
          rw [encs_nil, escGo_nil, closeL_enc (hsc.append (Scs.one scS))]
          unfold closeN
          rw [if_pos (by simp)]
          simp [finN]
        | cons q b =>
          have hq : q ≠ 10 := by simpa using hb
          have hq2 : (escN q == 10) = false := by rw [escN_nl]; simpa using hq
          rw [encs_cons, escGo_rune hbs.head (by simpa using hq), ← encs_one, ← encs_append, List.map_cons, List.foldl_cons]
          have : unsN (closeN o ++ List.replicate (k + 1) 10, true) (escN q) = (closeN o ++ List.replicate (k + 1) 10 ++ [8249] ++ [escN q], false) := by
            unfold unsN
            have hq3 : escN q ≠ 10 := by simpa using hq2
            simp [hq3]
          rw [this]
          refine ih b _ ?_ ((hsc.append (Scs.one scS)).append (Scs.one (sc_esc hbs.head))) hbs.tail (.inr ?_)
          · simp at hn; omega
          · simp; exact escN_S q
      · have hr2 : (escN r == 10) = false := by rw [escN_nl]; simpa using hr
        rw [encs_cons, escGo_rune hs.head (by simpa using hr), ← encs_one, ← encs_append, List.map_cons, List.foldl_cons]
        have : unsN (o, false) (escN r) = (o ++ [escN r], false) := by
          unfold unsN
          have hr3 : escN r ≠ 10 := by simpa using hr2
          simp [hr3]
        rw [this]
        refine ih t _ (by simp at hn; omega) (ho.append (Scs.one (sc_esc hs.head))) hs.tail (.inr ?_)
        simp; exact escN_S r
theorem unsafe_impl {o s : List Nat} (ho : Scs o) (hs : Scs s) (hne : s ≠ []) : closeL (escGo true (openL (encs o)) (encs s)) = encs (unsafeN o s) := by
  rw [openL_enc ho, imp_true _ s _ (Nat.le_refl _) ho.openN hs (.inl hne)]
  unfold unsafeN
  rw [if_neg hne]
end Go.Proofs.YtlmcglaajmjanaaGreatDoor
