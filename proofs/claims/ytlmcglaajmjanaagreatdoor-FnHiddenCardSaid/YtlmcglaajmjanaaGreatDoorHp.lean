/- Plain words: of arguments that differ in what is unsafe alone the texts, redacted, are the same. No program is in sight. -/
import Derived.Test.YtlmcglaajmjanaaGreatDoorBp
import Derived.Test.YtlmcglaajmjanaaGreatDoorZm
import Derived.Test.YtlmcglaajmjanaaGreatDoorZn
namespace Go.Proofs.YtlmcglaajmjanaaGreatDoor
open Go.RowKit
/-- Where the redaction stands behind a text. -/
def redE : Bool → List Nat → Bool
  | q, [] => q
  | q, r :: rs => redE (if r = 8249 then true else if r = 8250 then false else q) rs
theorem redN_append : ∀ (a b : List Nat) (q : Bool), redN q (a ++ b) = redN q a ++ redN (redE q a) b := by
  intro a
  induction a with
  | nil => intro b q; simp [redN, redE]
  | cons r a ih =>
    intro b q
    rw [List.cons_append]
    by_cases h1 : r = 8249
    · simp only [redN, redE, if_pos h1]; rw [ih]; simp
    · by_cases h2 : r = 8250
      · simp only [redN, redE, if_neg h1, if_pos h2]; rw [ih]
      · cases q with
        | true => simp only [redN, redE, if_neg h1, if_neg h2, if_true]; rw [ih]
        | false => simp only [redN, redE, if_neg h1, if_neg h2, Bool.false_eq_true, if_false]; rw [ih]; rfl
theorem redE_mk : ∀ (a : List Nat) (q : Nat), a.foldl mkQ q ≠ 3 → q ≤ 3 → redE (decide (q ≠ 0)) a = decide (a.foldl mkQ q ≠ 0) := by
  intro a
  induction a with
  | nil => intro q _ _; rfl
  | cons r a ih =>
    intro q h hq
    rw [List.foldl_cons] at h ⊢
    have h3 : mkQ q r ≠ 3 := fun e => by rw [e, mkQ_bad] at h; exact h rfl
    rw [← ih _ h (mkQ_lt hq)]
    show redE _ a = _
    congr 1
    have : q = 0 ∨ q = 1 ∨ q = 2 ∨ q = 3 := by omega
    by_cases h1 : r = 8249
    · subst h1
      rcases this with rfl | rfl | rfl | rfl <;> simp [mkQ] at h3 ⊢
    · by_cases h2 : r = 8250
      · subst h2
        rcases this with rfl | rfl | rfl | rfl <;> simp [mkQ] at h3 ⊢
      · rw [if_neg h1, if_neg h2]
        rcases this with rfl | rfl | rfl | rfl
        · have : mkQ 0 r = 0 := by unfold mkQ at h3 ⊢; rw [if_pos rfl, if_neg h1] at h3 ⊢; split at h3 <;> simp_all
          rw [this]
        · have : mkQ 1 r = 2 := by unfold mkQ at h3 ⊢; simp [h1, h2] at h3 ⊢; exact h3
          rw [this]; rfl
        · have : mkQ 2 r = 2 := by unfold mkQ at h3 ⊢; simp [h1, h2] at h3 ⊢; exact h3
          rw [this]
        · have : mkQ 3 r = 3 := by unfold mkQ; simp
          exact absurd this h3
theorem redE_zero {a : List Nat} (h : Mk a) : redE false a = false := by
  have := redE_mk a 0 (by unfold Mk mkS_ at h; omega) (by omega)
  unfold Mk mkS_ at h
  rw [h] at this
  exact this
theorem redE_two {a : List Nat} (h : mkS_ a = 2) : redE false a = true := by
  have := redE_mk a 0 (by unfold mkS_ at h; omega) (by omega)
  unfold mkS_ at h
  rw [h] at this
  exact this
theorem redN_mk {a : List Nat} (h : Mk a) (b : List Nat) : redN false (a ++ b) = redN false a ++ redN false b := by rw [redN_append, redE_zero h]
/-- An unsafe text of something, without new lines. -/
theorem unsN_line : ∀ (s x : List Nat), (∀ r ∈ s, r ≠ 10) → s.foldl unsN (x, false) = (x ++ s, false) := by
  intro s
  induction s with
  | nil => intro x _; simp
  | cons r s ih =>
    intro x h
    have hr := h r (List.mem_cons_self ..)
    have : unsN (x, false) r = (x ++ [r], false) := by simp [unsN, hr]
    rw [List.foldl_cons, this, ih _ (fun y hy => h y (List.mem_cons_of_mem _ hy))]
    simp
theorem unsafeN_line {o s : List Nat} (hs : s ≠ []) (h : 10 ∉ s) : unsafeN o s = openN o ++ s.map escN ++ [8250] := by
  have h10 : ∀ r ∈ s.map escN, r ≠ 10 := fun x hx => by
    obtain ⟨y, hy, rfl⟩ := List.mem_map.1 hx
    have h2 : (escN y == 10) = (y == 10) := escN_nl y
    intro e
    rw [e] at h2
    have : y = 10 := by simpa using h2.symm
    exact h (this ▸ hy)
  unfold unsafeN
  rw [if_neg hs, unsN_line _ _ h10]; rfl
theorem redN_line {o s : List Nat} (ho : Mk o) (hs : s ≠ []) (h : 10 ∉ s) :
    redN false (unsafeN o s) = if o.getLast? = some 8250 then redN false o else redN false o ++ [8249, 215, 8250] := by
  have hn : NoM (s.map escN) := fun x hx => by
    obtain ⟨y, _, rfl⟩ := List.mem_map.1 hx
    exact escN_noM y
  have hin : redN true (s.map escN ++ [8250]) = [] := by
    have := redN_in (s.map escN) [] hn
    rw [this]; rfl
  rw [unsafeN_line hs h, List.append_assoc]
  by_cases hl : o.getLast? = some 8250
  · rw [if_pos hl]
    obtain ⟨a, rfl⟩ := last_snoc hl
    have e1 : openN (a ++ [8250]) = a := by simp [openN]
    rw [e1, redN_append, redE_two ho.inside, hin, redN_append, redE_two ho.inside]
    simp [redN]
  · rw [if_neg hl]
    have e1 : openN o = o ++ [8249] := by unfold openN; rw [if_neg (by simpa using hl)]
    rw [e1, List.append_assoc, redN_mk ho]
    congr 1
    show redN false (8249 :: (s.map escN ++ [8250])) = _
    simp only [redN, if_true]
    rw [hin]; rfl
/-- Two right texts that are redacted to the same. -/
structure Rl (o p : List Nat) : Prop where
  mo : Mk o
  mp : Mk p
  eq : redN false o = redN false p
  lst : o.getLast? = some 8250 ↔ p.getLast? = some 8250
theorem Rl.nil : Rl [] [] := ⟨Mk.nil, Mk.nil, rfl, Iff.rfl⟩
theorem Rl.app {o p : List Nat} (h : Rl o p) {x : List Nat} (hx : Mk x) : Rl (o ++ x) (p ++ x) := by
  refine ⟨h.mo.append hx, h.mp.append hx, by rw [redN_mk h.mo, redN_mk h.mp, h.eq], ?_⟩
  rcases List.eq_nil_or_concat x with rfl | ⟨a, r, rfl⟩
  · simpa using h.lst
  · rw [List.concat_eq_append, ← List.append_assoc, ← List.append_assoc]; simp
theorem Rl.uns {o p : List Nat} (h : Rl o p) {s t : List Nat} (hs : s ≠ []) (h1 : 10 ∉ s) (ht : t ≠ []) (h2 : 10 ∉ t) : Rl (unsafeN o s) (unsafeN p t) := by
  refine ⟨h.mo.unsafeN, h.mp.unsafeN, ?_, ?_⟩
  · rw [redN_line h.mo hs h1, redN_line h.mp ht h2, h.eq]
    by_cases hl : o.getLast? = some 8250
    · rw [if_pos hl, if_pos (h.lst.1 hl)]
    · rw [if_neg hl, if_neg (fun e => hl (h.lst.2 e))]
  · rw [unsafeN_line hs h1, unsafeN_line ht h2]; simp
/-- What may differ between two arguments. -/
structure Alk (a b : AArg) : Prop where
  kd : a.kind = b.kind
  un : a.kind = 0 ∨ a.kind = 5 ∨ a.kind = 6 → a.text.data.toList ≠ [] ∧ b.text.data.toList ≠ [] ∧ (10 : UInt8) ∉ a.text.data.toList ∧ (10 : UInt8) ∉ b.text.data.toList
  rn : a.kind = 7 ∨ a.kind = 9 → a.n ≠ 10 ∧ b.n ≠ 10
  sm : a.kind = 1 ∨ a.kind = 3 ∨ a.kind = 4 ∨ a.kind = 8 ∨ a.kind = 10 → a.text.data.toList = b.text.data.toList ∧ a.n = b.n
theorem txt_ne {s : ByteArray} (h : Txt s (runes s)) (hne : s.data.toList ≠ []) : runes s ≠ [] := fun e => hne (by rw [h.en, e]; rfl)
theorem txt_nl {s : ByteArray} (h : Txt s (runes s)) (hnl : (10 : UInt8) ∉ s.data.toList) : 10 ∉ runes s := fun hm => hnl (by
  rw [h.en]
  have : ∀ rs : List Nat, 10 ∈ rs → (10 : UInt8) ∈ encs rs := by
    intro rs
    induction rs with
    | nil => intro h; cases h
    | cons r rs ih =>
      intro h
      rw [encs_cons]
      rcases List.mem_cons.1 h with rfl | h
      · refine List.mem_append_left _ ?_
        rw [enc10]; exact List.mem_cons_self ..
      · exact List.mem_append_right _ (ih h)
  exact this _ hm)
theorem text_eq {s t : ByteArray} (h : s.data.toList = t.data.toList) : s = t := by
  cases s with
  | mk a => cases t with
    | mk b => exact congrArg ByteArray.mk (Array.ext' h)
theorem numN_ne (n : Int) : numN n ≠ [] := by
  intro h
  have h2 : numL n = [] := by rw [← numN_enc, h]; rfl
  unfold numL at h2
  split at h2
  · cases h2
  · exact digs_ne _ h2
theorem numN_nl (n : Int) : 10 ∉ numN n := by
  intro h
  obtain ⟨b, hb, he⟩ := List.mem_map.1 h
  unfold numL at hb
  split at hb
  · rcases List.mem_cons.1 hb with rfl | hb
    · simp at he
    · exact digs_line _ ((UInt8.toNat_inj.1 he : b = 10) ▸ hb)
  · exact digs_line _ ((UInt8.toNat_inj.1 he : b = 10) ▸ hb)
theorem Rl.putN {o p : List Nat} (h : Rl o p) {a b : AArg} (hab : Alk a b) (ha : a.Ok) (hb : b.Ok) : Rl (putN o a) (putN p b) := by
  have hk := hab.kd
  unfold Proofs.YtlmcglaajmjanaaGreatDoor.putN
  rw [← hk]
  by_cases h1 : a.kind = 1 ∨ a.kind = 4
  · rw [if_pos h1, if_pos h1]
    have hx := text_eq (hab.sm (by omega)).1
    rw [← hx]
    refine h.app ?_
    rcases h1 with h1 | h1
    · exact Mk.safe (ha.sf h1)
    · exact ha.mk1 h1
  · rw [if_neg h1, if_neg h1]
    by_cases h2 : a.kind = 2
    · rw [if_pos h2, if_pos h2]
      exact h.uns (numN_ne _) (numN_nl _) (numN_ne _) (numN_nl _)
    · rw [if_neg h2, if_neg h2]
      by_cases h3 : a.kind = 3
      · rw [if_pos h3, if_pos h3, ← (hab.sm (by omega)).2]
        exact h.app (Mk.safe (numN_noM _))
      · rw [if_neg h3, if_neg h3]
        have hkd := ha.kd
        obtain ⟨u1, u2, u3, u4⟩ := hab.un (by omega)
        exact h.uns (txt_ne ha.tx u1) (txt_nl ha.tx u3) (txt_ne hb.tx u2) (txt_nl hb.tx u4)
theorem Rl.putB {o p : List Nat} (h : Rl o p) {a b : AArg} (hab : Alk a b) (ha : a.OkB) (hb : b.OkB) : Rl (putB o a) (putB p b) := by
  have hk := hab.kd
  unfold Proofs.YtlmcglaajmjanaaGreatDoor.putB
  rw [← hk]
  by_cases h1 : a.kind = 1 ∨ a.kind = 4
  · rw [if_pos h1, if_pos h1]
    have hx := text_eq (hab.sm (by omega)).1
    rw [← hx]
    refine h.app ?_
    rcases h1 with h1 | h1
    · exact Mk.safe (ha.sf h1)
    · exact ha.mk1 h1
  · rw [if_neg h1, if_neg h1]
    by_cases h3 : a.kind = 3
    · rw [if_pos h3, if_pos h3, ← (hab.sm (by omega)).2]
      exact h.app (Mk.safe (numN_noM _))
    · rw [if_neg h3, if_neg h3]
      by_cases h7 : a.kind = 7 ∨ a.kind = 9
      · rw [if_pos h7, if_pos h7]
        have h10 := hab.rn h7
        have n1 := ha.nn (by omega)
        have n2 := hb.nn (by omega)
        exact h.uns (by simp) (fun e => by have := List.mem_singleton.1 e; omega) (by simp) (fun e => by have := List.mem_singleton.1 e; omega)
      · rw [if_neg h7, if_neg h7]
        by_cases h8 : a.kind = 8 ∨ a.kind = 10
        · rw [if_pos h8, if_pos h8, ← (hab.sm (by omega)).2]
          have n1 := ha.nn (by omega)
          exact h.app (Mk.safe (asc_noM1 (by omega)))
        · rw [if_neg h8, if_neg h8]
          have hkd := ha.kd
          obtain ⟨u1, u2, u3, u4⟩ := hab.un (by omega)
          exact h.uns (txt_ne ha.tx u1) (txt_nl ha.tx u3) (txt_ne hb.tx u2) (txt_nl hb.tx u4)
/-- Two lists of arguments that differ in what is unsafe alone. -/
def Alks : List AArg → List AArg → Prop
  | [], [] => True
  | a :: l, b :: m => Alk a b ∧ Alks l m
  | _, _ => False
theorem Alks.len : ∀ {l m : List AArg}, Alks l m → l.length = m.length := by
  intro l
  induction l with
  | nil => intro m h; cases m with
    | nil => rfl
    | cons b m => exact h.elim
  | cons a l ih => intro m h; cases m with
    | nil => exact h.elim
    | cons b m => simp [ih h.2]
theorem Alks.snoc : ∀ {l m : List AArg} {a b : AArg}, Alks l m → Alk a b → Alks (l ++ [a]) (m ++ [b]) := by
  intro l
  induction l with
  | nil => intro m a b h k; cases m with
    | nil => exact ⟨k, trivial⟩
    | cons b m => exact h.elim
  | cons x l ih => intro m a b h k; cases m with
    | nil => exact h.elim
    | cons y m => exact ⟨h.1, ih h.2 k⟩
theorem Alks.sprR : ∀ {l m : List AArg} {o p : List Nat} (prev : Option Bool), Alks l m → Rl o p → (∀ a ∈ l, a.Ok) → (∀ b ∈ m, b.Ok) → Rl (sprG o prev l) (sprG p prev m) := by
  intro l
  induction l with
  | nil => intro m o p prev h hr _ _; cases m with
    | nil => exact hr
    | cons b m => exact h.elim
  | cons a l ih => intro m o p prev h hr hl hm; cases m with
    | nil => exact h.elim
    | cons b m =>
      have ht : b.isText = a.isText := by unfold AArg.isText; rw [h.1.kd]
      simp only [Proofs.YtlmcglaajmjanaaGreatDoor.sprG]
      rw [ht]
      refine ih _ h.2 (Rl.putN ?_ h.1 (hl a (List.mem_cons_self ..)) (hm b (List.mem_cons_self ..))) (fun x hx => hl x (List.mem_cons_of_mem _ hx)) (fun x hx => hm x (List.mem_cons_of_mem _ hx))
      split
      · exact hr.app (Mk.safe blank_noM)
      · exact hr
theorem Alks.bldR : ∀ {l m : List AArg} {o p : List Nat}, Alks l m → Rl o p → (∀ a ∈ l, a.OkB) → (∀ b ∈ m, b.OkB) → Rl (bldN o l) (bldN p m) := by
  intro l
  induction l with
  | nil => intro m o p h hr _ _; cases m with
    | nil => exact hr
    | cons b m => exact h.elim
  | cons a l ih => intro m o p h hr hl hm; cases m with
    | nil => exact h.elim
    | cons b m =>
      show Rl (bldN (putB o a) l) (bldN (putB p b) m)
      exact ih h.2 (hr.putB h.1 (hl a (List.mem_cons_self ..)) (hm b (List.mem_cons_self ..))) (fun x hx => hl x (List.mem_cons_of_mem _ hx)) (fun x hx => hm x (List.mem_cons_of_mem _ hx))
theorem Alks.fmtR : ∀ {ss : List (List Nat)} {l m : List AArg} {o p : List Nat}, Alks l m → Rl o p → (∀ x ∈ ss, Mk x) → (∀ a ∈ l, a.Ok) → (∀ b ∈ m, b.Ok) → Rl (fmtN o ss (putF l)) (fmtN p ss (putF m)) := by
  intro ss
  induction ss with
  | nil => intro l m o p h hr _ _ _; exact hr
  | cons x ss ih => intro l m o p h hr hs hl hm; cases l with
    | nil => cases m with
      | nil => exact hr.app (hs x (List.mem_cons_self ..))
      | cons b m => exact h.elim
    | cons a l => cases m with
      | nil => exact h.elim
      | cons b m =>
        show Rl (fmtN (putN (o ++ x) a) ss (putF l)) (fmtN (putN (p ++ x) b) ss (putF m))
        exact ih h.2 ((hr.app (hs x (List.mem_cons_self ..))).putN h.1 (hl a (List.mem_cons_self ..)) (hm b (List.mem_cons_self ..))) (fun y hy => hs y (List.mem_cons_of_mem _ hy)) (fun y hy => hl y (List.mem_cons_of_mem _ hy)) (fun y hy => hm y (List.mem_cons_of_mem _ hy))
end Go.Proofs.YtlmcglaajmjanaaGreatDoor
