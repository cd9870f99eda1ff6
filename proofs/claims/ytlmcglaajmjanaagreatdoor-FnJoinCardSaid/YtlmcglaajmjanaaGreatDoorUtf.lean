/- Plain words: texts as rows of runes: which is a marker, where one lies among the bytes, what escaping makes of them. No program is in sight. -/
import Derived.Test.YtlmcglaajmjanaaGreatDoorAsc
import Derived.Lib.MapLaws
namespace Go.Proofs.YtlmcglaajmjanaaGreatDoor
open Go.RowKit
def Sc (r : Nat) : Prop := r < 55296 ∨ (57344 ≤ r ∧ r ≤ 1114111)
def Scs (rs : List Nat) : Prop := ∀ r ∈ rs, Sc r
def encs (rs : List Nat) : List UInt8 := rs.flatMap encL
theorem encs_nil : encs [] = [] := rfl
theorem encs_cons (r : Nat) (rs : List Nat) : encs (r :: rs) = encL r ++ encs rs := rfl
theorem encs_append (a b : List Nat) : encs (a ++ b) = encs a ++ encs b := by unfold encs; simp
theorem encs_one (r : Nat) : encs [r] = encL r := by unfold encs; simp
theorem Scs.nil : Scs [] := fun _ h => by cases h
theorem Scs.cons {r : Nat} {rs : List Nat} (h : Sc r) (k : Scs rs) : Scs (r :: rs) := fun x hx => by
  rcases List.mem_cons.1 hx with rfl | hx
  · exact h
  · exact k x hx
theorem Scs.head {r : Nat} {rs : List Nat} (h : Scs (r :: rs)) : Sc r := h r (List.mem_cons_self ..)
theorem Scs.tail {r : Nat} {rs : List Nat} (h : Scs (r :: rs)) : Scs rs := fun x hx => h x (List.mem_cons_of_mem _ hx)
theorem Scs.append {a b : List Nat} (h : Scs a) (k : Scs b) : Scs (a ++ b) := fun x hx => by
  rcases List.mem_append.1 hx with hx | hx
  · exact h x hx
  · exact k x hx
theorem Scs.left {a b : List Nat} (h : Scs (a ++ b)) : Scs a := fun x hx => h x (List.mem_append_left _ hx)
theorem Scs.right {a b : List Nat} (h : Scs (a ++ b)) : Scs b := fun x hx => h x (List.mem_append_right _ hx)
theorem valid_sc {r : Nat} (h : Sc r) : Utf8.valid (r : Int) = true := by
  unfold Utf8.valid
  rw [Bool.or_eq_true, Bool.and_eq_true, Bool.and_eq_true, decide_eq_true_eq, decide_eq_true_eq, decide_eq_true_eq, decide_eq_true_eq]
  unfold Sc at h
  omega
theorem encL_shape {r : Nat} (h : Sc r) :
    (r < 128 ∧ encL r = [UInt8.ofNat r]) ∨
    (128 ≤ r ∧ r < 2048 ∧ encL r = [UInt8.ofNat (192 + r / 64), UInt8.ofNat (128 + r % 64)]) ∨
    (2048 ≤ r ∧ r < 65536 ∧ encL r = [UInt8.ofNat (224 + r / 4096), UInt8.ofNat (128 + r / 64 % 64), UInt8.ofNat (128 + r % 64)]) ∨
    (65536 ≤ r ∧ r ≤ 1114111 ∧ encL r = [UInt8.ofNat (240 + r / 262144), UInt8.ofNat (128 + r / 4096 % 64), UInt8.ofNat (128 + r / 64 % 64), UInt8.ofNat (128 + r % 64)]) := by
  have e := encode_valid (r : Int) r (Int.toNat_natCast r) (valid_sc h)
  unfold Sc at h
  by_cases h1 : r < 128
  · rw [if_pos (by simpa using h1)] at e
    exact .inl ⟨h1, (encL_of e).trans (by rw [Lib.toList_data])⟩
  rw [if_neg (by simpa using h1)] at e
  by_cases h2 : r < 2048
  · rw [if_pos (by simpa using h2)] at e
    exact .inr (.inl ⟨by omega, h2, (encL_of e).trans (by rw [Lib.toList_data])⟩)
  rw [if_neg (by simpa using h2)] at e
  by_cases h3 : r < 65536
  · rw [if_pos (by simpa using h3)] at e
    exact .inr (.inr (.inl ⟨by omega, h3, (encL_of e).trans (by rw [Lib.toList_data])⟩))
  rw [if_neg (by simpa using h3)] at e
  exact .inr (.inr (.inr ⟨by omega, by omega, (encL_of e).trans (by rw [Lib.toList_data])⟩))
theorem byte_nat {n : Nat} (h : n < 256) : (UInt8.ofNat n).toNat = n := by simp; omega
theorem byte_ne {n : Nat} {b : UInt8} (h : n < 256) (hb : n ≠ b.toNat) : UInt8.ofNat n ≠ b := fun e => hb (by rw [← e, byte_nat h])
theorem byte_no {n : Nat} {b : UInt8} (e : UInt8.ofNat n = b) (h : n < 256) (hb : n ≠ b.toNat) : False := byte_ne h hb e
theorem byte_some {n : Nat} {b : UInt8} (e : some (UInt8.ofNat n) = some b) (h : n < 256) (hb : n ≠ b.toNat) : False := byte_no (Option.some.inj e) h hb
/-- What a byte of a rune can be. -/
theorem encL_pos {r : Nat} (h : Sc r) : 0 < (encL r).length := by
  rcases encL_shape h with ⟨_, e⟩ | ⟨_, _, e⟩ | ⟨_, _, e⟩ | ⟨_, _, e⟩ <;> rw [e] <;> simp
theorem encL_len {r : Nat} (h : Sc r) : (encL r).length ≤ 4 := by
  rcases encL_shape h with ⟨_, e⟩ | ⟨_, _, e⟩ | ⟨_, _, e⟩ | ⟨_, _, e⟩ <;> rw [e] <;> simp
theorem decodeL_enc {r : Nat} (h : Sc r) (rest : List UInt8) : Lib.decodeL (encL r ++ rest) = (r, (encL r).length) := by
  rw [Lib.decodeL_N]
  rcases encL_shape h with ⟨h1, e⟩ | ⟨h1, h2, e⟩ | ⟨h1, h2, e⟩ | ⟨h1, h2, e⟩
  all_goals
    rw [e]
    unfold Sc at h
    unfold Lib.decodeN
    simp only [List.cons_append, List.nil_append, List.length_cons, List.length_nil, List.getD_cons_zero, List.getD_cons_succ]
  · rw [byte_nat (by omega), if_pos h1]
  · rw [byte_nat (show 192 + r / 64 < 256 by omega), byte_nat (show 128 + r % 64 < 256 by omega)]
    rw [if_neg (by omega), if_pos (by omega), if_pos (by omega)]
    congr 1; omega
  · rw [byte_nat (show 224 + r / 4096 < 256 by omega), byte_nat (show 128 + r / 64 % 64 < 256 by omega), byte_nat (show 128 + r % 64 < 256 by omega)]
    rw [if_neg (by omega), if_neg (by omega), if_pos (by omega), if_pos (by omega)]
    congr 1; omega
  · rw [byte_nat (show 240 + r / 262144 < 256 by omega), byte_nat (show 128 + r / 4096 % 64 < 256 by omega), byte_nat (show 128 + r / 64 % 64 < 256 by omega), byte_nat (show 128 + r % 64 < 256 by omega)]
    rw [if_neg (by omega), if_neg (by omega), if_neg (by omega), if_pos (by omega), if_pos (by omega)]
    congr 1; omega
theorem runesAt_encs : ∀ (rs : List Nat) (pre : List UInt8), Scs rs → RunesAt ⟨(pre ++ encs rs).toArray⟩ pre.length rs := by
  intro rs
  induction rs with
  | nil =>
    intro pre _
    unfold RunesAt
    exact runesF_end _ _ (by simp [encs_nil, ByteArray.size]) _
  | cons r rs ih =>
    intro pre h
    have hpos := encL_pos h.head
    have hs : (ByteArray.mk (pre ++ encs (r :: rs)).toArray).size = pre.length + (encL r).length + (encs rs).length := by simp [ByteArray.size, encs_cons]; omega
    have hd : Utf8.decode ⟨(pre ++ encs (r :: rs)).toArray⟩ pre.length = (r, (encL r).length) := by
      rw [← Lib.decodeL_drop]
      have : (ByteArray.mk (pre ++ encs (r :: rs)).toArray).data.toList.drop pre.length = encL r ++ encs rs := by simp [encs_cons]
      rw [this]; exact decodeL_enc h.head _
    unfold RunesAt
    rw [runesF_step _ _ (by rw [hs]; omega), hd]
    have := ih (pre ++ encL r) h.tail
    unfold RunesAt at this
    rw [List.length_append, List.append_assoc, ← encs_cons] at this
    rw [this]
theorem runesL_encs {rs : List Nat} (h : Scs rs) : runesL (encs rs) = rs := by
  have := runesAt_encs rs [] h
  unfold runesL
  rw [← RunesAt.start]
  exact this
theorem encodeRune_encL {r : Nat} (h : Sc r) : Lib.encodeRune (r : Int) = encL r := by
  unfold Lib.encodeRune
  rcases encL_shape h with ⟨h1, e⟩ | ⟨h1, h2, e⟩ | ⟨h1, h2, e⟩ | ⟨h1, h2, e⟩
  · rw [Lib.encodeRuneZ_one (by omega) (by omega), e]; simp
  · rw [Lib.encodeRuneZ_two (by omega) (by omega), e]
    simp only [List.map_cons, List.map_nil]
    rw [show ((192 : Int) + (r : Int) / 64).toNat = 192 + r / 64 by omega, show ((128 : Int) + (r : Int) % 64).toNat = 128 + r % 64 by omega]
  · unfold Sc at h
    rw [Lib.encodeRuneZ_three (by omega), e]
    simp only [List.map_cons, List.map_nil]
    rw [show ((224 : Int) + (r : Int) / 4096).toNat = 224 + r / 4096 by omega, show ((128 : Int) + (r : Int) / 64 % 64).toNat = 128 + r / 64 % 64 by omega, show ((128 : Int) + (r : Int) % 64).toNat = 128 + r % 64 by omega]
  · rw [Lib.encodeRuneZ_four (by omega) (by omega), e]
    simp only [List.map_cons, List.map_nil]
    rw [show ((240 : Int) + (r : Int) / 262144).toNat = 240 + r / 262144 by omega, show ((128 : Int) + (r : Int) / 4096 % 64).toNat = 128 + r / 4096 % 64 by omega, show ((128 : Int) + (r : Int) / 64 % 64).toNat = 128 + r / 64 % 64 by omega, show ((128 : Int) + (r : Int) % 64).toNat = 128 + r % 64 by omega]
theorem decodeL_sc (l : List UInt8) (h0 : (Lib.decodeL l).1 ≠ 65533) : Sc (Lib.decodeL l).1 := by
  have h := h0
  unfold Sc
  rw [Lib.decodeL_N] at h ⊢
  have k0 := (l.getD 0 0).toNat_lt
  have k1 := (l.getD 1 0).toNat_lt
  have k2 := (l.getD 2 0).toNat_lt
  have k3 := (l.getD 3 0).toNat_lt
  rcases Lib.decodeN_shape l.length (l.getD 0 0).toNat (l.getD 1 0).toNat (l.getD 2 0).toNat (l.getD 3 0).toNat with ⟨c, e⟩ | ⟨c1, c2, c3, cv, e⟩ | ⟨c1, c2, c3, c4, cv, cs, e⟩ | ⟨c1, c2, c3, c4, c5, cv, cw, e⟩ | e
  all_goals (rw [e] at h ⊢; dsimp only at h ⊢; omega)
/-- A text without U+FFFD is the bytes of its runes. -/
theorem plain_at (s : ByteArray) : ∀ (n pos : Nat) (rest : List Nat), s.size - pos ≤ n → RunesAt s pos rest → (∀ r ∈ rest, r ≠ 65533) → Scs rest ∧ s.data.toList.drop pos = encs rest := by
  intro n
  induction n with
  | zero =>
    intro pos rest hn hr _
    have := hr.stop (by omega)
    subst this
    exact ⟨Scs.nil, List.drop_of_length_le (by rw [← Lib.size_eq]; omega)⟩
  | succ n ih =>
    intro pos rest hn hr h
    by_cases hp : pos < s.size
    · obtain ⟨rest', rfl, hr'⟩ := hr.step hp
      have hadv := decode_adv s pos hp
      have hne : s.data.toList.drop pos ≠ [] := by
        intro h0
        have := congrArg List.length h0
        rw [List.length_drop, ← Lib.size_eq] at this
        simp at this; omega
      have h1 := h _ (List.mem_cons_self ..)
      rw [← Lib.decodeL_drop] at h1
      have hsc := decodeL_sc _ h1
      have hen := Lib.encode_decode _ hne (fun hh => h1 hh.1)
      rw [encodeRune_encL hsc, Lib.decodeL_drop] at hen
      rw [Lib.decodeL_drop] at hsc
      obtain ⟨k1, k2⟩ := ih _ _ (by omega) hr' (fun x hx => h x (List.mem_cons_of_mem _ hx))
      refine ⟨k1.cons hsc, ?_⟩
      rw [encs_cons, hen, ← k2, ← List.drop_drop]
      exact (List.take_append_drop _ _).symm
    · have := hr.stop hp
      subst this
      exact ⟨Scs.nil, List.drop_of_length_le (by rw [← Lib.size_eq]; omega)⟩
theorem plain_encs {l : List UInt8} (h : ∀ r ∈ runesL l, r ≠ 65533) : Scs (runesL l) ∧ l = encs (runesL l) := by
  have := plain_at ⟨l.toArray⟩ _ 0 _ (Nat.le_refl _) (RunesAt.start _) h
  have h2 := this.2
  rw [List.drop_zero] at h2
  exact ⟨this.1, h2⟩
/-- The markers' runes. -/
def rS : Nat := 8249
def rE : Nat := 8250
def rH : Nat := 8224
def isM (r : Nat) : Bool := r == 8249 || r == 8250 || r == 8224
theorem scS : Sc 8249 := by unfold Sc; omega
theorem scE : Sc 8250 := by unfold Sc; omega
theorem scH : Sc 8224 := by unfold Sc; omega
theorem encS : encL 8249 = mkS := by
  rcases encL_shape scS with ⟨_, _⟩ | ⟨_, _, _⟩ | ⟨_, _, e⟩ | ⟨_, _, _⟩
  · omega
  · omega
  · rw [e]; rfl
  · omega
theorem encE : encL 8250 = mkE := by
  rcases encL_shape scE with ⟨_, _⟩ | ⟨_, _, _⟩ | ⟨_, _, e⟩ | ⟨_, _, _⟩
  · omega
  · omega
  · rw [e]; rfl
  · omega
theorem encH : encL 8224 = mkH := by
  rcases encL_shape scH with ⟨_, _⟩ | ⟨_, _, _⟩ | ⟨_, _, e⟩ | ⟨_, _, _⟩
  · omega
  · omega
  · rw [e]; rfl
  · omega
theorem encX : encs [8249, 215, 8250] = mkX := by
  have : encL 215 = [195, 151] := by
    rcases encL_shape (show Sc 215 by unfold Sc; omega) with ⟨_, _⟩ | ⟨_, _, e⟩ | ⟨_, _, _⟩ | ⟨_, _, _⟩
    · omega
    · rw [e]; rfl
    · omega
    · omega
  simp only [encs_cons, encs_nil, encS, encE, this]; rfl
theorem encL_inj {a b : Nat} (ha : Sc a) (hb : Sc b) (h : encL a = encL b) : a = b := by
  have h1 := decodeL_enc ha []
  rw [h, decodeL_enc hb []] at h1
  exact (congrArg Prod.fst h1).symm
theorem isMk_iff (l : List UInt8) : isMk l = true ↔ l = mkS ∨ l = mkE ∨ l = mkH := by simp [isMk, or_assoc]
theorem isM_iff (r : Nat) : isM r = true ↔ r = 8249 ∨ r = 8250 ∨ r = 8224 := by simp [isM, or_assoc]
theorem isMk_enc {r : Nat} (h : Sc r) : isMk (encL r) = isM r := by
  rw [Bool.eq_iff_iff, isMk_iff, isM_iff, ← encS, ← encE, ← encH]
  constructor
  · rintro (e | e | e)
    · exact .inl (encL_inj h scS e)
    · exact .inr (.inl (encL_inj h scE e))
    · exact .inr (.inr (encL_inj h scH e))
  · rintro (rfl | rfl | rfl) <;> simp
theorem isMk_head {t : List UInt8} (h : isMk (t.take 3) = true) : t.head? = some 226 := by
  rw [isMk_iff] at h
  cases t with
  | nil => simp [mkS, mkE, mkH] at h
  | cons x t =>
    have : x = 226 := by
      rcases h with h | h | h
      all_goals
        have := congrArg List.head? h
        simpa [mkS, mkE, mkH] using this
    rw [this]; rfl
theorem take3_enc {r : Nat} (h : Sc r) (h3 : 2048 ≤ r ∧ r < 65536) (rest : List UInt8) : (encL r ++ rest).take 3 = encL r := by
  rcases encL_shape h with ⟨_, _⟩ | ⟨_, _, _⟩ | ⟨_, _, e⟩ | ⟨_, _, _⟩
  · omega
  · omega
  · rw [e]; rfl
  · omega
/-- No marker begins within the bytes of a rune that is none. -/
theorem noMk_in {r : Nat} (h : Sc r) (hn : isM r = false) (rest : List UInt8) : ∀ i, i < (encL r).length → isMk (((encL r ++ rest).drop i).take 3) = false := by
  intro i hi
  cases hm : isMk (((encL r ++ rest).drop i).take 3) with
  | false => rfl
  | true =>
    exfalso
    have hh := isMk_head hm
    have hs := h
    unfold Sc at hs
    rcases encL_shape h with ⟨h1, e⟩ | ⟨h1, h2, e⟩ | ⟨h1, h2, e⟩ | ⟨h1, h2, e⟩
    · rw [e] at hh hi
      simp at hi; subst hi
      exact byte_some hh (by omega) (by show _ ≠ 226; omega)
    · rw [e] at hh hi
      simp at hi
      have : i = 0 ∨ i = 1 := by omega
      rcases this with rfl | rfl
      · exact byte_some hh (by omega) (by show _ ≠ 226; omega)
      · exact byte_some hh (by omega) (by show _ ≠ 226; omega)
    · by_cases h0 : i = 0
      · subst h0
        rw [List.drop_zero, take3_enc h ⟨h1, h2⟩, isMk_enc h, hn] at hm
        cases hm
      · rw [e] at hh hi
        simp at hi
        have : i = 1 ∨ i = 2 := by omega
        rcases this with rfl | rfl
        · exact byte_some hh (by omega) (by show _ ≠ 226; omega)
        · exact byte_some hh (by omega) (by show _ ≠ 226; omega)
    · rw [e] at hh hi
      simp at hi
      have : i = 0 ∨ i = 1 ∨ i = 2 ∨ i = 3 := by omega
      rcases this with rfl | rfl | rfl | rfl
      · exact byte_some hh (by omega) (by show _ ≠ 226; omega)
      · exact byte_some hh (by omega) (by show _ ≠ 226; omega)
      · exact byte_some hh (by omega) (by show _ ≠ 226; omega)
      · exact byte_some hh (by omega) (by show _ ≠ 226; omega)
theorem noNl_in {r : Nat} (h : Sc r) (hn : r ≠ 10) : ∀ x ∈ encL r, x ≠ 10 := by
  intro x hx
  have hs := h
  unfold Sc at hs
  rcases encL_shape h with ⟨h1, e⟩ | ⟨h1, h2, e⟩ | ⟨h1, h2, e⟩ | ⟨h1, h2, e⟩
  all_goals
    rw [e] at hx
    simp only [List.mem_cons, List.not_mem_nil, or_false] at hx
  · rw [hx]; exact byte_ne (by omega) (by show _ ≠ 10; omega)
  · rcases hx with rfl | rfl
    all_goals exact byte_ne (by omega) (by show _ ≠ 10; omega)
  · rcases hx with rfl | rfl | rfl
    all_goals exact byte_ne (by omega) (by show _ ≠ 10; omega)
  · rcases hx with rfl | rfl | rfl | rfl
    all_goals exact byte_ne (by omega) (by show _ ≠ 10; omega)
theorem enc10 : encL 10 = [10] := encL_ascii 10 (by omega)
/-- The end of a text in runes: a marker's bytes stand there just if its rune does. -/
theorem suffix_enc {m : Nat} (hm : m = 8249 ∨ m = 8250) {rs : List Nat} (h : Scs rs) : Lib.hasSuffix (encs rs) (encL m) = (rs.getLast? == some m) := by
  have hmsc : Sc m := by unfold Sc; omega
  have hml : (encL m).length = 3 := by rcases hm with rfl | rfl <;> simp [encS, encE, mkS, mkE]
  rcases List.eq_nil_or_concat rs with rfl | ⟨a, r, rfl⟩
  · cases hb : Lib.hasSuffix (encs []) (encL m) with
    | false => rfl
    | true => have := suffix_len hb; rw [hml] at this; simp [encs_nil] at this
  · rw [List.concat_eq_append] at h ⊢
    have hr : Sc r := h.right r (by simp)
    rw [encs_append, encs_one]
    simp only [List.getLast?_append, List.getLast?_singleton, Option.some_or]
    by_cases hrm : r = m
    · subst hrm
      simp [Lib.hasSuffix]
    · have e1 : (some r == some m) = false := by simp [hrm]
      rw [e1]
      cases hb : Lib.hasSuffix (encs a ++ encL r) (encL m) with
      | false => rfl
      | true =>
        exfalso
        unfold Lib.hasSuffix at hb
        rw [List.isSuffixOf_iff_suffix] at hb
        obtain ⟨pre, hpre⟩ := hb
        have hme : ∃ b : UInt8, encL m = [226, 128, b] := by rcases hm with rfl | rfl <;> simp [encS, encE, mkS, mkE]
        obtain ⟨b, hb⟩ := hme
        have hs := hr
        unfold Sc at hs
        have hrev := congrArg List.reverse hpre
        rw [hb] at hrev
        rcases encL_shape hr with ⟨h1, e⟩ | ⟨h1, h2, e⟩ | ⟨h1, h2, e⟩ | ⟨h1, h2, e⟩
        · have hb3 : encL m = [226, 128, UInt8.ofNat r] := by rw [e] at hrev; simp only [List.reverse_append, List.reverse_cons, List.reverse_nil, List.nil_append, List.cons_append, List.cons.injEq] at hrev; rw [hb, hrev.1]
          have := decodeL_enc hmsc []
          rcases encL_shape hmsc with ⟨k1, _⟩ | ⟨_, k2, _⟩ | ⟨k1, k2, ke⟩ | ⟨k1, _, _⟩
          · omega
          · omega
          · rw [ke] at hb3
            simp only [List.cons.injEq, and_true] at hb3
            have := congrArg UInt8.toNat hb3.2.2
            rw [byte_nat (by omega), byte_nat (by omega)] at this
            omega
          · omega
        · rw [e] at hrev
          simp only [List.reverse_append, List.reverse_cons, List.reverse_nil, List.nil_append, List.cons_append, List.cons.injEq] at hrev
          have := hrev.2.1
          exact byte_no this.symm (by omega) (by show _ ≠ 128; omega)
        · rw [e] at hrev
          simp only [List.reverse_append, List.reverse_cons, List.reverse_nil, List.nil_append, List.cons_append, List.cons.injEq] at hrev
          apply hrm
          apply encL_inj hr hmsc
          rw [hb, e, ← hrev.1, ← hrev.2.1, ← hrev.2.2.1]
        · rw [e] at hrev
          simp only [List.reverse_append, List.reverse_cons, List.reverse_nil, List.nil_append, List.cons_append, List.cons.injEq] at hrev
          have := hrev.2.2.1
          exact byte_no this.symm (by omega) (by show _ ≠ 226; omega)
theorem take_enc3 {m : Nat} (hm : m = 8249 ∨ m = 8250) {rs : List Nat} (hl : rs.getLast? = some m) : (encs rs).take ((encs rs).length - 3) = encs rs.dropLast := by
  obtain ⟨a, rfl⟩ : ∃ a, rs = a ++ [m] := by
    rcases List.eq_nil_or_concat rs with rfl | ⟨a, r, rfl⟩
    · cases hl
    · rw [List.concat_eq_append] at hl ⊢; simp at hl; exact ⟨a, by rw [hl]⟩
  have hml : (encL m).length = 3 := by rcases hm with rfl | rfl <;> simp [encS, encE, mkS, mkE]
  rw [encs_append, encs_one, List.dropLast_concat, List.length_append, hml, Nat.add_sub_cancel]
  exact List.take_left' rfl
end Go.Proofs.YtlmcglaajmjanaaGreatDoor
