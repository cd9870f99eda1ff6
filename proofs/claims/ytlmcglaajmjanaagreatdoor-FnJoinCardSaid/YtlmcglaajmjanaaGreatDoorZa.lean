/- Plain words on texts: the runes of a byte array, markers, what escaping and marking make of them. No program is in sight. -/
/- Plain words: texts of ASCII; the digits of a number between markers are redacted to the sign for it. No program is in sight. -/
/- Plain words: texts as rows of runes: which is a marker, where one lies among the bytes, what escaping makes of them. No program is in sight. -/
/- Plain words: what escaping a text behind another one makes, what opening and closing a marked part makes; and that both are what the reference says. No program is in sight. -/
/- Plain words: redactable texts, by an automaton over their runes; that writing keeps them so. No program is in sight. -/
import Derived.Lib.Strings
import Derived.Lib.Hide
import Derived.Laws.RangeAny
import Derived.Laws.Concat
import Derived.Laws.Cells
import Derived.Lib.MapLaws
namespace Go.Proofs.YtlmcglaajmjanaaGreatDoor
open Go.RowKit
/-- The runes of s from pos on, at most f of them. -/
def runesF (s : ByteArray) : Nat → Nat → List Nat
  | 0, _ => []
  | f+1, pos => if pos < s.size then (Utf8.decode s pos).1 :: runesF s f (pos + (Utf8.decode s pos).2) else []
def runes (s : ByteArray) : List Nat := runesF s s.size 0
def runesL (l : List UInt8) : List Nat := runes ⟨l.toArray⟩
def encL (r : Nat) : List UInt8 := (Utf8.encode r).toList
theorem runesL_data (s : ByteArray) : runesL s.data.toList = runes s := by unfold runesL; rw [Lib.mk_data]
theorem runes_of {s : ByteArray} {l : List UInt8} (h : s.data.toList = l) : runes s = runesL l := by rw [← h, runesL_data]

theorem decode_adv (s : ByteArray) (pos : Nat) (h : pos < s.size) : 1 ≤ (Utf8.decode s pos).2 ∧ pos + (Utf8.decode s pos).2 ≤ s.size := by
  simp only [Utf8.decode]
  repeat' split
  all_goals simp_all
  all_goals omega
theorem runesF_more (s : ByteArray) : ∀ (f pos g : Nat), s.size - pos ≤ f → s.size - pos ≤ g → runesF s f pos = runesF s g pos := by
  intro f
  induction f with
  | zero => intro pos g h hg; cases g with
    | zero => rfl
    | succ g => simp only [runesF]; rw [if_neg (by omega)]
  | succ f ih => intro pos g h hg; cases g with
    | zero => simp only [runesF]; rw [if_neg (by omega)]
    | succ g =>
      simp only [runesF]
      split
      · have := decode_adv s pos (by assumption)
        rw [ih _ g (by omega) (by omega)]
      · rfl
theorem runesF_end (s : ByteArray) (pos : Nat) (h : ¬ pos < s.size) (f : Nat) : runesF s f pos = [] := by
  cases f with
  | zero => rfl
  | succ f => simp only [runesF]; rw [if_neg h]
theorem runesF_step (s : ByteArray) (pos : Nat) (h : pos < s.size) : runesF s (s.size - pos) pos = (Utf8.decode s pos).1 :: runesF s (s.size - (pos + (Utf8.decode s pos).2)) (pos + (Utf8.decode s pos).2) := by
  have hd := decode_adv s pos h
  obtain ⟨f, hf⟩ : ∃ f, s.size - pos = f + 1 := ⟨s.size - pos - 1, by omega⟩
  rw [hf]
  simp only [runesF]
  rw [if_pos h, runesF_more s f _ (s.size - (pos + (Utf8.decode s pos).2)) (by omega) (by omega)]
/-- What is left of a text's runes at pos: rest. -/
def RunesAt (s : ByteArray) (pos : Nat) (rest : List Nat) : Prop := runesF s (s.size - pos) pos = rest
theorem RunesAt.start (s : ByteArray) : RunesAt s 0 (runes s) := by unfold RunesAt runes; rfl
theorem RunesAt.step {s : ByteArray} {pos : Nat} {rest : List Nat} (h : RunesAt s pos rest) (hp : pos < s.size) :
    ∃ rest', rest = (Utf8.decode s pos).1 :: rest' ∧ RunesAt s (pos + (Utf8.decode s pos).2) rest' :=
  ⟨_, by rw [← h, runesF_step s pos hp], rfl⟩
theorem RunesAt.stop {s : ByteArray} {pos : Nat} {rest : List Nat} (h : RunesAt s pos rest) (hp : ¬ pos < s.size) : rest = [] := by
  rw [← h, runesF_end s pos hp]

theorem encode_size (r : Int) : (Utf8.encode r).size ≤ 4 := by
  simp only [Utf8.encode]
  repeat' split
  all_goals simp [ByteArray.size]
theorem encode_pos (r : Int) : 1 ≤ (Utf8.encode r).size := by
  simp only [Utf8.encode]
  repeat' split
  all_goals simp [ByteArray.size]

def mkS : List UInt8 := [226, 128, 185]
def mkE : List UInt8 := [226, 128, 186]
def mkH : List UInt8 := [226, 128, 160]
def mkX : List UInt8 := [226, 128, 185, 195, 151, 226, 128, 186]
def isMk (l : List UInt8) : Bool := l == mkS || l == mkE || l == mkH
/-- What stands for a rune that is escaped. -/
def escR (r : Nat) : List UInt8 := if isMk (encL r) then [63] else encL r
def escL : List Nat → List UInt8
  | [] => []
  | r :: l => escR r ++ escL l
def escB (l : List UInt8) : List UInt8 := escL (runesL l)
/-- One rune of a text that is marked: what stands there, and whether a new line stood last. -/
def unsStep (st : List UInt8 × Bool) (r : Nat) : List UInt8 × Bool :=
  ((if r == 10 && !st.2 then (if Lib.hasSuffix st.1 mkS then st.1.take (st.1.length - 3) else st.1 ++ mkE)
    else if r != 10 && st.2 then st.1 ++ mkS else st.1) ++ encL r, r == 10)
def unsOpen (out : List UInt8) : List UInt8 := if Lib.hasSuffix out mkE then out.take (out.length - 3) else out ++ mkS
def unsFin (st : List UInt8 × Bool) : List UInt8 := if st.2 then st.1 else st.1 ++ mkE
/-- An unsafe text s behind out. -/
def unsafeL (out s : List UInt8) : List UInt8 :=
  if s = [] then out else unsFin ((runesL (escB s)).foldl unsStep (unsOpen out, false))
/-- The decimal digits of a number. -/
def digsF : Nat → Nat → List UInt8
  | 0, _ => []
  | f + 1, n => (if n < 10 then [] else digsF f (n / 10)) ++ [UInt8.ofNat (48 + n % 10)]
def digs (n : Nat) : List UInt8 := digsF 20 n
def numL (n : Int) : List UInt8 := if n < 0 then 45 :: digs n.natAbs else digs n.natAbs
theorem digsF_more : ∀ (f g n : Nat), n < 10 ^ f → n < 10 ^ g → 1 ≤ f → 1 ≤ g → digsF f n = digsF g n := by
  intro f
  induction f with
  | zero => intro g n _ _ h; omega
  | succ f ih =>
    intro g n h1 h2 _ h4
    obtain ⟨g, rfl⟩ : ∃ k, g = k + 1 := ⟨g - 1, by omega⟩
    simp only [digsF]
    by_cases h : n < 10
    · rw [if_pos h, if_pos h]
    · rw [if_neg h, if_neg h]
      have hf : 1 ≤ f := by
        rcases Nat.eq_zero_or_pos f with h0 | h0
        · subst h0; simp at h1; omega
        · exact h0
      have hg : 1 ≤ g := by
        rcases Nat.eq_zero_or_pos g with h0 | h0
        · subst h0; simp at h2; omega
        · exact h0
      rw [ih g (n / 10) (Nat.div_lt_of_lt_mul (by rw [Nat.pow_succ] at h1; omega)) (Nat.div_lt_of_lt_mul (by rw [Nat.pow_succ] at h2; omega)) hf hg]
theorem digsF_succ (f n : Nat) : digsF (f + 1) n = (if n < 10 then [] else digsF f (n / 10)) ++ [UInt8.ofNat (48 + n % 10)] := rfl
theorem digs_low (n : Nat) (h : n < 10) : digs n = [UInt8.ofNat (48 + n)] := by
  show digsF (19 + 1) n = _
  rw [digsF_succ, if_pos h, Nat.mod_eq_of_lt h]; rfl
theorem digs_high (n : Nat) (h : 10 ≤ n) (hn : n < 10 ^ 20) : digs n = digs (n / 10) ++ [UInt8.ofNat (48 + n % 10)] := by
  show digsF (19 + 1) n = _
  rw [digsF_succ, if_neg (by omega), digsF_more 19 20 (n / 10) (Nat.div_lt_of_lt_mul (by omega)) (by omega) (by omega) (by omega)]; rfl
/-- What the loop over a number's digits has made is what it should make. -/
def NumAt (m : Nat) (out goal : List UInt8) : Prop := (if m = 0 ∧ out ≠ [] then out else digs m ++ out) = goal
theorem NumAt.start (n : Nat) : NumAt n [] (digs n) := by unfold NumAt; simp
theorem NumAt.step {m : Nat} {out goal : List UInt8} (h : NumAt m out goal) (hg : ¬ (m = 0 ∧ out ≠ [])) (hm : m < 10 ^ 20) : NumAt (m / 10) (UInt8.ofNat (48 + m % 10) :: out) goal := by
  unfold NumAt at *
  rw [if_neg hg] at h
  by_cases h10 : m < 10
  · have h0 : m / 10 = 0 := by omega
    rw [h0, if_pos ⟨rfl, by simp⟩, ← h, digs_low m h10, Nat.mod_eq_of_lt h10]; rfl
  · rw [if_neg (by omega), ← h, digs_high m (by omega) hm]; simp
theorem NumAt.stop {m : Nat} {out goal : List UInt8} (h : NumAt m out goal) (hg : m = 0 ∧ out ≠ []) : out = goal := by
  unfold NumAt at h
  rwa [if_pos hg] at h
/-- The sum of two strings, under a name of its own. -/
theorem add_ex (P : Program) (a b : ByteArray) (h : a.size + b.size ≤ 9223372036854775807) :
    ∃ y : ByteArray, (∀ w, (Op.stringOp .add a b).run P w = .ok (.string y) w) ∧ y.size ≤ a.size + b.size ∧ Hid (y.data.toList = a.data.toList ++ b.data.toList) :=
  ⟨a ++ b, fun w => run_string_add_sum w _ _ h, by rw [ByteArray.size_append]; exact Nat.le_refl _, by show _ = _; simp [ByteArray.data_append]⟩
theorem suffix_len {l p : List UInt8} (h : Lib.hasSuffix l p = true) : p.length ≤ l.length := by
  rw [← Lib.hasSuffix_of_drop] at h
  simp at h; exact h.1
theorem encL_of {r : Nat} {e : ByteArray} (he : Utf8.encode r = e) : encL r = e.toList := by rw [← he, encL]
end Go.Proofs.YtlmcglaajmjanaaGreatDoor

namespace Go.Proofs.YtlmcglaajmjanaaGreatDoor
open Go.RowKit
theorem valid_ascii (b : Nat) (h : b < 128) : Utf8.valid (b : Int) = true := by
  unfold Utf8.valid
  rw [Bool.or_eq_true, Bool.and_eq_true, decide_eq_true_eq, decide_eq_true_eq]
  left
  exact ⟨Int.natCast_nonneg _, by omega⟩
theorem encode_valid (r : Int) (c : Nat) (hc : r.toNat = c) (h : Utf8.valid r = true) : Utf8.encode r =
    if c < 0x80 then ⟨#[UInt8.ofNat c]⟩
    else if c < 0x800 then ⟨#[UInt8.ofNat (0xC0 + c / 64), UInt8.ofNat (0x80 + c % 64)]⟩
    else if c < 0x10000 then ⟨#[UInt8.ofNat (0xE0 + c / 4096), UInt8.ofNat (0x80 + c / 64 % 64), UInt8.ofNat (0x80 + c % 64)]⟩
    else ⟨#[UInt8.ofNat (0xF0 + c / 262144), UInt8.ofNat (0x80 + c / 4096 % 64), UInt8.ofNat (0x80 + c / 64 % 64), UInt8.ofNat (0x80 + c % 64)]⟩ := by
  unfold Utf8.encode
  generalize Utf8.valid r = v at h
  subst h
  subst hc
  rfl
theorem encode_ascii (b : Nat) (h : b < 128) : Utf8.encode (b : Int) = ⟨#[UInt8.ofNat b]⟩ := by
  exact (encode_valid (b : Int) b (Int.toNat_natCast b) (valid_ascii b h)).trans (if_pos h)
theorem encL_ascii (b : Nat) (h : b < 128) : encL b = [UInt8.ofNat b] := (encL_of (encode_ascii b h)).trans (by rw [Lib.toList_data])
def Asc (l : List UInt8) : Prop := ∀ b ∈ l, b.toNat < 128
theorem runesF_ascii (l : List UInt8) (h : Asc l) : ∀ (d pos : Nat), pos + d = l.length → runesF ⟨l.toArray⟩ d pos = (l.drop pos).map (·.toNat) := by
  intro d
  induction d with
  | zero => intro pos hp; rw [List.drop_of_length_le (by omega)]; rfl
  | succ d ih =>
    intro pos hp
    have hs : (ByteArray.mk l.toArray).size = l.length := by simp [ByteArray.size]
    have hlt : pos < (ByteArray.mk l.toArray).size := by rw [hs]; omega
    simp only [runesF]
    rw [if_pos hlt]
    have hg : (ByteArray.mk l.toArray)[pos]'hlt = l[pos]'(by omega) := by simp [ByteArray.getElem_eq_getElem_data]
    have hd := decode_ascii ⟨l.toArray⟩ pos hlt (by rw [hg]; exact h _ (List.getElem_mem _))
    rw [hd, ih (pos + 1) (by omega), List.drop_eq_getElem_cons (show pos < l.length by omega), List.map_cons, hg]
theorem runesL_ascii (l : List UInt8) (h : Asc l) : runesL l = l.map (·.toNat) := by
  unfold runesL runes
  have hs : (ByteArray.mk l.toArray).size = l.length := by simp [ByteArray.size]
  rw [hs, runesF_ascii l h l.length 0 (by omega)]; rfl
theorem escR_ascii (b : Nat) (h : b < 128) : escR b = [UInt8.ofNat b] := by
  unfold escR
  rw [encL_ascii b h]
  simp [isMk, mkS, mkE, mkH]
theorem escL_ascii (l : List UInt8) (h : Asc l) : escL (l.map (·.toNat)) = l := by
  induction l with
  | nil => rfl
  | cons b l ih =>
    simp only [List.map_cons, escL]
    rw [escR_ascii _ (h b (List.mem_cons_self ..)), ih (fun x hx => h x (List.mem_cons_of_mem _ hx))]
    simp
theorem escB_ascii (l : List UInt8) (h : Asc l) : escB l = l := by unfold escB; rw [runesL_ascii l h, escL_ascii l h]
theorem uns_ascii (l : List UInt8) (h : Asc l) (hn : (10 : UInt8) ∉ l) : ∀ acc, (l.map (·.toNat)).foldl unsStep (acc, false) = (acc ++ l, false) := by
  induction l with
  | nil => intro acc; simp
  | cons b l ih =>
    intro acc
    have hb : b.toNat ≠ 10 := by
      intro hb
      apply hn
      have : b = 10 := UInt8.toNat_inj.1 hb
      rw [this]; exact List.mem_cons_self ..
    have hst : unsStep (acc, false) b.toNat = (acc ++ [b], false) := by
      unfold unsStep
      have hb' : (b.toNat == 10) = false := by simp [hb]
      rw [encL_ascii _ (h b (List.mem_cons_self ..))]
      simp [hb']
    simp only [List.map_cons, List.foldl_cons]
    rw [hst, ih (fun x hx => h x (List.mem_cons_of_mem _ hx)) (fun hx => hn (List.mem_cons_of_mem _ hx))]
    simp
theorem unsafeL_ascii (l : List UInt8) (h : Asc l) (hn : (10 : UInt8) ∉ l) (h0 : l ≠ []) : unsafeL [] l = mkS ++ l ++ mkE := by
  unfold unsafeL
  rw [if_neg h0, escB_ascii l h, runesL_ascii l h, uns_ascii l h hn]
  rfl
/-- Digits. -/
theorem digsF_mem : ∀ (f n : Nat) (b : UInt8), b ∈ digsF f n → 48 ≤ b.toNat ∧ b.toNat ≤ 57 := by
  intro f
  induction f with
  | zero => intro n b h; cases h
  | succ f ih =>
    intro n b h
    rw [digsF_succ, List.mem_append] at h
    rcases h with h | h
    · split at h
      · cases h
      · exact ih _ _ h
    · simp at h
      subst h
      have : n % 10 < 10 := Nat.mod_lt _ (by omega)
      simp; omega
theorem digsF_len : ∀ (f n : Nat), (digsF f n).length ≤ f ∧ (0 < f → 1 ≤ (digsF f n).length) := by
  intro f
  induction f with
  | zero => intro n; simp [digsF]
  | succ f ih =>
    intro n
    rw [digsF_succ]
    have := (ih (n / 10)).1
    split <;> simp; omega
theorem digs_ascii (n : Nat) : Asc (digs n) := fun b hb => by have := digsF_mem _ _ b hb; omega
theorem digs_line (n : Nat) : (10 : UInt8) ∉ digs n := fun hb => by have := digsF_mem _ _ _ hb; simp at this
theorem digs_ne (n : Nat) : digs n ≠ [] := by have := (digsF_len 20 n).2 (by omega); intro h; unfold digs at h; rw [h] at this; simp at this
theorem digs_len (n : Nat) : (digs n).length ≤ 20 := (digsF_len 20 n).1
end Go.Proofs.YtlmcglaajmjanaaGreatDoor

namespace Go.Proofs.YtlmcglaajmjanaaGreatDoor
open Go.RowKit
def Sc (r : Nat) : Prop := r < 55296 ∨ (57344 ≤ r ∧ r ≤ 1114111)
def Scs (rs : List Nat) : Prop := ∀ r ∈ rs, Sc r
def encs (rs : List Nat) : List UInt8 := rs.flatMap encL
theorem encs_nil : encs [] = [] := rfl
theorem encs_cons (r : Nat) (rs : List Nat) : encs (r :: rs) = encL r ++ encs rs := rfl
theorem encs_append (a b : List Nat) : encs (a ++ b) = encs a ++ encs b := by unfold encs; simp
theorem encs_one (r : Nat) : encs [r] = encL r := by unfold encs; simp
theorem Scs.nil : Scs [] := fun _ h => by cases h
theorem Scs.cons {r : Nat} {rs : List Nat} (h : Sc r) (k : Scs rs) : Scs (r :: rs) := fun x hx => by
  rcases List.mem_cons.1 hx with rfl | hx
  · exact h
  · exact k x hx
theorem Scs.head {r : Nat} {rs : List Nat} (h : Scs (r :: rs)) : Sc r := h r (List.mem_cons_self ..)
theorem Scs.tail {r : Nat} {rs : List Nat} (h : Scs (r :: rs)) : Scs rs := fun x hx => h x (List.mem_cons_of_mem _ hx)
theorem Scs.append {a b : List Nat} (h : Scs a) (k : Scs b) : Scs (a ++ b) := fun x hx => by
  rcases List.mem_append.1 hx with hx | hx
  · exact h x hx
  · exact k x hx
theorem Scs.left {a b : List Nat} (h : Scs (a ++ b)) : Scs a := fun x hx => h x (List.mem_append_left _ hx)
theorem Scs.right {a b : List Nat} (h : Scs (a ++ b)) : Scs b := fun x hx => h x (List.mem_append_right _ hx)
theorem valid_sc {r : Nat} (h : Sc r) : Utf8.valid (r : Int) = true := by
  unfold Utf8.valid
  rw [Bool.or_eq_true, Bool.and_eq_true, Bool.and_eq_true, decide_eq_true_eq, decide_eq_true_eq, decide_eq_true_eq, decide_eq_true_eq]
  unfold Sc at h
  omega
theorem encL_shape {r : Nat} (h : Sc r) :
    (r < 128 ∧ encL r = [UInt8.ofNat r]) ∨
    (128 ≤ r ∧ r < 2048 ∧ encL r = [UInt8.ofNat (192 + r / 64), UInt8.ofNat (128 + r % 64)]) ∨
    (2048 ≤ r ∧ r < 65536 ∧ encL r = [UInt8.ofNat (224 + r / 4096), UInt8.ofNat (128 + r / 64 % 64), UInt8.ofNat (128 + r % 64)]) ∨
    (65536 ≤ r ∧ r ≤ 1114111 ∧ encL r = [UInt8.ofNat (240 + r / 262144), UInt8.ofNat (128 + r / 4096 % 64), UInt8.ofNat (128 + r / 64 % 64), UInt8.ofNat (128 + r % 64)]) := by
  have e := encode_valid (r : Int) r (Int.toNat_natCast r) (valid_sc h)
  unfold Sc at h
  by_cases h1 : r < 128
  · rw [if_pos (by simpa using h1)] at e
    exact .inl ⟨h1, (encL_of e).trans (by rw [Lib.toList_data])⟩
  rw [if_neg (by simpa using h1)] at e
  by_cases h2 : r < 2048
  · rw [if_pos (by simpa using h2)] at e
    exact .inr (.inl ⟨by omega, h2, (encL_of e).trans (by rw [Lib.toList_data])⟩)
  rw [if_neg (by simpa using h2)] at e
  by_cases h3 : r < 65536
  · rw [if_pos (by simpa using h3)] at e
    exact .inr (.inr (.inl ⟨by omega, h3, (encL_of e).trans (by rw [Lib.toList_data])⟩))
  rw [if_neg (by simpa using h3)] at e
  exact .inr (.inr (.inr ⟨by omega, by omega, (encL_of e).trans (by rw [Lib.toList_data])⟩))
theorem byte_nat {n : Nat} (h : n < 256) : (UInt8.ofNat n).toNat = n := by simp; omega
theorem byte_ne {n : Nat} {b : UInt8} (h : n < 256) (hb : n ≠ b.toNat) : UInt8.ofNat n ≠ b := fun e => hb (by rw [← e, byte_nat h])
theorem byte_no {n : Nat} {b : UInt8} (e : UInt8.ofNat n = b) (h : n < 256) (hb : n ≠ b.toNat) : False := byte_ne h hb e
theorem byte_some {n : Nat} {b : UInt8} (e : some (UInt8.ofNat n) = some b) (h : n < 256) (hb : n ≠ b.toNat) : False := byte_no (Option.some.inj e) h hb
/-- What a byte of a rune can be. -/
theorem encL_pos {r : Nat} (h : Sc r) : 0 < (encL r).length := by
  rcases encL_shape h with ⟨_, e⟩ | ⟨_, _, e⟩ | ⟨_, _, e⟩ | ⟨_, _, e⟩ <;> rw [e] <;> simp
theorem encL_len {r : Nat} (h : Sc r) : (encL r).length ≤ 4 := by
  rcases encL_shape h with ⟨_, e⟩ | ⟨_, _, e⟩ | ⟨_, _, e⟩ | ⟨_, _, e⟩ <;> rw [e] <;> simp
theorem decodeL_enc {r : Nat} (h : Sc r) (rest : List UInt8) : Lib.decodeL (encL r ++ rest) = (r, (encL r).length) := by
  rw [Lib.decodeL_N]
  rcases encL_shape h with ⟨h1, e⟩ | ⟨h1, h2, e⟩ | ⟨h1, h2, e⟩ | ⟨h1, h2, e⟩
  all_goals
    rw [e]
    unfold Sc at h
    unfold Lib.decodeN
    simp only [List.cons_append, List.nil_append, List.length_cons, List.length_nil, List.getD_cons_zero, List.getD_cons_succ]
  · rw [byte_nat (by omega), if_pos h1]
  · rw [byte_nat (show 192 + r / 64 < 256 by omega), byte_nat (show 128 + r % 64 < 256 by omega)]
    rw [if_neg (by omega), if_pos (by omega), if_pos (by omega)]
    congr 1; omega
  · rw [byte_nat (show 224 + r / 4096 < 256 by omega), byte_nat (show 128 + r / 64 % 64 < 256 by omega), byte_nat (show 128 + r % 64 < 256 by omega)]
    rw [if_neg (by omega), if_neg (by omega), if_pos (by omega), if_pos (by omega)]
    congr 1; omega
  · rw [byte_nat (show 240 + r / 262144 < 256 by omega), byte_nat (show 128 + r / 4096 % 64 < 256 by omega), byte_nat (show 128 + r / 64 % 64 < 256 by omega), byte_nat (show 128 + r % 64 < 256 by omega)]
    rw [if_neg (by omega), if_neg (by omega), if_neg (by omega), if_pos (by omega), if_pos (by omega)]
    congr 1; omega
theorem runesAt_encs : ∀ (rs : List Nat) (pre : List UInt8), Scs rs → RunesAt ⟨(pre ++ encs rs).toArray⟩ pre.length rs := by
  intro rs
  induction rs with
  | nil =>
    intro pre _
    unfold RunesAt
    exact runesF_end _ _ (by simp [encs_nil, ByteArray.size]) _
  | cons r rs ih =>
    intro pre h
    have hpos := encL_pos h.head
    have hs : (ByteArray.mk (pre ++ encs (r :: rs)).toArray).size = pre.length + (encL r).length + (encs rs).length := by simp [ByteArray.size, encs_cons]; omega
    have hd : Utf8.decode ⟨(pre ++ encs (r :: rs)).toArray⟩ pre.length = (r, (encL r).length) := by
      rw [← Lib.decodeL_drop]
      have : (ByteArray.mk (pre ++ encs (r :: rs)).toArray).data.toList.drop pre.length = encL r ++ encs rs := by simp [encs_cons]
      rw [this]; exact decodeL_enc h.head _
    unfold RunesAt
    rw [runesF_step _ _ (by rw [hs]; omega), hd]
    have := ih (pre ++ encL r) h.tail
    unfold RunesAt at this
    rw [List.length_append, List.append_assoc, ← encs_cons] at this
    rw [this]
theorem runesL_encs {rs : List Nat} (h : Scs rs) : runesL (encs rs) = rs := by
  have := runesAt_encs rs [] h
  unfold runesL
  rw [← RunesAt.start]
  exact this
theorem encodeRune_encL {r : Nat} (h : Sc r) : Lib.encodeRune (r : Int) = encL r := by
  unfold Lib.encodeRune
  rcases encL_shape h with ⟨h1, e⟩ | ⟨h1, h2, e⟩ | ⟨h1, h2, e⟩ | ⟨h1, h2, e⟩
  · rw [Lib.encodeRuneZ_one (by omega) (by omega), e]; simp
  · rw [Lib.encodeRuneZ_two (by omega) (by omega), e]
    simp only [List.map_cons, List.map_nil]
    rw [show ((192 : Int) + (r : Int) / 64).toNat = 192 + r / 64 by omega, show ((128 : Int) + (r : Int) % 64).toNat = 128 + r % 64 by omega]
  · unfold Sc at h
    rw [Lib.encodeRuneZ_three (by omega), e]
    simp only [List.map_cons, List.map_nil]
    rw [show ((224 : Int) + (r : Int) / 4096).toNat = 224 + r / 4096 by omega, show ((128 : Int) + (r : Int) / 64 % 64).toNat = 128 + r / 64 % 64 by omega, show ((128 : Int) + (r : Int) % 64).toNat = 128 + r % 64 by omega]
  · rw [Lib.encodeRuneZ_four (by omega) (by omega), e]
    simp only [List.map_cons, List.map_nil]
    rw [show ((240 : Int) + (r : Int) / 262144).toNat = 240 + r / 262144 by omega, show ((128 : Int) + (r : Int) / 4096 % 64).toNat = 128 + r / 4096 % 64 by omega, show ((128 : Int) + (r : Int) / 64 % 64).toNat = 128 + r / 64 % 64 by omega, show ((128 : Int) + (r : Int) % 64).toNat = 128 + r % 64 by omega]
theorem decodeL_sc (l : List UInt8) (h0 : (Lib.decodeL l).1 ≠ 65533) : Sc (Lib.decodeL l).1 := by
  have h := h0
  unfold Sc
  rw [Lib.decodeL_N] at h ⊢
  have k0 := (l.getD 0 0).toNat_lt
  have k1 := (l.getD 1 0).toNat_lt
  have k2 := (l.getD 2 0).toNat_lt
  have k3 := (l.getD 3 0).toNat_lt
  rcases Lib.decodeN_shape l.length (l.getD 0 0).toNat (l.getD 1 0).toNat (l.getD 2 0).toNat (l.getD 3 0).toNat with ⟨c, e⟩ | ⟨c1, c2, c3, cv, e⟩ | ⟨c1, c2, c3, c4, cv, cs, e⟩ | ⟨c1, c2, c3, c4, c5, cv, cw, e⟩ | e
  all_goals (rw [e] at h ⊢; dsimp only at h ⊢; omega)
/-- A text without U+FFFD is the bytes of its runes. -/
theorem plain_at (s : ByteArray) : ∀ (n pos : Nat) (rest : List Nat), s.size - pos ≤ n → RunesAt s pos rest → (∀ r ∈ rest, r ≠ 65533) → Scs rest ∧ s.data.toList.drop pos = encs rest := by
  intro n
  induction n with
  | zero =>
    intro pos rest hn hr _
    have := hr.stop (by omega)
    subst this
    exact ⟨Scs.nil, List.drop_of_length_le (by rw [← Lib.size_eq]; omega)⟩
  | succ n ih =>
    intro pos rest hn hr h
    by_cases hp : pos < s.size
    · obtain ⟨rest', rfl, hr'⟩ := hr.step hp
      have hadv := decode_adv s pos hp
      have hne : s.data.toList.drop pos ≠ [] := by
        intro h0
        have := congrArg List.length h0
        rw [List.length_drop, ← Lib.size_eq] at this
        simp at this; omega
      have h1 := h _ (List.mem_cons_self ..)
      rw [← Lib.decodeL_drop] at h1
      have hsc := decodeL_sc _ h1
      have hen := Lib.encode_decode _ hne (fun hh => h1 hh.1)
      rw [encodeRune_encL hsc, Lib.decodeL_drop] at hen
      rw [Lib.decodeL_drop] at hsc
      obtain ⟨k1, k2⟩ := ih _ _ (by omega) hr' (fun x hx => h x (List.mem_cons_of_mem _ hx))
      refine ⟨k1.cons hsc, ?_⟩
      rw [encs_cons, hen, ← k2, ← List.drop_drop]
      exact (List.take_append_drop _ _).symm
    · have := hr.stop hp
      subst this
      exact ⟨Scs.nil, List.drop_of_length_le (by rw [← Lib.size_eq]; omega)⟩
theorem plain_encs {l : List UInt8} (h : ∀ r ∈ runesL l, r ≠ 65533) : Scs (runesL l) ∧ l = encs (runesL l) := by
  have := plain_at ⟨l.toArray⟩ _ 0 _ (Nat.le_refl _) (RunesAt.start _) h
  have h2 := this.2
  rw [List.drop_zero] at h2
  exact ⟨this.1, h2⟩
/-- The markers' runes. -/
def rS : Nat := 8249
def rE : Nat := 8250
def rH : Nat := 8224
def isM (r : Nat) : Bool := r == 8249 || r == 8250 || r == 8224
theorem scS : Sc 8249 := by unfold Sc; omega
theorem scE : Sc 8250 := by unfold Sc; omega
theorem scH : Sc 8224 := by unfold Sc; omega
theorem encS : encL 8249 = mkS := by
  rcases encL_shape scS with ⟨_, _⟩ | ⟨_, _, _⟩ | ⟨_, _, e⟩ | ⟨_, _, _⟩
  · omega
  · omega
  · rw [e]; rfl
  · omega
theorem encE : encL 8250 = mkE := by
  rcases encL_shape scE with ⟨_, _⟩ | ⟨_, _, _⟩ | ⟨_, _, e⟩ | ⟨_, _, _⟩
  · omega
  · omega
  · rw [e]; rfl
  · omega
theorem encH : encL 8224 = mkH := by
  rcases encL_shape scH with ⟨_, _⟩ | ⟨_, _, _⟩ | ⟨_, _, e⟩ | ⟨_, _, _⟩
  · omega
  · omega
  · rw [e]; rfl
  · omega
theorem encX : encs [8249, 215, 8250] = mkX := by
  have : encL 215 = [195, 151] := by
    rcases encL_shape (show Sc 215 by unfold Sc; omega) with ⟨_, _⟩ | ⟨_, _, e⟩ | ⟨_, _, _⟩ | ⟨_, _, _⟩
    · omega
    · rw [e]; rfl
    · omega
    · omega
  simp only [encs_cons, encs_nil, encS, encE, this]; rfl
theorem encL_inj {a b : Nat} (ha : Sc a) (hb : Sc b) (h : encL a = encL b) : a = b := by
  have h1 := decodeL_enc ha []
  rw [h, decodeL_enc hb []] at h1
  exact (congrArg Prod.fst h1).symm
theorem isMk_iff (l : List UInt8) : isMk l = true ↔ l = mkS ∨ l = mkE ∨ l = mkH := by simp [isMk, or_assoc]
theorem isM_iff (r : Nat) : isM r = true ↔ r = 8249 ∨ r = 8250 ∨ r = 8224 := by simp [isM, or_assoc]
theorem isMk_enc {r : Nat} (h : Sc r) : isMk (encL r) = isM r := by
  rw [Bool.eq_iff_iff, isMk_iff, isM_iff, ← encS, ← encE, ← encH]
  constructor
  · rintro (e | e | e)
    · exact .inl (encL_inj h scS e)
    · exact .inr (.inl (encL_inj h scE e))
    · exact .inr (.inr (encL_inj h scH e))
  · rintro (rfl | rfl | rfl) <;> simp
theorem isMk_head {t : List UInt8} (h : isMk (t.take 3) = true) : t.head? = some 226 := by
  rw [isMk_iff] at h
  cases t with
  | nil => simp [mkS, mkE, mkH] at h
  | cons x t =>
    have : x = 226 := by
      rcases h with h | h | h
      all_goals
        have := congrArg List.head? h
        simpa [mkS, mkE, mkH] using this
    rw [this]; rfl
theorem take3_enc {r : Nat} (h : Sc r) (h3 : 2048 ≤ r ∧ r < 65536) (rest : List UInt8) : (encL r ++ rest).take 3 = encL r := by
  rcases encL_shape h with ⟨_, _⟩ | ⟨_, _, _⟩ | ⟨_, _, e⟩ | ⟨_, _, _⟩
  · omega
  · omega
  · rw [e]; rfl
  · omega
/-- No marker begins within the bytes of a rune that is none. -/
theorem noMk_in {r : Nat} (h : Sc r) (hn : isM r = false) (rest : List UInt8) : ∀ i, i < (encL r).length → isMk (((encL r ++ rest).drop i).take 3) = false := by
  intro i hi
  cases hm : isMk (((encL r ++ rest).drop i).take 3) with
  | false => rfl
  | true =>
    exfalso
    have hh := isMk_head hm
    have hs := h
    unfold Sc at hs
    rcases encL_shape h with ⟨h1, e⟩ | ⟨h1, h2, e⟩ | ⟨h1, h2, e⟩ | ⟨h1, h2, e⟩
    · rw [e] at hh hi
      simp at hi; subst hi
      exact byte_some hh (by omega) (by show _ ≠ 226; omega)
    · rw [e] at hh hi
      simp at hi
      have : i = 0 ∨ i = 1 := by omega
      rcases this with rfl | rfl
      · exact byte_some hh (by omega) (by show _ ≠ 226; omega)
      · exact byte_some hh (by omega) (by show _ ≠ 226; omega)
    · by_cases h0 : i = 0
      · subst h0
        rw [List.drop_zero, take3_enc h ⟨h1, h2⟩, isMk_enc h, hn] at hm
        cases hm
      · rw [e] at hh hi
        simp at hi
        have : i = 1 ∨ i = 2 := by omega
        rcases this with rfl | rfl
        · exact byte_some hh (by omega) (by show _ ≠ 226; omega)
        · exact byte_some hh (by omega) (by show _ ≠ 226; omega)
    · rw [e] at hh hi
      simp at hi
      have : i = 0 ∨ i = 1 ∨ i = 2 ∨ i = 3 := by omega
      rcases this with rfl | rfl | rfl | rfl
      · exact byte_some hh (by omega) (by show _ ≠ 226; omega)
      · exact byte_some hh (by omega) (by show _ ≠ 226; omega)
      · exact byte_some hh (by omega) (by show _ ≠ 226; omega)
      · exact byte_some hh (by omega) (by show _ ≠ 226; omega)
theorem noNl_in {r : Nat} (h : Sc r) (hn : r ≠ 10) : ∀ x ∈ encL r, x ≠ 10 := by
  intro x hx
  have hs := h
  unfold Sc at hs
  rcases encL_shape h with ⟨h1, e⟩ | ⟨h1, h2, e⟩ | ⟨h1, h2, e⟩ | ⟨h1, h2, e⟩
  all_goals
    rw [e] at hx
    simp only [List.mem_cons, List.not_mem_nil, or_false] at hx
  · rw [hx]; exact byte_ne (by omega) (by show _ ≠ 10; omega)
  · rcases hx with rfl | rfl
    all_goals exact byte_ne (by omega) (by show _ ≠ 10; omega)
  · rcases hx with rfl | rfl | rfl
    all_goals exact byte_ne (by omega) (by show _ ≠ 10; omega)
  · rcases hx with rfl | rfl | rfl | rfl
    all_goals exact byte_ne (by omega) (by show _ ≠ 10; omega)
theorem enc10 : encL 10 = [10] := encL_ascii 10 (by omega)
/-- The end of a text in runes: a marker's bytes stand there just if its rune does. -/
theorem suffix_enc {m : Nat} (hm : m = 8249 ∨ m = 8250) {rs : List Nat} (h : Scs rs) : Lib.hasSuffix (encs rs) (encL m) = (rs.getLast? == some m) := by
  have hmsc : Sc m := by unfold Sc; omega
  have hml : (encL m).length = 3 := by rcases hm with rfl | rfl <;> simp [encS, encE, mkS, mkE]
  rcases List.eq_nil_or_concat rs with rfl | ⟨a, r, rfl⟩
  · cases hb : Lib.hasSuffix (encs []) (encL m) with
    | false => rfl
    | true => have := suffix_len hb; rw [hml] at this; simp [encs_nil] at this
  · rw [List.concat_eq_append] at h ⊢
    have hr : Sc r := h.right r (by simp)
    rw [encs_append, encs_one]
    simp only [List.getLast?_append, List.getLast?_singleton, Option.some_or]
    by_cases hrm : r = m
    · subst hrm
      simp [Lib.hasSuffix]
    · have e1 : (some r == some m) = false := by simp [hrm]
      rw [e1]
      cases hb : Lib.hasSuffix (encs a ++ encL r) (encL m) with
      | false => rfl
      | true =>
        exfalso
        unfold Lib.hasSuffix at hb
        rw [List.isSuffixOf_iff_suffix] at hb
        obtain ⟨pre, hpre⟩ := hb
        have hme : ∃ b : UInt8, encL m = [226, 128, b] := by rcases hm with rfl | rfl <;> simp [encS, encE, mkS, mkE]
        obtain ⟨b, hb⟩ := hme
        have hs := hr
        unfold Sc at hs
        have hrev := congrArg List.reverse hpre
        rw [hb] at hrev
        rcases encL_shape hr with ⟨h1, e⟩ | ⟨h1, h2, e⟩ | ⟨h1, h2, e⟩ | ⟨h1, h2, e⟩
        · have hb3 : encL m = [226, 128, UInt8.ofNat r] := by rw [e] at hrev; simp only [List.reverse_append, List.reverse_cons, List.reverse_nil, List.nil_append, List.cons_append, List.cons.injEq] at hrev; rw [hb, hrev.1]
          have := decodeL_enc hmsc []
          rcases encL_shape hmsc with ⟨k1, _⟩ | ⟨_, k2, _⟩ | ⟨k1, k2, ke⟩ | ⟨k1, _, _⟩
          · omega
          · omega
          · rw [ke] at hb3
            simp only [List.cons.injEq, and_true] at hb3
            have := congrArg UInt8.toNat hb3.2.2
            rw [byte_nat (by omega), byte_nat (by omega)] at this
            omega
          · omega
        · rw [e] at hrev
          simp only [List.reverse_append, List.reverse_cons, List.reverse_nil, List.nil_append, List.cons_append, List.cons.injEq] at hrev
          have := hrev.2.1
          exact byte_no this.symm (by omega) (by show _ ≠ 128; omega)
        · rw [e] at hrev
          simp only [List.reverse_append, List.reverse_cons, List.reverse_nil, List.nil_append, List.cons_append, List.cons.injEq] at hrev
          apply hrm
          apply encL_inj hr hmsc
          rw [hb, e, ← hrev.1, ← hrev.2.1, ← hrev.2.2.1]
        · rw [e] at hrev
          simp only [List.reverse_append, List.reverse_cons, List.reverse_nil, List.nil_append, List.cons_append, List.cons.injEq] at hrev
          have := hrev.2.2.1
          exact byte_no this.symm (by omega) (by show _ ≠ 226; omega)
theorem take_enc3 {m : Nat} (hm : m = 8249 ∨ m = 8250) {rs : List Nat} (hl : rs.getLast? = some m) : (encs rs).take ((encs rs).length - 3) = encs rs.dropLast := by
  obtain ⟨a, rfl⟩ : ∃ a, rs = a ++ [m] := by
    rcases List.eq_nil_or_concat rs with rfl | ⟨a, r, rfl⟩
    · cases hl
    · rw [List.concat_eq_append] at hl ⊢; simp at hl; exact ⟨a, by rw [hl]⟩
  have hml : (encL m).length = 3 := by rcases hm with rfl | rfl <;> simp [encS, encE, mkS, mkE]
  rw [encs_append, encs_one, List.dropLast_concat, List.length_append, hml, Nat.add_sub_cancel]
  exact List.take_left' rfl
end Go.Proofs.YtlmcglaajmjanaaGreatDoor

namespace Go.Proofs.YtlmcglaajmjanaaGreatDoor
open Go.RowKit
/-- A text ends in a byte that is no rune's end. -/
def badEnd (l : List UInt8) : Bool := (Lib.decodeLastL l).2 == 1 && (Lib.decodeLastL l).1 == 65533
def escF : Nat → Bool → List UInt8 → List UInt8 → List UInt8
  | 0, _, out, _ => out
  | _ + 1, _, out, [] => out
  | f + 1, brk, out, x :: xs =>
    if brk && x == 10 then escF f brk ((if Lib.hasSuffix out mkS then out.take (out.length - 3) else out ++ mkE) ++ (x :: xs).takeWhile (· == 10) ++ mkS) ((x :: xs).dropWhile (· == 10))
    else if isMk ((x :: xs).take 3) then escF f brk (out ++ [63]) ((x :: xs).drop 3)
    else escF f brk (out ++ [x]) xs
/-- out, and behind it what rest is escaped to. -/
def escGo (brk : Bool) (out rest : List UInt8) : List UInt8 := escF rest.length brk out rest
theorem dropWhile_le (p : UInt8 → Bool) : ∀ l : List UInt8, (l.dropWhile p).length ≤ l.length := by
  intro l
  induction l with
  | nil => simp
  | cons x l ih =>
    simp only [List.dropWhile]
    split
    · simp; omega
    · simp
theorem escF_more : ∀ (f g : Nat) (brk : Bool) (out rest : List UInt8), rest.length ≤ f → rest.length ≤ g → escF f brk out rest = escF g brk out rest := by
  intro f
  induction f with
  | zero =>
    intro g brk out rest h _
    have : rest = [] := List.eq_nil_of_length_eq_zero (by omega)
    subst this
    cases g <;> rfl
  | succ f ih =>
    intro g brk out rest h h'
    cases g with
    | zero =>
      have : rest = [] := List.eq_nil_of_length_eq_zero (by omega)
      subst this; rfl
    | succ g =>
      cases rest with
      | nil => rfl
      | cons x xs =>
        simp only [escF]
        simp at h h'
        split
        · rename_i hx
          have hx10 : (x == 10) = true := by simp at hx; simp [hx.2]
          have : ((x :: xs).dropWhile (· == 10)).length ≤ xs.length := by simp only [List.dropWhile, hx10]; exact dropWhile_le _ _
          exact ih g _ _ _ (by omega) (by omega)
        · split
          · exact ih g _ _ _ (by simp; omega) (by simp; omega)
          · exact ih g _ _ _ h h'
theorem escGo_nil (brk : Bool) (out : List UInt8) : escGo brk out [] = out := rfl
theorem escGo_nl {rest : List UInt8} (out : List UInt8) (h : rest.head? = some 10) :
    escGo true out rest = escGo true ((if Lib.hasSuffix out mkS then out.take (out.length - 3) else out ++ mkE) ++ rest.takeWhile (· == 10) ++ mkS) (rest.dropWhile (· == 10)) := by
  cases rest with
  | nil => simp at h
  | cons x xs =>
    simp at h; subst h
    unfold escGo
    have : ((10 :: xs).dropWhile (· == 10)).length ≤ xs.length := by simp only [List.dropWhile]; exact dropWhile_le _ _
    show (if _ then _ else _) = _
    rw [if_pos (by rfl)]
    exact escF_more _ _ _ _ _ this (Nat.le_refl _)
theorem escGo_mk {brk : Bool} {rest : List UInt8} (out : List UInt8) (h : (brk && rest.head? == some 10) = false) (hm : isMk (rest.take 3) = true) : escGo brk out rest = escGo brk (out ++ [63]) (rest.drop 3) := by
  cases rest with
  | nil => simp [isMk, mkS, mkE, mkH] at hm
  | cons x xs =>
    unfold escGo
    show (if _ then _ else _) = _
    rw [if_neg (by simpa using h), if_pos hm]
    exact escF_more _ _ _ _ _ (by simp) (Nat.le_refl _)
theorem escGo_plain {brk : Bool} {x : UInt8} {xs : List UInt8} (out : List UInt8) (h : (brk && x == 10) = false) (hm : isMk ((x :: xs).take 3) = false) : escGo brk out (x :: xs) = escGo brk (out ++ [x]) xs := by
  unfold escGo
  show (if _ then _ else _) = _
  rw [if_neg (by simpa using h), if_neg (by simpa using hm)]
/-- The text of a buffer behind escapeToEnd. -/
def escT (l : List UInt8) (vu : Nat) (brk : Bool) : List UInt8 := escGo brk (l.take vu) (l.drop vu)
def openL (l : List UInt8) : List UInt8 := if Lib.hasSuffix l mkE then l.take (l.length - 3) else l ++ mkS
def closeL (l : List UInt8) : List UInt8 := if Lib.hasSuffix l mkS then l.take (l.length - 3) else l ++ mkE
/-- No start marker with a hash's mark behind it. -/
def NoHash (l : List UInt8) : Prop := ∀ i, (l.drop i).take 3 = mkS → (l.drop (i + 3)).take 3 ≠ mkH

/-! ### on runes -/
def openN (o : List Nat) : List Nat := if o.getLast? == some 8250 then o.dropLast else o ++ [8249]
def closeN (o : List Nat) : List Nat := if o.getLast? == some 8249 then o.dropLast else o ++ [8250]
def escN (r : Nat) : Nat := if isM r then 63 else r
def unsN (st : List Nat × Bool) (r : Nat) : List Nat × Bool :=
  ((if r == 10 && !st.2 then closeN st.1 else if r != 10 && st.2 then st.1 ++ [8249] else st.1) ++ [r], r == 10)
def finN (st : List Nat × Bool) : List Nat := if st.2 then st.1 else st.1 ++ [8250]
def unsafeN (o s : List Nat) : List Nat := if s = [] then o else finN ((s.map escN).foldl unsN (openN o, false))
theorem sc_lt {r : Nat} (h : r < 128) : Sc r := by unfold Sc; omega
theorem Scs.dropLast {o : List Nat} (h : Scs o) : Scs o.dropLast := fun x hx => h x ((List.dropLast_sublist _).subset hx)
theorem Scs.one {r : Nat} (h : Sc r) : Scs [r] := Scs.nil.cons h
theorem Scs.openN {o : List Nat} (h : Scs o) : Scs (openN o) := by
  unfold Proofs.YtlmcglaajmjanaaGreatDoor.openN; split
  · exact h.dropLast
  · exact h.append (Scs.one scS)
theorem Scs.closeN {o : List Nat} (h : Scs o) : Scs (closeN o) := by
  unfold Proofs.YtlmcglaajmjanaaGreatDoor.closeN; split
  · exact h.dropLast
  · exact h.append (Scs.one scE)
theorem sc_esc {r : Nat} (h : Sc r) : Sc (escN r) := by unfold escN; split; exact sc_lt (by omega); exact h
theorem Scs.esc {s : List Nat} (h : Scs s) : Scs (s.map escN) := fun x hx => by
  obtain ⟨y, hy, rfl⟩ := List.mem_map.1 hx
  exact sc_esc (h y hy)
theorem Scs.unsN {st : List Nat × Bool} {r : Nat} (h : Scs st.1) (hr : Sc r) : Scs (unsN st r).1 := by
  unfold Proofs.YtlmcglaajmjanaaGreatDoor.unsN
  refine Scs.append ?_ (Scs.one hr)
  split
  · exact h.closeN
  · split
    · exact h.append (Scs.one scS)
    · exact h
theorem Scs.fold {s : List Nat} (h : Scs s) : ∀ st : List Nat × Bool, Scs st.1 → Scs (s.foldl Proofs.YtlmcglaajmjanaaGreatDoor.unsN st).1 := by
  induction s with
  | nil => intro st hs; exact hs
  | cons r s ih => intro st hs; exact ih h.tail _ (hs.unsN h.head)
theorem Scs.unsafeN {o s : List Nat} (h : Scs o) (k : Scs s) : Scs (unsafeN o s) := by
  unfold Proofs.YtlmcglaajmjanaaGreatDoor.unsafeN
  split
  · exact h
  · have := Scs.fold k.esc (Proofs.YtlmcglaajmjanaaGreatDoor.openN o, false) h.openN
    unfold finN
    split
    · exact this
    · exact this.append (Scs.one scE)
theorem openL_enc {o : List Nat} (h : Scs o) : openL (encs o) = encs (openN o) := by
  have := suffix_enc (m := 8250) (.inr rfl) h
  rw [encE] at this
  unfold openL openN
  rw [this]
  by_cases hl : o.getLast? = some 8250
  · rw [if_pos (by simp [hl]), if_pos (by simp [hl]), take_enc3 (.inr rfl) hl]
  · rw [if_neg (by simp [hl]), if_neg (by simp [hl]), encs_append, encs_one, encS]
theorem closeL_enc {o : List Nat} (h : Scs o) : closeL (encs o) = encs (closeN o) := by
  have := suffix_enc (m := 8249) (.inl rfl) h
  rw [encS] at this
  unfold closeL closeN
  rw [this]
  by_cases hl : o.getLast? = some 8249
  · rw [if_pos (by simp [hl]), if_pos (by simp [hl]), take_enc3 (.inl rfl) hl]
  · rw [if_neg (by simp [hl]), if_neg (by simp [hl]), encs_append, encs_one, encE]
theorem encL63 : encL 63 = [63] := encL_ascii 63 (by omega)
theorem escR_enc {r : Nat} (h : Sc r) : escR r = encL (escN r) := by
  unfold escR escN
  rw [isMk_enc h]
  split
  · exact encL63.symm
  · rfl
theorem escL_enc {s : List Nat} (h : Scs s) : escL s = encs (s.map escN) := by
  induction s with
  | nil => rfl
  | cons r s ih => simp only [escL, List.map_cons, encs_cons]; rw [escR_enc h.head, ih h.tail]
theorem escB_enc {s : List Nat} (h : Scs s) : escB (encs s) = encs (s.map escN) := by unfold escB; rw [runesL_encs h, escL_enc h]
theorem unsStep_enc {o : List Nat} (h : Scs o) (ln : Bool) (r : Nat) : unsStep (encs o, ln) r = (encs (unsN (o, ln) r).1, (unsN (o, ln) r).2) := by
  unfold unsStep unsN
  have hc := closeL_enc h
  unfold closeL at hc
  simp only [hc, encs_append, encs_one]
  congr 2
  split
  · rfl
  · split
    · rw [encs_append, encs_one, encS]
    · rfl
theorem unsFold_enc : ∀ (s o : List Nat) (ln : Bool), Scs s → Scs o → s.foldl unsStep (encs o, ln) = (encs (s.foldl unsN (o, ln)).1, (s.foldl unsN (o, ln)).2) := by
  intro s
  induction s with
  | nil => intro o ln _ _; rfl
  | cons r s ih =>
    intro o ln hs ho
    simp only [List.foldl_cons]
    rw [unsStep_enc ho]
    exact ih _ _ hs.tail (Scs.unsN (st := (o, ln)) ho hs.head)
theorem unsFin_enc (o : List Nat) (ln : Bool) : unsFin (encs o, ln) = encs (finN (o, ln)) := by
  unfold unsFin finN
  cases ln
  · simp only [Bool.false_eq_true, if_false]; rw [encs_append, encs_one, encE]
  · rfl
theorem encs_ne {s : List Nat} (h : Scs s) (hs : s ≠ []) : encs s ≠ [] := by
  cases s with
  | nil => exact absurd rfl hs
  | cons r s =>
    intro h0
    have h1 := congrArg List.length h0
    have h2 := encL_pos h.head
    rw [encs_cons, List.length_append, List.length_nil] at h1
    omega
/-- The reference's Unsafe, on runes. -/
theorem unsafeL_enc {o s : List Nat} (ho : Scs o) (hs : Scs s) : unsafeL (encs o) (encs s) = encs (unsafeN o s) := by
  unfold unsafeL unsafeN
  by_cases h : s = []
  · subst h; rfl
  · rw [if_neg (encs_ne hs h), if_neg h, escB_enc hs, runesL_encs hs.esc]
    have : unsOpen (encs o) = encs (openN o) := openL_enc ho
    rw [this, unsFold_enc _ _ _ hs.esc ho.openN, unsFin_enc]
theorem escGo_bytes {brk : Bool} : ∀ (c out rest : List UInt8), (∀ i, i < c.length → isMk (((c ++ rest).drop i).take 3) = false) → (∀ x ∈ c, (brk && x == 10) = false) → escGo brk out (c ++ rest) = escGo brk (out ++ c) rest := by
  intro c
  induction c with
  | nil => intro out rest _ _; simp
  | cons x c ih =>
    intro out rest h hx
    have h0 := h 0 (by simp)
    rw [List.cons_append, escGo_plain out (hx x (List.mem_cons_self ..)) (by simpa using h0), ih (out ++ [x]) rest (fun i hi => by have := h (i + 1) (by simp; omega); simpa using this) (fun y hy => hx y (List.mem_cons_of_mem _ hy))]
    simp
theorem escGo_rune {brk : Bool} {r : Nat} (h : Sc r) (hb : (brk && r == 10) = false) (out rest : List UInt8) : escGo brk out (encL r ++ rest) = escGo brk (out ++ encL (escN r)) rest := by
  unfold escN
  cases hm : isM r with
  | true =>
    have h3 : 2048 ≤ r ∧ r < 65536 := by rcases (isM_iff r).1 hm with rfl | rfl | rfl <;> omega
    have ht := take3_enc h h3 rest
    have hlen : (encL r).length = 3 := by
      rcases encL_shape h with ⟨_, _⟩ | ⟨_, _, _⟩ | ⟨_, _, e⟩ | ⟨_, _, _⟩
      · omega
      · omega
      · rw [e]; rfl
      · omega
    have hmk : isMk ((encL r ++ rest).take 3) = true := by rw [ht, isMk_enc h, hm]
    have hd : (encL r ++ rest).drop 3 = rest := List.drop_left' hlen
    rw [escGo_mk out (by rw [isMk_head hmk]; simp) hmk, hd, if_pos rfl, encL63]
  | false =>
    rw [if_neg (by simp)]
    refine escGo_bytes _ _ _ (noMk_in h hm rest) (fun x hx => ?_)
    cases brk with
    | false => rfl
    | true => have := noNl_in h (by simpa using hb) x hx; simpa using this
theorem escGo_false : ∀ (s o : List Nat), Scs s → escGo false (encs o) (encs s) = encs (o ++ s.map escN) := by
  intro s
  induction s with
  | nil => intro o _; rw [encs_nil, escGo_nil]; simp
  | cons r s ih =>
    intro o h
    rw [encs_cons, escGo_rune h.head (by rfl), ← encs_one, ← encs_append, ih _ h.tail]
    simp
theorem nl_split : ∀ s : List Nat, ∃ k b, s = List.replicate k 10 ++ b ∧ b.head? ≠ some 10 := by
  intro s
  induction s with
  | nil => exact ⟨0, [], rfl, by simp⟩
  | cons r s ih =>
    by_cases hr : r = 10
    · obtain ⟨k, b, rfl, hb⟩ := ih
      exact ⟨k + 1, b, by rw [hr]; simp [List.replicate_succ], hb⟩
    · exact ⟨0, r :: s, rfl, by simpa using hr⟩
theorem nl_while (e : List UInt8) (he : e.head? ≠ some 10) : ∀ k, (List.replicate k (10 : UInt8) ++ e).takeWhile (· == 10) = List.replicate k 10 ∧ (List.replicate k (10 : UInt8) ++ e).dropWhile (· == 10) = e := by
  intro k
  induction k with
  | zero =>
    cases e with
    | nil => simp
    | cons x e =>
      have : (x == 10) = false := by simpa using he
      exact ⟨by simp [this], by simp [this]⟩
  | succ k ih => simp only [List.replicate_succ, List.cons_append, List.takeWhile, List.dropWhile]; simpa using ih
theorem encs_nl (k : Nat) : encs (List.replicate k 10) = List.replicate k 10 := by
  induction k with
  | zero => rfl
  | succ k ih => rw [List.replicate_succ, encs_cons, enc10, ih]; rfl
theorem encs_head {b : List Nat} (h : Scs b) (hb : b.head? ≠ some 10) : (encs b).head? ≠ some 10 := by
  cases b with
  | nil => simp [encs_nil]
  | cons r b =>
    have hr : r ≠ 10 := by simpa using hb
    have hp := encL_pos h.head
    cases he : encL r with
    | nil => rw [he] at hp; simp at hp
    | cons x t =>
      rw [encs_cons, he]
      have := noNl_in h.head hr x (by rw [he]; exact List.mem_cons_self ..)
      simpa using this
theorem fold_nl : ∀ (k : Nat) (o : List Nat), (List.replicate k 10).foldl unsN (o, true) = (o ++ List.replicate k 10, true) := by
  intro k
  induction k with
  | zero => intro o; simp
  | succ k ih =>
    intro o
    rw [List.replicate_succ, List.foldl_cons]
    have : unsN (o, true) 10 = (o ++ [10], true) := by simp [unsN]
    rw [this, ih]; simp
theorem escN_nl (r : Nat) : (escN r == 10) = (r == 10) := by
  unfold escN
  cases hm : isM r with
  | true => rcases (isM_iff r).1 hm with rfl | rfl | rfl <;> rfl
  | false => simp
theorem escN_S (r : Nat) : escN r ≠ 8249 := by
  unfold escN
  cases hm : isM r with
  | true => simp
  | false => rw [if_neg (by simp)]; rintro rfl; simp [isM] at hm
/-- What is written as unsafe, escaped and closed, is what the reference says. -/
theorem imp_true : ∀ (n : Nat) (s o : List Nat), s.length ≤ n → Scs o → Scs s → (s ≠ [] ∨ o.getLast? ≠ some 8249) → closeL (escGo true (encs o) (encs s)) = encs (finN ((s.map escN).foldl unsN (o, false))) := by
  intro n
  induction n with
  | zero =>
    intro s o hn ho hs hc
    have : s = [] := List.eq_nil_of_length_eq_zero (by omega)
    subst this
    have hl : o.getLast? ≠ some 8249 := by simpa using hc
    rw [encs_nil, escGo_nil, closeL_enc ho]
    unfold closeN
    rw [if_neg (by simpa using hl)]; rfl
  | succ n ih =>
    intro s o hn ho hs hc
    cases s with
    | nil => exact ih [] o (by simp) ho hs hc
    | cons r t =>
      by_cases hr : r = 10
      · obtain ⟨k, b, hkb, hb⟩ := nl_split (r :: t)
        have hk : 0 < k := by
          rcases Nat.eq_zero_or_pos k with rfl | hk
          · simp at hkb; rw [← hkb] at hb; simp [hr] at hb
          · exact hk
        obtain ⟨k, rfl⟩ : ∃ j, k = j + 1 := ⟨k - 1, by omega⟩
        rw [hkb] at hs hn ⊢
        have hbs : Scs b := hs.right
        have hw := nl_while (encs b) (encs_head hbs hb) (k + 1)
        have hhd : (encs (List.replicate (k + 1) 10 ++ b)).head? = some 10 := by rw [encs_append, encs_nl]; rfl
        rw [escGo_nl _ hhd]
        rw [encs_append, encs_nl, hw.1, hw.2]
        have hX : (if Lib.hasSuffix (encs o) mkS then (encs o).take ((encs o).length - 3) else encs o ++ mkE) = encs (closeN o) := closeL_enc ho
        have hF : ((List.replicate (k + 1) 10 ++ b).map escN).foldl unsN (o, false) = (b.map escN).foldl unsN (closeN o ++ List.replicate (k + 1) 10, true) := by
          rw [List.map_append, List.foldl_append, List.map_replicate]
          have : escN 10 = 10 := by simp [escN, isM]
          rw [this, List.replicate_succ, List.foldl_cons]
          have : unsN (o, false) 10 = (closeN o ++ [10], true) := by simp [unsN]
          rw [this, fold_nl]; simp
        rw [hX, hF]
        have hen : encs (closeN o) ++ List.replicate (k + 1) 10 ++ mkS = encs (closeN o ++ List.replicate (k + 1) 10 ++ [8249]) := by rw [encs_append, encs_append, encs_nl, encs_one, encS]
        rw [hen]
        have hnl : Scs (List.replicate (k + 1) 10) := fun x hx => by rw [(List.mem_replicate.1 hx).2]; exact sc_lt (by omega)
        have hsc : Scs (closeN o ++ List.replicate (k + 1) 10) := ho.closeN.append hnl
        cases b with
        | nil =>
          rw [encs_nil, escGo_nil, closeL_enc (hsc.append (Scs.one scS))]
          unfold closeN
          rw [if_pos (by simp)]
          simp [finN]
        | cons q b =>
          have hq : q ≠ 10 := by simpa using hb
          have hq2 : (escN q == 10) = false := by rw [escN_nl]; simpa using hq
          rw [encs_cons, escGo_rune hbs.head (by simpa using hq), ← encs_one, ← encs_append, List.map_cons, List.foldl_cons]
          have : unsN (closeN o ++ List.replicate (k + 1) 10, true) (escN q) = (closeN o ++ List.replicate (k + 1) 10 ++ [8249] ++ [escN q], false) := by
            unfold unsN
            have hq3 : escN q ≠ 10 := by simpa using hq2
            simp [hq3]
          rw [this]
          refine ih b _ ?_ ((hsc.append (Scs.one scS)).append (Scs.one (sc_esc hbs.head))) hbs.tail (.inr ?_)
          · simp at hn; omega
          · simp; exact escN_S q
      · have hr2 : (escN r == 10) = false := by rw [escN_nl]; simpa using hr
        rw [encs_cons, escGo_rune hs.head (by simpa using hr), ← encs_one, ← encs_append, List.map_cons, List.foldl_cons]
        have : unsN (o, false) (escN r) = (o ++ [escN r], false) := by
          unfold unsN
          have hr3 : escN r ≠ 10 := by simpa using hr2
          simp [hr3]
        rw [this]
        refine ih t _ (by simp at hn; omega) (ho.append (Scs.one (sc_esc hs.head))) hs.tail (.inr ?_)
        simp; exact escN_S r
theorem unsafe_impl {o s : List Nat} (ho : Scs o) (hs : Scs s) (hne : s ≠ []) : closeL (escGo true (openL (encs o)) (encs s)) = encs (unsafeN o s) := by
  rw [openL_enc ho, imp_true _ s _ (Nat.le_refl _) ho.openN hs (.inl hne)]
  unfold unsafeN
  rw [if_neg hne]
end Go.Proofs.YtlmcglaajmjanaaGreatDoor

namespace Go.Proofs.YtlmcglaajmjanaaGreatDoor
open Go.RowKit
/-- 0: outside; 1: behind a marker that begins; 2: inside, with something; 3: wrong. -/
def mkQ (q r : Nat) : Nat :=
  if q = 0 then (if r = 8249 then 1 else if r = 8250 ∨ r = 8224 then 3 else 0)
  else if q = 3 then 3
  else if r = 8250 then (if q = 2 then 0 else 3)
  else if r = 8249 ∨ r = 8224 ∨ r = 10 then 3 else 2
def mkS_ (rs : List Nat) : Nat := rs.foldl mkQ 0
def Mk (rs : List Nat) : Prop := mkS_ rs = 0
theorem mkS_append (a b : List Nat) : mkS_ (a ++ b) = b.foldl mkQ (mkS_ a) := by unfold mkS_; rw [List.foldl_append]
theorem mkS_snoc (a : List Nat) (r : Nat) : mkS_ (a ++ [r]) = mkQ (mkS_ a) r := by rw [mkS_append]; rfl
theorem Mk.nil : Mk [] := rfl
theorem Mk.append {a b : List Nat} (ha : Mk a) (hb : Mk b) : Mk (a ++ b) := by unfold Mk at *; rw [mkS_append, ha]; exact hb
theorem mkQ_bad : ∀ s : List Nat, s.foldl mkQ 3 = 3 := by
  intro s
  induction s with
  | nil => rfl
  | cons r s ih => rw [List.foldl_cons]; exact ih
theorem mk_noH : ∀ (s : List Nat) (q : Nat), s.foldl mkQ q = 0 → 8224 ∉ s := by
  intro s
  induction s with
  | nil => intro q _ h; cases h
  | cons r s ih =>
    intro q h hm
    rw [List.foldl_cons] at h
    rcases List.mem_cons.1 hm with rfl | hm
    · have : mkQ q 8224 = 3 := by unfold mkQ; repeat' split <;> simp_all
      rw [this, mkQ_bad] at h; cases h
    · exact ih _ h hm
theorem Mk.noH {o : List Nat} (h : Mk o) : 8224 ∉ o := mk_noH o 0 h
theorem isM_false {r : Nat} (h : isM r = false) : r ≠ 8249 ∧ r ≠ 8250 ∧ r ≠ 8224 := by simpa [isM, and_assoc] using h
theorem fold_safe : ∀ s : List Nat, (∀ r ∈ s, isM r = false) → s.foldl mkQ 0 = 0 := by
  intro s
  induction s with
  | nil => intro _; rfl
  | cons r s ih =>
    intro h
    obtain ⟨h1, h2, h3⟩ := isM_false (h r (List.mem_cons_self ..))
    rw [List.foldl_cons]
    have : mkQ 0 r = 0 := by simp [mkQ, h1, h2, h3]
    rw [this]; exact ih fun x hx => h x (List.mem_cons_of_mem _ hx)
theorem Mk.safe {s : List Nat} (h : ∀ r ∈ s, isM r = false) : Mk s := fold_safe s h
theorem mkQ_lt {q r : Nat} (_hq : q ≤ 3) : mkQ q r ≤ 3 := by unfold mkQ; (repeat' split) <;> omega
theorem foldQ_le : ∀ (s : List Nat) (q : Nat), q ≤ 3 → s.foldl mkQ q ≤ 3 := by
  intro s
  induction s with
  | nil => intro q h; exact h
  | cons r s ih => intro q h; exact ih _ (mkQ_lt h)
theorem mkS_le (s : List Nat) : mkS_ s ≤ 3 := foldQ_le s 0 (by omega)
theorem mkQ_S {q : Nat} (hq : q ≤ 3) (h : mkQ q 8249 ≠ 3) : q = 0 ∧ mkQ q 8249 = 1 := by
  have : q = 0 ∨ q = 1 ∨ q = 2 ∨ q = 3 := by omega
  rcases this with rfl | rfl | rfl | rfl <;> simp [mkQ] at h ⊢
theorem mkQ_E {q : Nat} (hq : q ≤ 3) (h : mkQ q 8250 = 0) : q = 2 := by
  have : q = 0 ∨ q = 1 ∨ q = 2 ∨ q = 3 := by omega
  rcases this with rfl | rfl | rfl | rfl <;> simp [mkQ] at h ⊢
theorem last_snoc {o : List Nat} {m : Nat} (h : o.getLast? = some m) : ∃ a, o = a ++ [m] := by
  rcases List.eq_nil_or_concat o with rfl | ⟨a, r, rfl⟩
  · cases h
  · rw [List.concat_eq_append] at h ⊢; simp at h; exact ⟨a, by rw [h]⟩
/-- Inside a marked part that has something the last rune is no marker that begins. -/
theorem two_last {a : List Nat} (h : mkS_ a = 2) : a.getLast? ≠ some 8249 := by
  intro hl
  obtain ⟨b, rfl⟩ := last_snoc hl
  rw [mkS_snoc] at h
  have := mkQ_S (mkS_le b) (by rw [h]; omega)
  omega
theorem Mk.inside {a : List Nat} (h : Mk (a ++ [8250])) : mkS_ a = 2 := by
  unfold Mk at h
  rw [mkS_snoc] at h
  exact mkQ_E (mkS_le a) h
theorem closeN_openN {o : List Nat} (h : Mk o) : closeN (openN o) = o := by
  by_cases hl : o.getLast? = some 8250
  · obtain ⟨a, rfl⟩ := last_snoc hl
    have h2 := two_last h.inside
    have : openN (a ++ [8250]) = a := by simp [openN]
    rw [this]
    unfold closeN
    rw [if_neg (by simpa using h2)]
  · have : openN o = o ++ [8249] := by unfold openN; rw [if_neg (by simpa using hl)]
    rw [this]; simp [closeN]
/-- Where a text stands while an unsafe one is put behind it. -/
def UnsAt (st : List Nat × Bool) : Prop := if st.2 then mkS_ st.1 = 0 else (mkS_ st.1 = 1 ∧ st.1.getLast? = some 8249) ∨ (mkS_ st.1 = 2 ∧ st.1.getLast? ≠ some 8249)
theorem UnsAt.start {o : List Nat} (h : Mk o) : UnsAt (openN o, false) := by
  unfold UnsAt
  simp only [Bool.false_eq_true, if_false]
  by_cases hl : o.getLast? = some 8250
  · obtain ⟨a, rfl⟩ := last_snoc hl
    have : openN (a ++ [8250]) = a := by simp [openN]
    rw [this]
    exact .inr ⟨h.inside, two_last h.inside⟩
  · have : openN o = o ++ [8249] := by unfold openN; rw [if_neg (by simpa using hl)]
    rw [this]
    refine .inl ⟨?_, by simp⟩
    rw [mkS_snoc, show mkS_ o = 0 from h]; rfl
theorem UnsAt.close {o : List Nat} (h : UnsAt (o, false)) : mkS_ (closeN o) = 0 := by
  unfold UnsAt at h
  simp only [Bool.false_eq_true, if_false] at h
  unfold closeN
  rcases h with ⟨h1, h2⟩ | ⟨h1, h2⟩
  · rw [if_pos (by simpa using h2)]
    obtain ⟨a, rfl⟩ := last_snoc h2
    rw [List.dropLast_concat]
    rw [mkS_snoc] at h1
    exact (mkQ_S (mkS_le a) (by omega)).1
  · rw [if_neg (by simpa using h2), mkS_snoc, h1]; rfl
theorem escN_noM (r : Nat) : isM (escN r) = false := by
  unfold escN
  cases h : isM r with
  | true => rfl
  | false => simpa using h
theorem UnsAt.step {st : List Nat × Bool} (h : UnsAt st) {r : Nat} (hr : isM r = false) : UnsAt (unsN st r) ∧ ((unsN st r).2 = false → mkS_ (unsN st r).1 = 2) := by
  obtain ⟨o, ln⟩ := st
  obtain ⟨k1, k2, k3⟩ := isM_false hr
  by_cases h10 : r = 10
  · subst h10
    cases ln with
    | false =>
      have e : unsN (o, false) 10 = (closeN o ++ [10], true) := by simp [unsN]
      rw [e]
      refine ⟨?_, by simp⟩
      unfold UnsAt
      simp only [if_true]
      rw [mkS_snoc, h.close]; rfl
    | true =>
      have e : unsN (o, true) 10 = (o ++ [10], true) := by simp [unsN]
      rw [e]
      refine ⟨?_, by simp⟩
      unfold UnsAt at h ⊢
      simp only [if_true] at h ⊢
      rw [mkS_snoc, h]; rfl
  · have hl : ∀ a : List Nat, (a ++ [r]).getLast? ≠ some 8249 := fun a => by simp [k1]
    have hb : (r == 10) = false := by simp [h10]
    cases ln with
    | false =>
      have e : unsN (o, false) r = (o ++ [r], false) := by simp [unsN, h10]
      rw [e]
      have h2 : mkS_ (o ++ [r]) = 2 := by
        unfold UnsAt at h
        simp only [Bool.false_eq_true, if_false] at h
        rw [mkS_snoc]
        rcases h with ⟨h1, _⟩ | ⟨h1, _⟩ <;> rw [h1] <;> simp [mkQ, k1, k2, k3, h10]
      refine ⟨?_, fun _ => h2⟩
      unfold UnsAt
      simp only [Bool.false_eq_true, if_false]
      exact .inr ⟨h2, hl o⟩
    | true =>
      have e : unsN (o, true) r = (o ++ [8249] ++ [r], false) := by simp [unsN, h10]
      rw [e]
      have h2 : mkS_ (o ++ [8249] ++ [r]) = 2 := by
        unfold UnsAt at h
        simp only [if_true] at h
        rw [mkS_snoc, mkS_snoc, h]
        simp [mkQ, k1, k2, k3, h10]
      refine ⟨?_, fun _ => h2⟩
      unfold UnsAt
      simp only [Bool.false_eq_true, if_false]
      exact .inr ⟨h2, hl _⟩
theorem UnsAt.fold : ∀ (s : List Nat) (st : List Nat × Bool), UnsAt st → (∀ r ∈ s, isM r = false) → s ≠ [] → UnsAt (s.foldl unsN st) ∧ ((s.foldl unsN st).2 = false → mkS_ (s.foldl unsN st).1 = 2) := by
  intro s
  induction s with
  | nil => intro st _ _ h; exact absurd rfl h
  | cons r s ih =>
    intro st h hr _
    have h1 := h.step (hr r (List.mem_cons_self ..))
    rw [List.foldl_cons]
    by_cases hs : s = []
    · subst hs; exact h1
    · exact ih _ h1.1 (fun x hx => hr x (List.mem_cons_of_mem _ hx)) hs
theorem Mk.unsafeN {o s : List Nat} (h : Mk o) : Mk (unsafeN o s) := by
  unfold Proofs.YtlmcglaajmjanaaGreatDoor.unsafeN
  split
  · exact h
  · rename_i hs
    have := UnsAt.fold (s.map escN) (openN o, false) (UnsAt.start h) (fun x hx => by obtain ⟨y, _, rfl⟩ := List.mem_map.1 hx; exact escN_noM y) (by simpa using hs)
    generalize (s.map escN).foldl unsN (openN o, false) = st at this
    obtain ⟨a, ln⟩ := st
    unfold finN
    cases ln with
    | true => have h1 := this.1; unfold UnsAt at h1; exact h1
    | false =>
      simp only [Bool.false_eq_true, if_false]
      unfold Mk
      rw [mkS_snoc, this.2 rfl]; rfl
/-! ### markers among the bytes -/
theorem cont_in {r : Nat} (h : Sc r) (rest : List UInt8) : ∀ i, 0 < i → i < (encL r).length → ((encL r ++ rest).drop i).head? ≠ some 226 := by
  intro i h0 hi hh
  have hs := h
  unfold Sc at hs
  rcases encL_shape h with ⟨h1, e⟩ | ⟨h1, h2, e⟩ | ⟨h1, h2, e⟩ | ⟨h1, h2, e⟩
  · rw [e] at hi; simp at hi; omega
  · rw [e] at hh hi
    simp at hi
    obtain rfl : i = 1 := by omega
    exact byte_some hh (by omega) (by show _ ≠ 226; omega)
  · rw [e] at hh hi
    simp at hi
    have : i = 1 ∨ i = 2 := by omega
    rcases this with rfl | rfl
    · exact byte_some hh (by omega) (by show _ ≠ 226; omega)
    · exact byte_some hh (by omega) (by show _ ≠ 226; omega)
  · rw [e] at hh hi
    simp at hi
    have : i = 1 ∨ i = 2 ∨ i = 3 := by omega
    rcases this with rfl | rfl | rfl
    · exact byte_some hh (by omega) (by show _ ≠ 226; omega)
    · exact byte_some hh (by omega) (by show _ ≠ 226; omega)
    · exact byte_some hh (by omega) (by show _ ≠ 226; omega)
theorem mk_mem {m : Nat} (hm : isM m = true) : ∀ (rs : List Nat), Scs rs → ∀ i, ((encs rs).drop i).take 3 = encL m → m ∈ rs := by
  have hmsc : Sc m := by rcases (isM_iff m).1 hm with rfl | rfl | rfl <;> unfold Sc <;> omega
  intro rs
  induction rs with
  | nil =>
    intro _ i h
    have := encL_pos hmsc
    rw [← h] at this
    simp [encs_nil] at this
  | cons r rs ih =>
    intro hs i h
    have hmk : isMk (((encs (r :: rs)).drop i).take 3) = true := by rw [h, isMk_enc hmsc, hm]
    by_cases hi : i < (encL r).length
    · rw [encs_cons] at h hmk
      by_cases h0 : i = 0
      · subst h0
        cases hr : isM r with
        | false => rw [noMk_in hs.head hr _ 0 hi] at hmk; cases hmk
        | true =>
          have h3 : 2048 ≤ r ∧ r < 65536 := by rcases (isM_iff r).1 hr with rfl | rfl | rfl <;> omega
          rw [List.drop_zero, take3_enc hs.head h3] at h
          rw [encL_inj hs.head hmsc h]; exact List.mem_cons_self ..
      · exact absurd (isMk_head hmk) (cont_in hs.head _ i (by omega) hi)
    · refine List.mem_cons_of_mem _ (ih hs.tail (i - (encL r).length) ?_)
      rw [← h, encs_cons, List.drop_append, List.drop_of_length_le (l := encL r) (by omega), List.nil_append]
theorem noHash_enc {o : List Nat} (ho : Scs o) (h : 8224 ∉ o) : NoHash (encs o) := by
  intro i _ hn
  rw [← encH] at hn
  exact h (mk_mem rfl o ho _ hn)
theorem getD_right (a b : List UInt8) (j : Nat) : (a ++ b).getD (a.length + j) 0 = b.getD j 0 := by
  simp [List.getD, List.getElem?_append_right]
theorem badEnd_enc {o : List Nat} (ho : Scs o) : badEnd (encs o) = false := by
  rcases List.eq_nil_or_concat o with rfl | ⟨a, r, rfl⟩
  · rfl
  · rw [List.concat_eq_append] at ho ⊢
    have hr : Sc r := ho.right r (by simp)
    rw [encs_append, encs_one]
    generalize encs a = pre
    have hd := decodeL_enc hr []
    rw [List.append_nil] at hd
    have hs := hr
    unfold Sc at hs
    unfold badEnd
    have hne : pre ++ encL r ≠ [] := by
      intro h0
      have h1 := congrArg List.length h0
      have h2 := encL_pos hr
      rw [List.length_append, List.length_nil] at h1
      omega
    rcases encL_shape hr with ⟨h1, e⟩ | ⟨h1, h2, e⟩ | ⟨h1, h2, e⟩ | ⟨h1, h2, e⟩
    · have hg : (pre ++ encL r).getD ((pre ++ encL r).length - 1) 0 = UInt8.ofNat r := by
        rw [e]; simp
      have : Lib.decodeLastL (pre ++ encL r) = (r, 1) := by
        unfold Lib.decodeLastL
        rw [if_neg hne, hg, byte_nat (by omega), if_pos h1]
      rw [this]
      have : (r == 65533) = false := beq_eq_false_iff_ne.2 (by omega)
      simp [this]
    · have hl : (pre ++ encL r).length = pre.length + 2 := by rw [e]; simp
      have hg1 : (pre ++ encL r).getD (pre.length + 1) 0 = UInt8.ofNat (128 + r % 64) := by rw [getD_right, e]; rfl
      have hg0 : (pre ++ encL r).getD (pre.length + 0) 0 = UInt8.ofNat (192 + r / 64) := by rw [getD_right, e]; rfl
      have hst : Lib.lastStart (pre ++ encL r) = pre.length := by
        unfold Lib.lastStart
        simp only [hl]
        rw [if_neg (by omega), show pre.length + 2 - 2 = pre.length + 0 by omega, hg0, if_pos (by unfold Lib.runeStartB; rw [byte_nat (by omega)]; simp; omega)]
        omega
      have : Lib.decodeLastL (pre ++ encL r) = (r, 2) := by
        unfold Lib.decodeLastL
        rw [if_neg hne, hl, show pre.length + 2 - 1 = pre.length + 1 by omega, hg1, byte_nat (by omega), if_neg (by omega), hst, List.drop_left' rfl, hd, e]
        simp
      rw [this]; rfl
    · have hl : (pre ++ encL r).length = pre.length + 3 := by rw [e]; simp
      have hg2 : (pre ++ encL r).getD (pre.length + 2) 0 = UInt8.ofNat (128 + r % 64) := by rw [getD_right, e]; rfl
      have hg1 : (pre ++ encL r).getD (pre.length + 1) 0 = UInt8.ofNat (128 + r / 64 % 64) := by rw [getD_right, e]; rfl
      have hg0 : (pre ++ encL r).getD (pre.length + 0) 0 = UInt8.ofNat (224 + r / 4096) := by rw [getD_right, e]; rfl
      have hst : Lib.lastStart (pre ++ encL r) = pre.length := by
        unfold Lib.lastStart
        simp only [hl]
        rw [if_neg (by omega), show pre.length + 3 - 2 = pre.length + 1 by omega, hg1, if_neg (by unfold Lib.runeStartB; rw [byte_nat (by omega)]; simp; omega), if_neg (by omega),
          show pre.length + 3 - 3 = pre.length + 0 by omega, hg0, if_pos (by unfold Lib.runeStartB; rw [byte_nat (by omega)]; simp; omega)]
        omega
      have : Lib.decodeLastL (pre ++ encL r) = (r, 3) := by
        unfold Lib.decodeLastL
        rw [if_neg hne, hl, show pre.length + 3 - 1 = pre.length + 2 by omega, hg2, byte_nat (by omega), if_neg (by omega), hst, List.drop_left' rfl, hd, e]
        simp
      rw [this]; rfl
    · have hl : (pre ++ encL r).length = pre.length + 4 := by rw [e]; simp
      have hg3 : (pre ++ encL r).getD (pre.length + 3) 0 = UInt8.ofNat (128 + r % 64) := by rw [getD_right, e]; rfl
      have hg2 : (pre ++ encL r).getD (pre.length + 2) 0 = UInt8.ofNat (128 + r / 64 % 64) := by rw [getD_right, e]; rfl
      have hg1 : (pre ++ encL r).getD (pre.length + 1) 0 = UInt8.ofNat (128 + r / 4096 % 64) := by rw [getD_right, e]; rfl
      have hg0 : (pre ++ encL r).getD (pre.length + 0) 0 = UInt8.ofNat (240 + r / 262144) := by rw [getD_right, e]; rfl
      have hst : Lib.lastStart (pre ++ encL r) = pre.length := by
        unfold Lib.lastStart
        simp only [hl]
        rw [if_neg (by omega), show pre.length + 4 - 2 = pre.length + 2 by omega, hg2, if_neg (by unfold Lib.runeStartB; rw [byte_nat (by omega)]; simp; omega), if_neg (by omega),
          show pre.length + 4 - 3 = pre.length + 1 by omega, hg1, if_neg (by unfold Lib.runeStartB; rw [byte_nat (by omega)]; simp; omega), if_neg (by omega),
          show pre.length + 4 - 4 = pre.length + 0 by omega, hg0, if_pos (by unfold Lib.runeStartB; rw [byte_nat (by omega)]; simp; omega)]
        omega
      have : Lib.decodeLastL (pre ++ encL r) = (r, 4) := by
        unfold Lib.decodeLastL
        rw [if_neg hne, hl, show pre.length + 4 - 1 = pre.length + 3 by omega, hg3, byte_nat (by omega), if_neg (by omega), hst, List.drop_left' rfl, hd, e]
        simp
      rw [this]; rfl
end Go.Proofs.YtlmcglaajmjanaaGreatDoor
