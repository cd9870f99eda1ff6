/- Plain words on texts: the runes of a byte array, markers, what escaping and marking make of them. No program is in sight. -/
import Derived.Lib.Strings
import Derived.Lib.Hide
import Derived.Laws.RangeAny
import Derived.Laws.Concat
namespace Go.Proofs.YtlmcglaajmjanaaGreatDoor
open Go.RowKit
/-- The runes of s from pos on, at most f of them. -/
def runesF (s : ByteArray) : Nat → Nat → List Nat
  | 0, _ => []
  | f+1, pos => if pos < s.size then (Utf8.decode s pos).1 :: runesF s f (pos + (Utf8.decode s pos).2) else []
def runes (s : ByteArray) : List Nat := runesF s s.size 0
def runesL (l : List UInt8) : List Nat := runes ⟨l.toArray⟩
def encL (r : Nat) : List UInt8 := (Utf8.encode r).toList
theorem runesL_data (s : ByteArray) : runesL s.data.toList = runes s := by unfold runesL; rw [Lib.mk_data]
theorem runes_of {s : ByteArray} {l : List UInt8} (h : s.data.toList = l) : runes s = runesL l := by rw [← h, runesL_data]

theorem decode_adv (s : ByteArray) (pos : Nat) (h : pos < s.size) : 1 ≤ (Utf8.decode s pos).2 ∧ pos + (Utf8.decode s pos).2 ≤ s.size := by
  simp only [Utf8.decode]
  repeat' split
  all_goals simp_all
  all_goals omega
theorem runesF_more (s : ByteArray) : ∀ (f pos g : Nat), s.size - pos ≤ f → s.size - pos ≤ g → runesF s f pos = runesF s g pos := by
  intro f
  induction f with
  | zero => intro pos g h hg; cases g with
    | zero => rfl
    | succ g => simp only [runesF]; rw [if_neg (by omega)]
  | succ f ih => intro pos g h hg; cases g with
    | zero => simp only [runesF]; rw [if_neg (by omega)]
    | succ g =>
      simp only [runesF]
      split
      · have := decode_adv s pos (by assumption)
        rw [ih _ g (by omega) (by omega)]
      · rfl
theorem runesF_end (s : ByteArray) (pos : Nat) (h : ¬ pos < s.size) (f : Nat) : runesF s f pos = [] := by
  cases f with
  | zero => rfl
  | succ f => simp only [runesF]; rw [if_neg h]
theorem runesF_step (s : ByteArray) (pos : Nat) (h : pos < s.size) : runesF s (s.size - pos) pos = (Utf8.decode s pos).1 :: runesF s (s.size - (pos + (Utf8.decode s pos).2)) (pos + (Utf8.decode s pos).2) := by
  have hd := decode_adv s pos h
  obtain ⟨f, hf⟩ : ∃ f, s.size - pos = f + 1 := ⟨s.size - pos - 1, by omega⟩
  rw [hf]
  simp only [runesF]
  rw [if_pos h, runesF_more s f _ (s.size - (pos + (Utf8.decode s pos).2)) (by omega) (by omega)]
/-- What is left of a text's runes at pos: rest. -/
def RunesAt (s : ByteArray) (pos : Nat) (rest : List Nat) : Prop := runesF s (s.size - pos) pos = rest
theorem RunesAt.start (s : ByteArray) : RunesAt s 0 (runes s) := by unfold RunesAt runes; rfl
theorem RunesAt.step {s : ByteArray} {pos : Nat} {rest : List Nat} (h : RunesAt s pos rest) (hp : pos < s.size) :
    ∃ rest', rest = (Utf8.decode s pos).1 :: rest' ∧ RunesAt s (pos + (Utf8.decode s pos).2) rest' :=
  ⟨_, by rw [← h, runesF_step s pos hp], rfl⟩
theorem RunesAt.stop {s : ByteArray} {pos : Nat} {rest : List Nat} (h : RunesAt s pos rest) (hp : ¬ pos < s.size) : rest = [] := by
  rw [← h, runesF_end s pos hp]

theorem encode_size (r : Int) : (Utf8.encode r).size ≤ 4 := by
  simp only [Utf8.encode]
  repeat' split
  all_goals simp [ByteArray.size]
theorem encode_pos (r : Int) : 1 ≤ (Utf8.encode r).size := by
  simp only [Utf8.encode]
  repeat' split
  all_goals simp [ByteArray.size]

def mkS : List UInt8 := [226, 128, 185]
def mkE : List UInt8 := [226, 128, 186]
def mkH : List UInt8 := [226, 128, 160]
def mkX : List UInt8 := [226, 128, 185, 195, 151, 226, 128, 186]
def isMk (l : List UInt8) : Bool := l == mkS || l == mkE || l == mkH
/-- What stands for a rune that is escaped. -/
def escR (r : Nat) : List UInt8 := if isMk (encL r) then [63] else encL r
def escL : List Nat → List UInt8
  | [] => []
  | r :: l => escR r ++ escL l
def escB (l : List UInt8) : List UInt8 := escL (runesL l)
/-- One rune of a text that is marked: what stands there, and whether a new line stood last. -/
def unsStep (st : List UInt8 × Bool) (r : Nat) : List UInt8 × Bool :=
  ((if r == 10 && !st.2 then (if Lib.hasSuffix st.1 mkS then st.1.take (st.1.length - 3) else st.1 ++ mkE)
    else if r != 10 && st.2 then st.1 ++ mkS else st.1) ++ encL r, r == 10)
def unsOpen (out : List UInt8) : List UInt8 := if Lib.hasSuffix out mkE then out.take (out.length - 3) else out ++ mkS
def unsFin (st : List UInt8 × Bool) : List UInt8 := if st.2 then st.1 else st.1 ++ mkE
/-- An unsafe text s behind out. -/
def unsafeL (out s : List UInt8) : List UInt8 :=
  if s = [] then out else unsFin ((runesL (escB s)).foldl unsStep (unsOpen out, false))
/-- The decimal digits of a number. -/
def digsF : Nat → Nat → List UInt8
  | 0, _ => []
  | f + 1, n => (if n < 10 then [] else digsF f (n / 10)) ++ [UInt8.ofNat (48 + n % 10)]
def digs (n : Nat) : List UInt8 := digsF 20 n
def numL (n : Int) : List UInt8 := if n < 0 then 45 :: digs n.natAbs else digs n.natAbs
theorem digsF_more : ∀ (f g n : Nat), n < 10 ^ f → n < 10 ^ g → 1 ≤ f → 1 ≤ g → digsF f n = digsF g n := by
  intro f
  induction f with
  | zero => intro g n _ _ h; omega
  | succ f ih =>
    intro g n h1 h2 _ h4
    obtain ⟨g, rfl⟩ : ∃ k, g = k + 1 := ⟨g - 1, by omega⟩
    simp only [digsF]
    by_cases h : n < 10
    · rw [if_pos h, if_pos h]
    · rw [if_neg h, if_neg h]
      have hf : 1 ≤ f := by
        rcases Nat.eq_zero_or_pos f with h0 | h0
        · subst h0; simp at h1; omega
        · exact h0
      have hg : 1 ≤ g := by
        rcases Nat.eq_zero_or_pos g with h0 | h0
        · subst h0; simp at h2; omega
        · exact h0
      rw [ih g (n / 10) (Nat.div_lt_of_lt_mul (by rw [Nat.pow_succ] at h1; omega)) (Nat.div_lt_of_lt_mul (by rw [Nat.pow_succ] at h2; omega)) hf hg]
theorem digsF_succ (f n : Nat) : digsF (f + 1) n = (if n < 10 then [] else digsF f (n / 10)) ++ [UInt8.ofNat (48 + n % 10)] := rfl
theorem digs_low (n : Nat) (h : n < 10) : digs n = [UInt8.ofNat (48 + n)] := by
  show digsF (19 + 1) n = _
  rw [digsF_succ, if_pos h, Nat.mod_eq_of_lt h]; rfl
theorem digs_high (n : Nat) (h : 10 ≤ n) (hn : n < 10 ^ 20) : digs n = digs (n / 10) ++ [UInt8.ofNat (48 + n % 10)] := by
  show digsF (19 + 1) n = _
  rw [digsF_succ, if_neg (by omega), digsF_more 19 20 (n / 10) (Nat.div_lt_of_lt_mul (by omega)) (by omega) (by omega) (by omega)]; rfl
/-- What the loop over a number's digits has made is what it should make. -/
def NumAt (m : Nat) (out goal : List UInt8) : Prop := (if m = 0 ∧ out ≠ [] then out else digs m ++ out) = goal
theorem NumAt.start (n : Nat) : NumAt n [] (digs n) := by unfold NumAt; simp
theorem NumAt.step {m : Nat} {out goal : List UInt8} (h : NumAt m out goal) (hg : ¬ (m = 0 ∧ out ≠ [])) (hm : m < 10 ^ 20) : NumAt (m / 10) (UInt8.ofNat (48 + m % 10) :: out) goal := by
  unfold NumAt at *
  rw [if_neg hg] at h
  by_cases h10 : m < 10
  · have h0 : m / 10 = 0 := by omega
    rw [h0, if_pos ⟨rfl, by simp⟩, ← h, digs_low m h10, Nat.mod_eq_of_lt h10]; rfl
  · rw [if_neg (by omega), ← h, digs_high m (by omega) hm]; simp
theorem NumAt.stop {m : Nat} {out goal : List UInt8} (h : NumAt m out goal) (hg : m = 0 ∧ out ≠ []) : out = goal := by
  unfold NumAt at h
  rwa [if_pos hg] at h
/-- The sum of two strings, under a name of its own. -/
theorem add_ex (P : Program) (a b : ByteArray) (h : a.size + b.size ≤ 9223372036854775807) :
    ∃ y : ByteArray, (∀ w, (Op.stringOp .add a b).run P w = .ok (.string y) w) ∧ y.size ≤ a.size + b.size ∧ Hid (y.data.toList = a.data.toList ++ b.data.toList) :=
  ⟨a ++ b, fun w => run_string_add_sum w _ _ h, by rw [ByteArray.size_append]; exact Nat.le_refl _, by show _ = _; simp [ByteArray.data_append]⟩
theorem suffix_len {l p : List UInt8} (h : Lib.hasSuffix l p = true) : p.length ≤ l.length := by
  rw [← Lib.hasSuffix_of_drop] at h
  simp at h; exact h.1
theorem encL_of {r : Nat} {e : ByteArray} (he : Utf8.encode r = e) : encL r = e.toList := by rw [← he, encL]
end Go.Proofs.YtlmcglaajmjanaaGreatDoor
