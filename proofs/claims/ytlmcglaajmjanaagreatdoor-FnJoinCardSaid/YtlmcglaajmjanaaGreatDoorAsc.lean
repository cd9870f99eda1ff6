/- Plain words: texts of ASCII; the digits of a number between markers are redacted to the sign for it. No program is in sight. -/
import Derived.Test.YtlmcglaajmjanaaGreatDoorStr
import Derived.Laws.Cells
namespace Go.Proofs.YtlmcglaajmjanaaGreatDoor
open Go.RowKit
theorem valid_ascii (b : Nat) (h : b < 128) : Utf8.valid (b : Int) = true := by
  unfold Utf8.valid
  rw [Bool.or_eq_true, Bool.and_eq_true, decide_eq_true_eq, decide_eq_true_eq]
  left
  exact ⟨Int.natCast_nonneg _, by omega⟩
theorem encode_valid (r : Int) (c : Nat) (hc : r.toNat = c) (h : Utf8.valid r = true) : Utf8.encode r =
    if c < 0x80 then ⟨#[UInt8.ofNat c]⟩
    else if c < 0x800 then ⟨#[UInt8.ofNat (0xC0 + c / 64), UInt8.ofNat (0x80 + c % 64)]⟩
    else if c < 0x10000 then ⟨#[UInt8.ofNat (0xE0 + c / 4096), UInt8.ofNat (0x80 + c / 64 % 64), UInt8.ofNat (0x80 + c % 64)]⟩
    else ⟨#[UInt8.ofNat (0xF0 + c / 262144), UInt8.ofNat (0x80 + c / 4096 % 64), UInt8.ofNat (0x80 + c / 64 % 64), UInt8.ofNat (0x80 + c % 64)]⟩ := by
  unfold Utf8.encode
  generalize Utf8.valid r = v at h
  subst h
  subst hc
  rfl
theorem encode_ascii (b : Nat) (h : b < 128) : Utf8.encode (b : Int) = ⟨#[UInt8.ofNat b]⟩ := by
  exact (encode_valid (b : Int) b (Int.toNat_natCast b) (valid_ascii b h)).trans (if_pos h)
theorem encL_ascii (b : Nat) (h : b < 128) : encL b = [UInt8.ofNat b] := (encL_of (encode_ascii b h)).trans (by rw [Lib.toList_data])
def Asc (l : List UInt8) : Prop := ∀ b ∈ l, b.toNat < 128
theorem runesF_ascii (l : List UInt8) (h : Asc l) : ∀ (d pos : Nat), pos + d = l.length → runesF ⟨l.toArray⟩ d pos = (l.drop pos).map (·.toNat) := by
  intro d
  induction d with
  | zero => intro pos hp; rw [List.drop_of_length_le (by omega)]; rfl
  | succ d ih =>
    intro pos hp
    have hs : (ByteArray.mk l.toArray).size = l.length := by simp [ByteArray.size]
    have hlt : pos < (ByteArray.mk l.toArray).size := by rw [hs]; omega
    simp only [runesF]
    rw [if_pos hlt]
    have hg : (ByteArray.mk l.toArray)[pos]'hlt = l[pos]'(by omega) := by simp [ByteArray.getElem_eq_getElem_data]
    have hd := decode_ascii ⟨l.toArray⟩ pos hlt (by rw [hg]; exact h _ (List.getElem_mem _))
    rw [hd, ih (pos + 1) (by omega), List.drop_eq_getElem_cons (show pos < l.length by omega), List.map_cons, hg]
theorem runesL_ascii (l : List UInt8) (h : Asc l) : runesL l = l.map (·.toNat) := by
  unfold runesL runes
  have hs : (ByteArray.mk l.toArray).size = l.length := by simp [ByteArray.size]
  rw [hs, runesF_ascii l h l.length 0 (by omega)]; rfl
theorem escR_ascii (b : Nat) (h : b < 128) : escR b = [UInt8.ofNat b] := by
  unfold escR
  rw [encL_ascii b h]
  simp [isMk, mkS, mkE, mkH]
theorem escL_ascii (l : List UInt8) (h : Asc l) : escL (l.map (·.toNat)) = l := by
  induction l with
  | nil => rfl
  | cons b l ih =>
    simp only [List.map_cons, escL]
    rw [escR_ascii _ (h b (List.mem_cons_self ..)), ih (fun x hx => h x (List.mem_cons_of_mem _ hx))]
    simp
theorem escB_ascii (l : List UInt8) (h : Asc l) : escB l = l := by unfold escB; rw [runesL_ascii l h, escL_ascii l h]
theorem uns_ascii (l : List UInt8) (h : Asc l) (hn : (10 : UInt8) ∉ l) : ∀ acc, (l.map (·.toNat)).foldl unsStep (acc, false) = (acc ++ l, false) := by
  induction l with
  | nil => intro acc; simp
  | cons b l ih =>
    intro acc
    have hb : b.toNat ≠ 10 := by
      intro hb
      apply hn
      have : b = 10 := UInt8.toNat_inj.1 hb
      rw [this]; exact List.mem_cons_self ..
    have hst : unsStep (acc, false) b.toNat = (acc ++ [b], false) := by
      unfold unsStep
      have hb' : (b.toNat == 10) = false := by simp [hb]
      rw [encL_ascii _ (h b (List.mem_cons_self ..))]
      simp [hb']
    simp only [List.map_cons, List.foldl_cons]
    rw [hst, ih (fun x hx => h x (List.mem_cons_of_mem _ hx)) (fun hx => hn (List.mem_cons_of_mem _ hx))]
    simp
theorem unsafeL_ascii (l : List UInt8) (h : Asc l) (hn : (10 : UInt8) ∉ l) (h0 : l ≠ []) : unsafeL [] l = mkS ++ l ++ mkE := by
  unfold unsafeL
  rw [if_neg h0, escB_ascii l h, runesL_ascii l h, uns_ascii l h hn]
  rfl
/-- Digits. -/
theorem digsF_mem : ∀ (f n : Nat) (b : UInt8), b ∈ digsF f n → 48 ≤ b.toNat ∧ b.toNat ≤ 57 := by
  intro f
  induction f with
  | zero => intro n b h; cases h
  | succ f ih =>
    intro n b h
    rw [digsF_succ, List.mem_append] at h
    rcases h with h | h
    · split at h
      · cases h
      · exact ih _ _ h
    · simp at h
      subst h
      have : n % 10 < 10 := Nat.mod_lt _ (by omega)
      simp; omega
theorem digsF_len : ∀ (f n : Nat), (digsF f n).length ≤ f ∧ (0 < f → 1 ≤ (digsF f n).length) := by
  intro f
  induction f with
  | zero => intro n; simp [digsF]
  | succ f ih =>
    intro n
    rw [digsF_succ]
    have := (ih (n / 10)).1
    split <;> simp; omega
theorem digs_ascii (n : Nat) : Asc (digs n) := fun b hb => by have := digsF_mem _ _ b hb; omega
theorem digs_line (n : Nat) : (10 : UInt8) ∉ digs n := fun hb => by have := digsF_mem _ _ _ hb; simp at this
theorem digs_ne (n : Nat) : digs n ≠ [] := by have := (digsF_len 20 n).2 (by omega); intro h; unfold digs at h; rw [h] at this; simp at this
theorem digs_len (n : Nat) : (digs n).length ≤ 20 := (digsF_len 20 n).1
end Go.Proofs.YtlmcglaajmjanaaGreatDoor
