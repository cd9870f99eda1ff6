/- Walk of the law FnRedact. -/
import Derived.Test.YtlmcglaajmjanaaGreatDoorZk
import Derived.Test.YtlmcglaajmjanaaGreatDoorCln
import Derived.Test.YtlmcglaajmjanaaGreatDoorZk
namespace Go.Proofs.YtlmcglaajmjanaaGreatDoor
open Go.RowKit
attribute [local irreducible] Utf8.encode Utf8.decode
theorem Scs.redN : ∀ (o : List Nat) (op : Bool), Scs o → Scs (redN op o) := by
  intro o
  induction o with
  | nil => intro op _; simp [Proofs.YtlmcglaajmjanaaGreatDoor.redN]; exact Scs.nil
  | cons r o ih =>
    intro op h
    simp only [Proofs.YtlmcglaajmjanaaGreatDoor.redN]
    split
    · exact Scs.append (((Scs.one scE).cons (show Sc 215 by unfold Sc; omega)).cons scS) (ih _ h.tail)
    · split
      · exact ih _ h.tail
      · split
        · exact ih _ h.tail
        · exact (ih _ h.tail).cons h.head
/-- What a right text is redacted to is right, and redacting it again changes nothing. -/
theorem redN_fix : ∀ (o : List Nat), (o.foldl mkQ 0 = 0 → Mk (redN false o) ∧ redN false (redN false o) = redN false o) ∧ (∀ q, q = 1 ∨ q = 2 → o.foldl mkQ q = 0 → Mk (redN true o) ∧ redN false (redN true o) = redN true o) := by
  intro o
  induction o with
  | nil => exact ⟨fun _ => ⟨rfl, rfl⟩, fun q hq h => by rcases hq with rfl | rfl <;> cases h⟩
  | cons r o ih =>
    obtain ⟨ih0, ih1⟩ := ih
    refine ⟨fun h => ?_, fun q hq h => ?_⟩
    · rw [List.foldl_cons] at h
      by_cases hS : r = 8249
      · subst hS
        obtain ⟨h1, h2⟩ := ih1 1 (.inl rfl) h
        have e : redN false (8249 :: o) = 8249 :: 215 :: 8250 :: redN true o := by simp [redN]
        rw [e]
        refine ⟨h1, ?_⟩
        have e2 : redN false (8249 :: 215 :: 8250 :: redN true o) = 8249 :: 215 :: 8250 :: redN false (redN true o) := by simp [redN]
        rw [e2, h2]
      · by_cases hb : r = 8250 ∨ r = 8224
        · have : mkQ 0 r = 3 := by unfold mkQ; rw [if_pos rfl, if_neg hS, if_pos hb]
          rw [this, mkQ_bad] at h; cases h
        · have h0 : mkQ 0 r = 0 := by unfold mkQ; rw [if_pos rfl, if_neg hS, if_neg hb]
          rw [h0] at h
          obtain ⟨h1, h2⟩ := ih0 h
          have hE : r ≠ 8250 := fun e => hb (.inl e)
          have e : ∀ t, redN false (r :: t) = r :: redN false t := by intro t; simp [redN, hS, hE]
          rw [e, e, h2]
          refine ⟨?_, rfl⟩
          unfold Mk mkS_ at *
          rw [List.foldl_cons, h0]; exact h1
    · rw [List.foldl_cons] at h
      by_cases hE : r = 8250
      · subst hE
        have : mkQ q 8250 = if q = 2 then 0 else 3 := by rcases hq with rfl | rfl <;> rfl
        rw [this] at h
        have e : redN true (8250 :: o) = redN false o := by simp [redN]
        rw [e]
        split at h
        · exact ih0 h
        · rw [mkQ_bad] at h; cases h
      · by_cases hb : r = 8249 ∨ r = 8224 ∨ r = 10
        · have : mkQ q r = 3 := by unfold mkQ; rw [if_neg (by omega), if_neg (by omega), if_neg hE, if_pos hb]
          rw [this, mkQ_bad] at h; cases h
        · have : mkQ q r = 2 := by unfold mkQ; rw [if_neg (by omega), if_neg (by omega), if_neg hE, if_neg hb]
          rw [this] at h
          have hS : r ≠ 8249 := fun e => hb (.inl e)
          have e : redN true (r :: o) = redN true o := by simp [redN, hS, hE]
          rw [e]
          exact ih1 2 (.inr rfl) h
set_option maxHeartbeats 1000000 in
set_option maxRecDepth 100000 in
theorem fnRedact_any (s : ByteArray) (w : World) (hs : s.size ≤ 9223372036854775807) (hT : TabW w) : Calls Tryz.prog 5 #[.string s] w (ValQ (.bool true) w) := by
  have HTab := Lib.hid hT; clear hT
  by_cases hz : s.size ≤ 2147483647
  · have hd : decide ((2147483647 : Int) < (s.size : Int)) = false := by simp; omega
    have hd2 : decide (2147483647 < s.size) = false := by simp; omega
    have HP := Lib.hid (isMarked_any s w hs)
    cases hp : markB s.data.toList with
    | false =>
      rw [hp] at HP
      clear hp
      go_enter Tryz.func5, Tryz.ntmps5
      go_wp2_with fail
      refine HP.out.mono ?_
      rintro e w1 ⟨rfl, hb1⟩
      go_wp2_with fail
      go_ret
      exact ⟨rfl, hb1⟩
    | true =>
      rw [hp] at HP
      obtain ⟨hpl, hmk⟩ := mark_mk hp
      have hl8 := plainB_len hpl
      have hlen : s.data.toList.length = s.size := (Lib.size_eq s).symm
      have hsz : s.size ≤ 80 := by omega
      obtain ⟨hsc, he⟩ := plainB_encs hpl
      rw [← runesL_data] at hmk
      obtain ⟨o, ho⟩ : ∃ o, runesL s.data.toList = o := ⟨_, rfl⟩
      rw [ho] at hsc he hmk
      have hol : (encs o).length ≤ 80 := by rw [← he]; exact hl8
      have hred : redL (encs o) = encs (redN false o) := redL_enc _ o (Nat.le_refl _) hsc hmk
      have hrl : (encs (redN false o)).length ≤ 160 := by rw [← hred]; have := redL_len (encs o); omega
      have hred2 : redL (encs (redN false o)) = encs (redN false o) := by
        have h1 := (redN_fix o).1 hmk
        rw [redL_enc _ _ (Nat.le_refl _) (Scs.redN o false hsc) h1.1, h1.2]
      have hd3 : decide ((400 : Int) < ((encs (redN false o)).length : Int)) = false := by simp; omega
      have hd4 : decide (400 < (encs (redN false o)).length) = false := by simp; omega
      have hsz2 : (ByteArray.mk (encs (redN false o)).toArray).size ≤ 400 := by simp [ByteArray.size]; omega
      have HZ2 := Lib.hid hsz2
      clear hsz2 hrl
      have HO := Lib.hid ho
      have HE := Lib.hid he
      have HR := Lib.hid hred
      have HR2 : Hid (redL (ByteArray.mk (encs (redN false o)).toArray).data.toList = encs (redN false o)) := hred2
      clear ho he hsc hp hl8 hlen hpl hmk hred hred2
      go_enter Tryz.func5, Tryz.ntmps5
      go_wp2_with fail
      refine HP.out.mono ?_
      rintro e w1 ⟨rfl, hb⟩
      go_wp2_with fail
      refine (specRedact_any s _ (by omega)).mono ?_
      rintro e w4 ⟨⟨y, rfl, hy⟩, hb4⟩
      have hb := hb.trans (hb4.mono hb.size)
      clear hb4
      obtain rfl : y = ⟨(encs (redN false o)).toArray⟩ := str_of (by rw [hy.out.1, HO.out])
      clear hy
      go_wp2_with fail
      refine (implRedact_any s _ (by omega)).mono ?_
      rintro e w4 ⟨y, rfl, hy, hb4⟩
      have hb := hb.trans (hb4.mono hb.size)
      clear hb4
      obtain rfl : y = ⟨(encs (redN false o)).toArray⟩ := str_of (by rw [hy.out, HE.out, HR.out])
      clear hy
      obtain ⟨vb, wb, hcb, hvb, hnb, hbb, _⟩ := toBytesN w4 s 9 Tryz.underlying9 (by omega)
      rw [HE.out] at hvb
      have hb := hb.trans (hbb.mono hb.size)
      have HVB := Lib.hid hvb; clear hvb
      have HNB := Lib.hid hnb; clear hnb hbb
      go_wp2_with fail
      refine (implRedactBytes_any _ (encs o) _ HVB.out HNB.out (by omega)).mono ?_
      rintro e w5 ⟨vr, rfl, hvr, hb4⟩
      have hb := hb.trans (hb4.mono hb.size)
      clear hb4 hcb HVB HNB
      have hst := hvr.out.str 9 Tryz.underlying9
      clear hvr
      rw [HR.out] at hst
      go_wp2_with fail
      refine (implRedact_any _ _ HZ2.out).mono ?_
      rintro e w4 ⟨y, rfl, hy, hb4⟩
      have hb := hb.trans (hb4.mono hb.size)
      clear hb4
      obtain rfl : y = ⟨(encs (redN false o)).toArray⟩ := str_of (by rw [hy.out, HR2.out])
      clear hy
      go_wp2_with fail
      refine (marks_true _ (HTab.out.below hb)).mono ?_
      rintro e w6 ⟨rfl, hb6⟩
      have hb := hb.trans (hb6.mono hb.size)
      clear hb6
      go_wp2_with fail
      go_ret
      exact ⟨rfl, hb⟩
  ·
    have hd : decide ((2147483647 : Int) < (s.size : Int)) = true := by simp; omega
    have hd2 : decide (2147483647 < s.size) = true := by simp; omega
    go_enter Tryz.func5, Tryz.ntmps5
    go_wp2_with fail
    go_ret
    exact ⟨rfl, Below.refl _ _⟩
end Go.Proofs.YtlmcglaajmjanaaGreatDoor
