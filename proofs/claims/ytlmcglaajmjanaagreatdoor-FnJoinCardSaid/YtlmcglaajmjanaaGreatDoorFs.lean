/- Walks of the laws: marks, FnSprint. -/
import Derived.Test.YtlmcglaajmjanaaGreatDoorRdn
namespace Go.Proofs.YtlmcglaajmjanaaGreatDoor
open Go.RowKit
attribute [local irreducible] Utf8.encode Utf8.decode
/-- The one argument of marks. -/
def a0 : AArg := ⟨0, ⟨#[97]⟩, 0⟩
theorem runes_a : runes ⟨#[97]⟩ = [97] := by
  have : runesL [97] = [97] := runesL_ascii [97] (fun b hb => by simp at hb; subst hb; decide)
  exact this
theorem a0_ok : a0.Ok := by
  refine ⟨.inl rfl, ⟨?_, ?_, by decide⟩, (fun h => by cases h), (fun h => by cases h), by decide, by decide⟩
  · show Scs (runes ⟨#[97]⟩); rw [runes_a]; exact Scs.one (sc_lt (by omega))
  · show _ = encs (runes ⟨#[97]⟩); rw [runes_a, encs_one, encL_ascii 97 (by omega)]; rfl
theorem a0_spr : encs (sprG [] none [a0]) = [226, 128, 185, 97, 226, 128, 186] := by
  have h1 : sprG [] none [a0] = unsafeN [] (runes ⟨#[97]⟩) := rfl
  rw [h1, runes_a]
  have h2 : unsafeN [] [97] = [8249, 97, 8250] := by decide
  rw [h2, encs_cons, encs_cons, encs_one, encS, encE, encL_ascii 97 (by omega)]; rfl
theorem a0_red : redL [226, 128, 185, 97, 226, 128, 186] = [226, 128, 185, 195, 151, 226, 128, 186] := by decide
theorem a0_at (w : World) : ArgsAt (w.alloc (.cells #[.int .i64 0, .string ⟨#[97]⟩, .int .i64 0] 47)) (.slice (some ⟨w.heap.size, 0, none⟩) 1 1) [a0] :=
  ⟨_, ⟨w.heap.size, 0, none⟩, 1, rfl, by decide, by decide, .inr rfl, fun j hj => by
    obtain rfl : j = 0 := by simp at hj; omega
    exact ⟨cell_new _ _ _ 0, cell_new _ _ _ 1, cell_new _ _ _ 2⟩⟩
theorem marks_true (w : World) (hT : TabW w) : Calls Tryz.prog 20 #[] w (ValQ (.bool true) w) := by
  have hb0 : Below w.heap.size w (w.alloc (.cells #[.int .i64 0, .string ⟨#[97]⟩, .int .i64 0] 47)) := (Below.refl _ w).alloc (Nat.le_refl _) _
  have HS := Lib.hid (implSprint_any _ [a0] _ (hT.below hb0) (a0_at w) (by decide) (fun a ha => by simp at ha; subst ha; exact a0_ok))
  rw [a0_spr] at HS
  have HB0 := Lib.hid hb0; clear hb0 hT
  go_enter Tryz.func20, Tryz.ntmps20
  go_wp2_with fail
  refine HS.out.mono ?_
  rintro e w1 ⟨y, rfl, hy, hb1⟩
  obtain rfl : y = ⟨#[226, 128, 185, 97, 226, 128, 186]⟩ := str_of hy.out
  clear hy
  go_wp2_with fail
  refine (implRedact_any _ w1 (by decide)).mono ?_
  rintro e w2 ⟨r, rfl, hr, hb2⟩
  obtain rfl : r = ⟨#[226, 128, 185, 195, 151, 226, 128, 186]⟩ := str_of (hr.out.trans a0_red)
  clear hr
  go_wp2_with fail
  go_ret
  exact ⟨rfl, HB0.out.trans ((hb1.trans (hb2.mono hb1.size)).mono (by simp))⟩
theorem escN_fix {r : Nat} (h : escN r = r) : isM r = false := by
  cases hm : isM r with
  | false => rfl
  | true =>
    unfold escN at h
    rw [hm, if_pos rfl] at h
    subst h; cases hm
theorem map_fix : ∀ s : List Nat, s.map escN = s → NoM s := by
  intro s
  induction s with
  | nil => intro _; exact NoM.nil
  | cons r s ih =>
    intro h
    rw [List.map_cons] at h
    injection h with h1 h2
    intro x hx
    rcases List.mem_cons.1 hx with rfl | hx
    · exact escN_fix h1
    · exact ih h2 x hx
theorem plain_txt {s : ByteArray} (h : plainB s.data.toList = true) : Txt s (runes s) := by
  obtain ⟨h1, h2⟩ := plainB_encs h
  rw [runesL_data] at h1 h2
  exact ⟨h1, h2, by have := plainB_len h; rw [← Lib.size_eq] at this; omega⟩
theorem safe_noM {s : ByteArray} (h : safeB s.data.toList = true) : plainB s.data.toList = true ∧ NoM (runes s) := by
  unfold safeB at h
  rw [Bool.and_eq_true] at h
  refine ⟨h.1, map_fix _ ?_⟩
  have ht := plain_txt h.1
  have h2 := eq_of_beq h.2
  rw [ht.en, escB_enc ht.sc] at h2
  have h3 := congrArg runesL h2
  rwa [runesL_encs ht.sc.esc, runesL_encs ht.sc] at h3
theorem mark_mk {s : ByteArray} (h : markB s.data.toList = true) : plainB s.data.toList = true ∧ Mk (runes s) := by
  unfold markB at h
  rw [Bool.and_eq_true] at h
  refine ⟨h.1, ?_⟩
  have := eq_of_beq h.2
  rw [runesL_data] at this
  exact this
def NumOk (l : List AArg) : Prop := ∀ a ∈ l, -9223372036854775808 ≤ a.n ∧ a.n ≤ 9223372036854775807
theorem argB_parts {ks : List Int} {a : AArg} (h : argB ks a = true) : (∃ k ∈ ks, a.kind = k) ∧ Txt a.text (runes a.text) ∧ (a.kind = 1 → NoM (runes a.text)) ∧ (a.kind = 4 → Mk (runes a.text)) ∧ numBad a = false := by
  unfold argB at h
  simp only [Bool.and_eq_true, Bool.not_eq_true'] at h
  obtain ⟨⟨⟨⟨h1, h2⟩, h3⟩, h4⟩, h5⟩ := h
  refine ⟨?_, plain_txt h2, fun hk => ?_, fun hk => ?_, h5⟩
  · obtain ⟨k, hk, he⟩ := List.any_eq_true.1 h1
    exact ⟨k, hk, eq_of_beq he⟩
  · cases hs : safeB a.text.data.toList with
    | true => exact (safe_noM hs).2
    | false => rw [hk, hs] at h3; simp at h3
  · cases hs : markB a.text.data.toList with
    | true => exact (mark_mk hs).2
    | false => rw [hk, hs] at h4; simp at h4
theorem areB_ok {l : List AArg} (h : areB prKinds l = true) (hn : NumOk l) : l.length ≤ 10 ∧ ∀ a ∈ l, a.Ok := by
  unfold areB at h
  rw [Bool.and_eq_true, decide_eq_true_eq] at h
  refine ⟨h.1, fun a ha => ?_⟩
  obtain ⟨⟨k, hk, he⟩, h2, h3, h4, _⟩ := argB_parts (List.all_eq_true.1 h.2 a ha)
  refine ⟨?_, h2, h3, h4, (hn a ha).1, (hn a ha).2⟩
  rw [he]
  simp [prKinds] at hk
  exact hk
set_option maxHeartbeats 1000000 in
theorem fnSprint_any (v : Value) (l : List AArg) (w : World) (hA : ArgsAt w v l) (ht : TextOk l) (hn : NumOk l) (hT : TabW w) : Calls Tryz.prog 4 #[v] w (ValQ (.bool true) w) := by
  have HF := Lib.hid (zzFits1_any v l w hA ht)
  have HA := Lib.hid hA; clear hA
  have HT := Lib.hid ht; clear ht
  have HN := Lib.hid hn; clear hn
  have HTab := Lib.hid hT; clear hT
  cases hf : fitsB l with
  | false =>
    rw [hf] at HF
    clear hf
    go_enter Tryz.func4, Tryz.ntmps4
    go_wp2_with fail
    refine HF.out.mono ?_
    rintro e w1 ⟨rfl, hb1⟩
    go_wp2_with fail
    go_ret
    exact ⟨rfl, hb1⟩
  | true =>
    rw [hf] at HF
    clear hf
    cases ha : areB prKinds l with
    | false =>
      have HAR := Lib.hid ha; clear ha
      go_enter Tryz.func4, Tryz.ntmps4
      go_wp2_with fail
      refine HF.out.mono ?_
      rintro e w1 ⟨rfl, hb1⟩
      go_wp2_with fail
      refine (printed_any _).mono ?_
      rintro e w2 ⟨kv, rfl, hkv, hb2⟩
      have hb := hb1.trans (hb2.mono hb1.size)
      go_wp2_with fail
      refine (areArgs_any _ kv l prKinds _ (HA.out.below hb) hkv.out (by decide) HT.out).mono ?_
      rw [HAR.out]
      rintro e w3 ⟨rfl, hb3⟩
      go_wp2_with fail
      go_ret
      exact ⟨rfl, hb.trans (hb3.mono hb.size)⟩
    | true =>
      obtain ⟨hl, hok⟩ := areB_ok ha HN.out
      have HAR := Lib.hid ha; clear ha
      have HOK := Lib.hid hok; clear hok
      generalize hg : encs (sprG [] none l) = g
      have HG := Lib.hid hg; clear hg
      go_enter Tryz.func4, Tryz.ntmps4
      go_wp2_with fail
      refine HF.out.mono ?_
      rintro e w1 ⟨rfl, hb1⟩
      go_wp2_with fail
      refine (printed_any _).mono ?_
      rintro e w2 ⟨kv, rfl, hkv, hb2⟩
      have hb := hb1.trans (hb2.mono hb1.size)
      clear hb1 hb2
      go_wp2_with fail
      refine (areArgs_any _ kv l prKinds _ (HA.out.below hb) hkv.out (by decide) HT.out).mono ?_
      rw [HAR.out]
      rintro e w3 ⟨rfl, hb3⟩
      have hb := hb.trans (hb3.mono hb.size)
      clear hb3 hkv
      go_wp2_with fail
      refine (implSprint_any v l _ (HTab.out.below hb) (HA.out.below hb) hl HOK.out).mono ?_
      rw [HG.out]
      rintro e w4 ⟨y, rfl, hy, hb4⟩
      have hb := hb.trans (hb4.mono hb.size)
      clear hb4
      obtain rfl : y = ⟨g.toArray⟩ := str_of hy.out
      clear hy
      go_wp2_with fail
      refine (specSprint_any v l _ (HA.out.below hb) hl HOK.out).mono ?_
      rw [HG.out]
      rintro e w5 ⟨y, rfl, hy, hb5⟩
      have hb := hb.trans (hb5.mono hb.size)
      clear hb5
      obtain rfl : y = ⟨g.toArray⟩ := str_of hy.out
      clear hy
      go_wp2_with fail
      refine (marks_true _ (HTab.out.below hb)).mono ?_
      rintro e w6 ⟨rfl, hb6⟩
      have hb := hb.trans (hb6.mono hb.size)
      clear hb6
      go_wp2_with fail
      go_ret
      exact ⟨rfl, hb⟩
end Go.Proofs.YtlmcglaajmjanaaGreatDoor
