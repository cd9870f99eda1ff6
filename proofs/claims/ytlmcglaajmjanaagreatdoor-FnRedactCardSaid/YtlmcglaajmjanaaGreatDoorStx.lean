/- RedactableString.StripMarkers and impl.Strip; what is left of a text in runes. -/
import Derived.Test.YtlmcglaajmjanaaGreatDoorStw
import Derived.Test.YtlmcglaajmjanaaGreatDoorShelf
import Derived.Test.YtlmcglaajmjanaaGreatDoorZh
import Derived.Test.YtlmcglaajmjanaaGreatDoorZi
import Derived.Test.YtlmcglaajmjanaaGreatDoorZb
namespace Go.Proofs.YtlmcglaajmjanaaGreatDoor
open Go.RowKit
attribute [local irreducible] Utf8.encode Utf8.decode
theorem st_len3 {m : Nat} (hm : isM m = true) : (encL m).length = 3 := by
  rcases (isM_iff m).1 hm with rfl | rfl | rfl
  · rw [encS]; rfl
  · rw [encE]; rfl
  · rw [encH]; rfl
theorem st_skip (rl : List UInt8) : ∀ (c rest : List UInt8), (∀ i, i < c.length → isMk (((c ++ rest).drop i).take 3) = false) → stL rl (c ++ rest) = c ++ stL rl rest := by
  intro c
  induction c with
  | nil => intro rest _; rfl
  | cons x c ih =>
    intro rest h
    have h0 := h 0 (by simp)
    rw [List.cons_append] at h0 ⊢
    rw [stL_no (by simpa using h0), ih rest (fun i hi => by have := h (i + 1) (by simp; omega); simpa using this)]; rfl
theorem st_cons (rl : List UInt8) {r : Nat} (o : List Nat) (hr : Sc r) : stL rl (encs (r :: o)) = (if isM r then rl else encL r) ++ stL rl (encs o) := by
  rw [encs_cons]
  cases hm : isM r with
  | true =>
    have h3 : 2048 ≤ r ∧ r < 65536 := by rcases (isM_iff r).1 hm with rfl | rfl | rfl <;> omega
    rw [stL_mk (by rw [take3_enc hr h3, isMk_enc hr, hm]), if_pos rfl, List.drop_left' (st_len3 hm)]
  | false => rw [if_neg (by decide), st_skip rl _ _ (noMk_in hr hm _)]
theorem st_strip : ∀ o : List Nat, Scs o → stL [] (encs o) = encs (stripN o) := by
  intro o
  induction o with
  | nil => intro _; rfl
  | cons r o ih =>
    intro h
    rw [st_cons _ _ h.head, ih h.tail]
    cases hm : isM r with
    | true => rw [if_pos rfl]; simp [stripN, hm]
    | false => rw [if_neg (by decide)]; simp [stripN, hm, encs_cons]
theorem st_esc : ∀ o : List Nat, Scs o → stL [63] (encs o) = encs (o.map escN) := by
  intro o
  induction o with
  | nil => intro _; rfl
  | cons r o ih =>
    intro h
    rw [st_cons _ _ h.head, ih h.tail, List.map_cons, encs_cons]
    cases hm : isM r with
    | true => rw [if_pos rfl, show escN r = 63 by unfold escN; rw [if_pos hm], show encL 63 = [63] from encL_ascii 63 (by omega)]
    | false => rw [if_neg (by decide), show escN r = r by unfold escN; rw [if_neg (by rw [hm]; decide)]]
theorem toBytesN (w : World) (s : ByteArray) (src : TypeId) (hs : Tryz.prog.underlying src = some .string) (hsz : s.size ≤ 1000000) :
    ∃ v w', (convert src 31 (.string s)).run Tryz.prog w = .ok v w' ∧ BAt w' v s.data.toList ∧ NonNil v ∧ Below w.heap.size w w' ∧ w.heap.size < w'.heap.size := by
  obtain ⟨v, w', hc, hv, hb, hz⟩ := toBytes w s src hs hsz
  have h := run_bytes_of_string (P := Tryz.prog) w src 31 5 s hs Tryz.underlying31 Tryz.underlying5
  have e := hc.symm.trans h
  injection e with e1 e2
  exact ⟨v, w', hc, hv, ⟨_, _, _, _, e1⟩, hb, hz⟩
theorem bat_nil (w : World) : BAt w (.slice none 0 0) [] := ⟨none, 0, 0, 0, rfl, Nat.le_refl _, by decide, .inl ⟨rfl, fun _ => rfl⟩, fun j h => by cases h⟩
set_option maxHeartbeats 1000000 in
theorem stripString_any (s : ByteArray) (w : World) (hs : s.size ≤ 1000) : Calls Tryz.prog 54 #[.string s] w (RedQ (stL [] s.data.toList) w) := by
  have hlen : s.data.toList.length = s.size := (Lib.size_eq s).symm
  have HF := Lib.hid (st_first (rl := []) s.data.toList)
  have HB := Lib.hid (fun w => Tryz.strings_IndexByte s 226 w)
  obtain ⟨ib, hib⟩ : ∃ ib, Lib.indexByte s.data.toList 226 = ib := ⟨_, rfl⟩
  have HB' : Hid (∀ w, Calls Tryz.prog 80 #[.string s, .int .u8 226] w fun e w' => e = .returned (.int .i64 ib) ∧ w' = w) := by
    intro w
    have := HB.out w
    rw [show (226 : Int).toNat.toUInt8 = 226 by decide, hib] at this
    exact this
  rw [hib] at HF
  clear HB hib
  have HL := Lib.hid hlen; clear hlen
  by_cases hn : ib = -1
  · have hd : (ib == -1) = true := beq_iff_eq.2 hn
    have HR := Lib.hid (HF.out.1 hn)
    clear HF hn
    go_enter Tryz.func54, Tryz.ntmps54
    go_wp2_with fail
    refine (startBytes _).mono ?_
    rintro e w1 ⟨v1, rfl, hv1, hb1, _⟩
    obtain ⟨a1, hi1, hcc⟩ := hv1.out.at_ 0 (by decide) (by decide)
    have hc1 : w1.cell? a1 = some (.int .u8 226) := hcc _ hv1.out
    clear hcc hv1
    go_wp2_with fail
    refine (HB'.out _).mono ?_
    rintro e w2 ⟨rfl, rfl⟩
    go_wp2_with fail
    go_ret
    exact ⟨s, rfl, HR.out.symm, hb1⟩
  · have hd : (ib == -1) = false := beq_eq_false_iff_ne.2 hn
    clear HF hn
    go_enter Tryz.func54, Tryz.ntmps54
    go_wp2_with fail
    refine (startBytes _).mono ?_
    rintro e w1 ⟨v1, rfl, hv1, hb1, _⟩
    obtain ⟨a1, hi1, hcc⟩ := hv1.out.at_ 0 (by decide) (by decide)
    have hc1 : w1.cell? a1 = some (.int .u8 226) := hcc _ hv1.out
    clear hcc hv1
    go_wp2_with fail
    refine (HB'.out _).mono ?_
    rintro e w2 ⟨rfl, rfl⟩
    obtain ⟨v4, w4, hc4, hv4, hn4, hb4, _⟩ := toBytesN w2 s 50 Tryz.underlying50 (by omega)
    have HV4 := Lib.hid hv4; clear hv4
    have HN4 := Lib.hid hn4; clear hn4
    go_wp2_with fail
    refine (strip_any _ _ s.data.toList [] w4 HV4.out HN4.out (bat_nil _) (by decide) (by rw [HL.out]; omega)).mono ?_
    rintro e w5 ⟨v5, rfl, hv5, hb5⟩
    have hst := hv5.out.str 9 Tryz.underlying9
    go_wp2_with fail
    go_ret
    exact ⟨_, rfl, by show _ = _; simp, Below.trans' (Below.trans' hb1 (Nat.le_refl _) hb4) (Nat.le_refl _) hb5⟩
theorem implStrip_any (s : ByteArray) (w : World) (hs : s.size ≤ 400) : Calls Tryz.prog 25 #[.string s] w (RedQ (stL [] s.data.toList) w) := by
  go_enter Tryz.func25, Tryz.ntmps25
  go_wp2_with fail
  refine (stripString_any s w (by omega)).mono ?_
  rintro e w1 ⟨r, rfl, hr, hb⟩
  go_wp2
  go_ret
  exact ⟨r, rfl, hr, hb⟩
theorem implStrip_enc (o : List Nat) (w : World) (ho : Scs o) (hl : (encs o).length ≤ 400) : Calls Tryz.prog 25 #[.string ⟨(encs o).toArray⟩] w (SprQ w (encs (stripN o))) := by
  have hs : (ByteArray.mk (encs o).toArray).size = (encs o).length := by simp [ByteArray.size]
  refine (implStrip_any ⟨(encs o).toArray⟩ w (by omega)).mono ?_
  rintro e w' ⟨r, rfl, hr, hb⟩
  have h1 : stL [] (ByteArray.mk (encs o).toArray).data.toList = encs (stripN o) := st_strip o ho
  rw [h1] at hr
  exact ⟨r, rfl, hr, hb⟩
theorem specStrip_enc (o : List Nat) (w : World) (ho : Scs o) (hl : (encs o).length ≤ 100000) : Calls Tryz.prog 26 #[.string ⟨(encs o).toArray⟩] w (SprQ w (encs (stripN o))) := by
  have hs : (ByteArray.mk (encs o).toArray).size = (encs o).length := by simp [ByteArray.size]
  refine (specStrip_any ⟨(encs o).toArray⟩ w (by omega)).mono ?_
  rintro e w' ⟨⟨r, rfl, hr⟩, hb⟩
  have h1 : runesL (ByteArray.mk (encs o).toArray).data.toList = o := runesL_encs ho
  rw [h1] at hr
  exact ⟨r, rfl, hr.out.1, hb⟩
end Go.Proofs.YtlmcglaajmjanaaGreatDoor
