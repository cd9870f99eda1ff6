/- Walks of the reference: isString, Put, Sprint. -/
/- Walks of the reference: AreArgs; of the laws: printed, built. -/
/- Plain words: what the package redacts a right text to is what the reference says. No program is in sight. -/
/- Walks of the laws: marks, FnSprint. -/
import Derived.Test.YtlmcglaajmjanaaGreatDoorZb
import Derived.Test.YtlmcglaajmjanaaGreatDoorZj
import Derived.Lib.QuietBelow
namespace Go.Proofs.YtlmcglaajmjanaaGreatDoor
open Go.RowKit
attribute [local irreducible] Utf8.encode Utf8.decode
theorem isString_any (k : Int) (s : ByteArray) (n : Int) (w : World) : Calls Tryz.prog 43 #[.agg #[.int .i64 k, .string s, .int .i64 n]] w (BoolQ (k == 0 || k == 4) w) := by
  by_cases h0 : k = 0
  · subst h0
    go_enter Tryz.func43, Tryz.ntmps43
    go_wp2
    go_ret
    exact ⟨rfl, (Below.refl _ _).alloc (Nat.le_refl _) _⟩
  · have hb : (k == 0) = false := beq_eq_false_iff_ne.2 h0
    rw [hb, Bool.false_or]
    go_enter Tryz.func43, Tryz.ntmps43
    go_wp2
    go_ret
    exact ⟨rfl, (Below.refl _ _).alloc (Nat.le_refl _) _⟩
theorem specUnsafe_enc (out s : ByteArray) (o rs : List Nat) (w : World) (ho : out.data.toList = encs o) (hs : s.data.toList = encs rs) (hsc : Scs o) (hrs : Scs rs) (hl : out.size ≤ 50000) (hl2 : s.size ≤ 1000) :
    Calls Tryz.prog 29 #[.string out, .string s] w (SprQ w (encs (unsafeN o rs))) := by
  by_cases h : rs = []
  · subst h
    have he : s.toList.isEmpty = true := by rw [Lib.toList_data, hs]; rfl
    refine (unsafe_nil out s w he).mono ?_
    rintro e w' ⟨rfl, rfl⟩
    exact ⟨out, rfl, by show _ = _; rw [ho]; unfold unsafeN; rw [if_pos rfl], Below.refl _ _⟩
  · have he : s.toList.isEmpty = false := by
      rw [Lib.toList_data, hs]
      cases hc : encs rs with
      | nil => exact absurd hc (encs_ne hrs h)
      | cons a l => rfl
    refine (unsafe_any out s w he hl hl2).mono ?_
    rintro e w' ⟨⟨r, rfl, hr⟩, hb⟩
    exact ⟨r, rfl, by show _ = _; rw [hr.out.1, ho, hs, unsafeL_enc hsc hrs], hb⟩
theorem str_size {s : ByteArray} {l : List UInt8} (h : s.data.toList = l) : s.size = l.length := by rw [← h]; exact Lib.size_eq s
theorem number_enc (n : Int) (h0 : -9223372036854775808 ≤ n) (h1 : n ≤ 9223372036854775807) (w : World) : Calls Tryz.prog 67 #[.int .i64 n] w (SprQ w (encs (numN n))) := by
  refine (number_any n w h0 h1).mono ?_
  rintro e w' ⟨⟨r, rfl, hr⟩, hb⟩
  exact ⟨r, rfl, by show _ = _; rw [hr.out.1, numN_enc], hb⟩
set_option maxHeartbeats 2000000 in
theorem specPut_any (out : ByteArray) (o : List Nat) (a : AArg) (w : World) (ho : out.data.toList = encs o) (hg : GoodT o 40000) (ha : a.Ok) :
    Calls Tryz.prog 44 #[.string out, a.val] w (SprQ w (encs (putN o a))) := by
  obtain ⟨k, s, n⟩ := a
  obtain ⟨hk, htx, hsf, hmk, hn0, hn1⟩ := ha
  dsimp only at hk htx hsf hmk hn0 hn1
  have hos := str_size ho
  have hle := hg.le
  have hts := htx.le
  clear hsf hmk
  rcases hk with rfl | rfl | rfl | rfl | rfl | rfl
  · show Calls Tryz.prog 44 #[.string out, .agg #[.int .i64 0, .string s, .int .i64 n]] w (SprQ w (encs (unsafeN o (runes s))))
    go_enter Tryz.func44, Tryz.ntmps44
    go_wp2_with fail
    refine (specUnsafe_enc out s o (runes s) _ ho htx.en hg.sc htx.sc (by omega) (by omega)).mono ?_
    rintro e w2 ⟨y, rfl, hy, hb⟩
    go_wp2_with fail
    go_ret
    exact ⟨y, rfl, hy, ((Below.refl _ w).alloc (Nat.le_refl _) _).trans (hb.mono (by simp))⟩
  · show Calls Tryz.prog 44 #[.string out, .agg #[.int .i64 1, .string s, .int .i64 n]] w (SprQ w (encs (o ++ runes s)))
    obtain ⟨y, hadd, hysz, Hy⟩ := add_ex Tryz.prog out s (by omega)
    have HR : Hid (y.data.toList = encs (o ++ runes s)) := by show _ = _; rw [Hy.out, ho, htx.en, encs_append]
    clear htx ho
    go_enter Tryz.func44, Tryz.ntmps44
    go_wp2_with fail
    go_ret
    exact ⟨y, rfl, HR.out, (Below.refl _ w).alloc (Nat.le_refl _) _⟩
  · show Calls Tryz.prog 44 #[.string out, .agg #[.int .i64 2, .string s, .int .i64 n]] w (SprQ w (encs (unsafeN o (numN n))))
    go_enter Tryz.func44, Tryz.ntmps44
    go_wp2_with fail
    refine (number_enc n hn0 hn1 _).mono ?_
    rintro e w1 ⟨z, rfl, hz, hb1⟩
    have hzs := str_size hz.out
    rw [numN_enc] at hzs
    have hzl := numL_le n
    have HN := Lib.hid (specUnsafe_enc out z o (numN n) w1 ho hz.out hg.sc (numN_sc n) (by omega) (by omega))
    clear ho hos hzs
    go_wp2_with fail
    refine HN.out.mono ?_
    rintro e w2 ⟨y, rfl, hy, hb⟩
    go_wp2_with fail
    go_ret
    exact ⟨y, rfl, hy, ((Below.refl _ w).alloc (Nat.le_refl _) _).trans ((hb1.trans (hb.mono hb1.size)).mono (by simp))⟩
  · show Calls Tryz.prog 44 #[.string out, .agg #[.int .i64 3, .string s, .int .i64 n]] w (SprQ w (encs (o ++ numN n)))
    go_enter Tryz.func44, Tryz.ntmps44
    go_wp2_with fail
    refine (number_enc n hn0 hn1 _).mono ?_
    rintro e w1 ⟨z, rfl, hz, hb1⟩
    have hzs := str_size hz.out
    rw [numN_enc] at hzs
    have hzl := numL_le n
    obtain ⟨y, hadd, hysz, Hy⟩ := add_ex Tryz.prog out z (by omega)
    have HR : Hid (y.data.toList = encs (o ++ numN n)) := by show _ = _; rw [Hy.out, ho, hz.out, encs_append]
    clear htx ho hz
    go_wp2_with fail
    go_ret
    exact ⟨y, rfl, HR.out, ((Below.refl _ w).alloc (Nat.le_refl _) _).trans (hb1.mono (by simp))⟩
  · show Calls Tryz.prog 44 #[.string out, .agg #[.int .i64 4, .string s, .int .i64 n]] w (SprQ w (encs (o ++ runes s)))
    obtain ⟨y, hadd, hysz, Hy⟩ := add_ex Tryz.prog out s (by omega)
    have HR : Hid (y.data.toList = encs (o ++ runes s)) := by show _ = _; rw [Hy.out, ho, htx.en, encs_append]
    clear htx ho
    go_enter Tryz.func44, Tryz.ntmps44
    go_wp2_with fail
    go_ret
    exact ⟨y, rfl, HR.out, (Below.refl _ w).alloc (Nat.le_refl _) _⟩
  · show Calls Tryz.prog 44 #[.string out, .agg #[.int .i64 5, .string s, .int .i64 n]] w (SprQ w (encs (unsafeN o (runes s))))
    go_enter Tryz.func44, Tryz.ntmps44
    go_wp2_with fail
    refine (specUnsafe_enc out s o (runes s) _ ho htx.en hg.sc htx.sc (by omega) (by omega)).mono ?_
    rintro e w2 ⟨y, rfl, hy, hb⟩
    go_wp2_with fail
    go_ret
    exact ⟨y, rfl, hy, ((Below.refl _ w).alloc (Nat.le_refl _) _).trans (hb.mono (by simp))⟩
/-- The text so far, and the argument behind which it ends. -/
def SprAt (l : List AArg) (g : List Nat) (k : Nat) (acc : ByteArray) (prev : Option Bool) (o : List Nat) : Prop :=
  acc.data.toList = encs o ∧ sprG o prev (l.drop k) = g ∧ GoodT o (411 * k) ∧ (prev = none → k = 0) ∧ ∀ b, prev = some b → 0 < k ∧ ∀ h : k - 1 < l.length, (l[k - 1]'h).isText = b
set_option maxHeartbeats 4000000 in
set_option maxRecDepth 100000 in
theorem specSprint_any (v : Value) (l : List AArg) (w : World) (hA : ArgsAt w v l) (hl : l.length ≤ 10) (hok : ∀ a ∈ l, a.Ok) :
    Calls Tryz.prog 16 #[v] w (SprQ w (encs (sprG [] none l))) := by
  have hlen := fun ty => hA.len ty
  have HA := Lib.hid hA; clear hA
  have HO := Lib.hid hok; clear hok
  generalize hg : sprG [] none l = g
  have HG := Lib.hid hg; clear hg
  go_enter Tryz.func16, Tryz.ntmps16
  go_wp2_with fail
  go_loopw [8, 3] (fun i ov wr => ∃ (k : Nat) (acc : ByteArray) (prev : Option Bool) (o : List Nat), i = .int .i64 k ∧ ov = .string acc ∧ k ≤ l.length ∧ Hid (SprAt l g k acc prev o) ∧ Below w.heap.size w wr)
    (fun i _ _ => l.length - (intOf i).toNat)
  case atStart => exact ⟨0, ⟨#[]⟩, none, [], rfl, rfl, Nat.zero_le _, ⟨rfl, HG.out, GoodT.nil, fun _ => rfl, fun b hb => by cases hb⟩, Below.refl _ _⟩
  case round =>
    obtain ⟨k, acc, prev, o, rfl, rfl, hk, hst, hnx⟩ := hrel
    by_cases hlt : k < l.length
    ·
      obtain ⟨qb, qo, hix, hld0⟩ := HA.out.at_ k hlt
      obtain ⟨c0, c1, c2⟩ := hld0 wr (HA.out.below hnx)
      clear hld0
      obtain ⟨kd, tx, nn, hx⟩ : ∃ kd tx nn, l[k]'hlt = ⟨kd, tx, nn⟩ := ⟨_, _, _, rfl⟩
      rw [hx] at c0 c1 c2
      dsimp only at c0 c1 c2
      have HX := Lib.hid hx; clear hx
      have hwz := hnx.size
      have HOK : Hid (AArg.mk kd tx nn).Ok := by rw [← HX.out]; exact HO.out _ (List.getElem_mem _)
      have HST := Lib.hid (spr_step hlt hst.out.2.1)
      rw [HX.out] at HST
      have hacc := str_size hst.out.1
      have hgl := hst.out.2.2.1.le
      have hasz : acc.size ≤ 4110 := by omega
      clear hacc hgl
      obtain ⟨txv, htxv⟩ : ∃ b, (AArg.mk kd tx nn).isText = b := ⟨_, rfl⟩
      have HIS : Hid (∀ w, Calls Tryz.prog 43 #[.agg #[.int .i64 kd, .string tx, .int .i64 nn]] w (BoolQ txv w)) := fun w => by rw [← htxv]; exact isString_any kd tx nn w
      rw [htxv] at HST
      have HPV : Hid (0 < k + 1 ∧ ∀ h : k + 1 - 1 < l.length, (l[k + 1 - 1]'h).isText = txv) := ⟨by omega, fun h => by rw [← htxv, ← HX.out]; rfl⟩
      clear htxv
      have hb1 : Below w.heap.size w (wr.alloc (.cells #[.int .i64 kd, .string tx, .int .i64 nn] 47)) := hnx.alloc hwz _
      have HB1 := Lib.hid hb1; clear hb1
      cases prev with
      | none =>
        have hk0 : decide (0 < k) = false := by have := hst.out.2.2.2.1 rfl; simp; omega
        have HST : Hid (sprG (putN o ⟨kd, tx, nn⟩) (some txv) (l.drop (k + 1)) = g) := HST.out
        go_wp2_with fail
        refine (specPut_any acc o ⟨kd, tx, nn⟩ _ hst.out.1 (hst.out.2.2.1.mono (by omega)) HOK.out).mono ?_
        rintro e w4 ⟨y, rfl, hy, hb4⟩
        have HN := Lib.hid (HB1.out.trans (hb4.mono (by simp; omega))); clear hb4
        go_wp2_with fail
        go_roundw
        case rel => exact ⟨k + 1, y, some txv, _, by go_num, rfl, by omega, ⟨hy.out, HST.out, (hst.out.2.2.1.put HOK.out).mono (by omega), fun h => (by cases h), fun b hb => (by cases hb; exact HPV.out)⟩, HN.out⟩
        case measure => simp [intOf]; omega
      | some b =>
        have hkp := (hst.out.2.2.2.2 b rfl).1
        have hk0 : decide (0 < k) = true := by simp; omega
        have hlt1 : k - 1 < l.length := by omega
        have HPB := Lib.hid ((hst.out.2.2.2.2 b rfl).2 hlt1)
        have ek : ((k - 1 : Nat) : Int) = (k : Int) - 1 := by omega
        obtain ⟨pb, po, hpx, hpld⟩ := HA.out.at_ (k - 1) hlt1
        rw [ek] at hpx
        clear ek
        obtain ⟨kd1, tx1, nn1, hx1⟩ : ∃ kd tx nn, l[k - 1]'hlt1 = ⟨kd, tx, nn⟩ := ⟨_, _, _, rfl⟩
        rw [hx1] at hpld HPB
        clear hx1
        have HPL := Lib.hid hpld; clear hpld
        have HIS1 : Hid (∀ w, Calls Tryz.prog 43 #[.agg #[.int .i64 kd1, .string tx1, .int .i64 nn1]] w (BoolQ b w)) := fun w => by rw [← HPB.out]; exact isString_any kd1 tx1 nn1 w
        clear HPB hkp
        cases txv with
        | true =>
          have HST : Hid (sprG (putN o ⟨kd, tx, nn⟩) (some true) (l.drop (k + 1)) = g) := by have h := HST.out; simp only [Bool.not_true, Bool.and_false, Bool.false_eq_true, if_false] at h; exact h
          go_wp2_with fail
          refine (HIS.out _).mono ?_
          rintro e w2 ⟨rfl, hb2⟩
          have r0 : w2.cell? ⟨wr.heap.size, 0, none⟩ = some (.int .i64 kd) := (hb2.cell (p := ⟨wr.heap.size, 0, none⟩) (by simp)).trans (cell_new _ _ _ _)
          have r1 : w2.cell? ⟨wr.heap.size, 1, none⟩ = some (.string tx) := (hb2.cell (p := ⟨wr.heap.size, 1, none⟩) (by simp)).trans (cell_new _ _ _ _)
          have r2 : w2.cell? ⟨wr.heap.size, 2, none⟩ = some (.int .i64 nn) := (hb2.cell (p := ⟨wr.heap.size, 2, none⟩) (by simp)).trans (cell_new _ _ _ _)
          have hb := HB1.out.trans (hb2.mono HB1.out.size)
          clear hb2
          go_wp2_with fail
          refine (specPut_any acc o ⟨kd, tx, nn⟩ _ hst.out.1 (hst.out.2.2.1.mono (by omega)) HOK.out).mono ?_
          rintro e w4 ⟨y, rfl, hy, hb4⟩
          have HN := Lib.hid (hb.trans (hb4.mono hb.size)); clear hb4
          go_wp2_with fail
          go_roundw
          case rel => exact ⟨k + 1, y, some true, _, by go_num, rfl, by omega, ⟨hy.out, HST.out, (hst.out.2.2.1.put HOK.out).mono (by omega), fun h => (by cases h), fun b hb => (by cases hb; exact HPV.out)⟩, HN.out⟩
          case measure => simp [intOf]; omega
        | false =>
          cases b with
          | true =>
            have HST : Hid (sprG (putN o ⟨kd, tx, nn⟩) (some false) (l.drop (k + 1)) = g) := HST.out
            go_wp2_with fail
            refine (HIS.out _).mono ?_
            rintro e w2 ⟨rfl, hb2⟩
            obtain ⟨p0, p1, p2⟩ := HPL.out w2 (HA.out.below (HB1.out.trans (hb2.mono HB1.out.size)))
            have HB2 := Lib.hid hb2; clear hb2
            go_wp2_with fail
            refine (HIS1.out _).mono ?_
            rintro e w3 ⟨rfl, hb3⟩
            clear p0 p1 p2
            have hb23 := HB2.out.trans (hb3.mono HB2.out.size)
            have r0 : w3.cell? ⟨wr.heap.size, 0, none⟩ = some (.int .i64 kd) := (hb23.cell (p := ⟨wr.heap.size, 0, none⟩) (by simp)).trans (cell_new _ _ _ _)
            have r1 : w3.cell? ⟨wr.heap.size, 1, none⟩ = some (.string tx) := (hb23.cell (p := ⟨wr.heap.size, 1, none⟩) (by simp)).trans (cell_new _ _ _ _)
            have r2 : w3.cell? ⟨wr.heap.size, 2, none⟩ = some (.int .i64 nn) := (hb23.cell (p := ⟨wr.heap.size, 2, none⟩) (by simp)).trans (cell_new _ _ _ _)
            have hb := HB1.out.trans (hb23.mono HB1.out.size)
            clear hb3 hb23
            go_wp2_with fail
            refine (specPut_any acc o ⟨kd, tx, nn⟩ _ hst.out.1 (hst.out.2.2.1.mono (by omega)) HOK.out).mono ?_
            rintro e w4 ⟨y, rfl, hy, hb4⟩
            have HN := Lib.hid (hb.trans (hb4.mono hb.size)); clear hb4
            go_wp2_with fail
            go_roundw
            case rel => exact ⟨k + 1, y, some false, _, by go_num, rfl, by omega, ⟨hy.out, HST.out, (hst.out.2.2.1.put HOK.out).mono (by omega), fun h => (by cases h), fun b hb => (by cases hb; exact HPV.out)⟩, HN.out⟩
            case measure => simp [intOf]; omega
          | false =>
            have HST : Hid (sprG (putN (o ++ [32]) ⟨kd, tx, nn⟩) (some false) (l.drop (k + 1)) = g) := HST.out
            obtain ⟨acc2, hadd, hysz, Hy⟩ := add_ex Tryz.prog acc ⟨#[32]⟩ (by show acc.size + 1 ≤ _; omega)
            have HA2 : Hid (acc2.data.toList = encs (o ++ [32])) := by show _ = _; rw [Hy.out, hst.out.1, encs_append, encs_one, encL_ascii 32 (by omega)]; rfl
            clear Hy hysz
            go_wp2_with fail
            refine (HIS.out _).mono ?_
            rintro e w2 ⟨rfl, hb2⟩
            obtain ⟨p0, p1, p2⟩ := HPL.out w2 (HA.out.below (HB1.out.trans (hb2.mono HB1.out.size)))
            have HB2 := Lib.hid hb2; clear hb2
            go_wp2_with fail
            refine (HIS1.out _).mono ?_
            rintro e w3 ⟨rfl, hb3⟩
            clear p0 p1 p2
            have hb23 := HB2.out.trans (hb3.mono HB2.out.size)
            have r0 : w3.cell? ⟨wr.heap.size, 0, none⟩ = some (.int .i64 kd) := (hb23.cell (p := ⟨wr.heap.size, 0, none⟩) (by simp)).trans (cell_new _ _ _ _)
            have r1 : w3.cell? ⟨wr.heap.size, 1, none⟩ = some (.string tx) := (hb23.cell (p := ⟨wr.heap.size, 1, none⟩) (by simp)).trans (cell_new _ _ _ _)
            have r2 : w3.cell? ⟨wr.heap.size, 2, none⟩ = some (.int .i64 nn) := (hb23.cell (p := ⟨wr.heap.size, 2, none⟩) (by simp)).trans (cell_new _ _ _ _)
            have hb := HB1.out.trans (hb23.mono HB1.out.size)
            clear hb3 hb23
            go_wp2_with fail
            refine (specPut_any acc2 (o ++ [32]) ⟨kd, tx, nn⟩ _ HA2.out (hst.out.2.2.1.blank.mono (by omega)) HOK.out).mono ?_
            rintro e w4 ⟨y, rfl, hy, hb4⟩
            have HN := Lib.hid (hb.trans (hb4.mono hb.size)); clear hb4
            go_wp2_with fail
            go_roundw
            case rel => exact ⟨k + 1, y, some false, _, by go_num, rfl, by omega, ⟨hy.out, HST.out, (hst.out.2.2.1.blank.put HOK.out).mono (by omega), fun h => (by cases h), fun b hb => (by cases hb; exact HPV.out)⟩, HN.out⟩
            case measure => simp [intOf]; omega
    · have hfin : o = g := by
        have h := hst.out.2.1
        rw [List.drop_of_length_le (by omega)] at h
        exact h
      have HF : Hid (acc.data.toList = encs g) := by rw [← hfin]; exact hst.out.1
      clear hfin
      go_wp2_with fail
      go_ret
      exact ⟨acc, rfl, HF.out, hnx⟩
end Go.Proofs.YtlmcglaajmjanaaGreatDoor

namespace Go.Proofs.YtlmcglaajmjanaaGreatDoor
open Go.RowKit
attribute [local irreducible] Utf8.encode Utf8.decode
/-- v is a slice of ints that reads ks. -/
def IntsAt (w : World) (v : Value) (ks : List Int) : Prop :=
  ∃ (b c : Nat), v = .slice (some ⟨b, 0, none⟩) ks.length c ∧ ks.length ≤ c ∧ c ≤ 1000 ∧ ∀ j (h : j < ks.length), w.cell? ⟨b, j, none⟩ = some (.int .i64 (ks[j]'h))
theorem und_ints : Tryz.prog.underlying 25 = some (.slice (Tryz.prog.elem 25)) := by
  have e : Tryz.prog.elem 25 = 3 := by kernel_rfl
  rw [e]; exact Tryz.underlying25
theorem elem_ints : Tryz.prog.elem 25 = 3 := by kernel_rfl
theorem IntsAt.below {w w' : World} {v : Value} {ks : List Int} (h : IntsAt w v ks) (hb : Below w.heap.size w w') : IntsAt w' v ks := by
  obtain ⟨b, c, hv, hc, hm, hx⟩ := h
  exact ⟨b, c, hv, hc, hm, fun j hj => by rw [hb.cell (World.block_lt_of_cell? w _ (hx j hj))]; exact hx j hj⟩
theorem IntsAt.len {w : World} {v : Value} {ks : List Int} (h : IntsAt w v ks) (ty : TypeId) : ∀ w', (Builtin.len_ #[25] ty #[v]).run Tryz.prog w' = .ok (.int .i64 ks.length) w' := by
  obtain ⟨b, c, rfl, hc, hm, hx⟩ := h
  intro w'
  exact run_len_slice w' _ _ _ _ _ und_ints
theorem IntsAt.at_ {w : World} {v : Value} {ks : List Int} (h : IntsAt w v ks) (i : Nat) (h1 : i < ks.length) :
    ∃ a : Addr, (∀ w', (Instr.indexAt 25 v (.int .i64 i)).run Tryz.prog w' = .ok (.pointer (some a)) w') ∧ ∀ W, IntsAt W v ks → W.cell? a = some (.int .i64 (ks[i]'h1)) := by
  obtain ⟨b, c, rfl, hc, hm, hx⟩ := h
  refine ⟨⟨b, i, none⟩, fun w' => ?_, ?_⟩
  · have h3 : ¬ ks.length ≤ i := by omega
    simp [Instr.indexAt, asIntOf, run_underlying und_ints, elem_ints, h3, add_plain]
  · rintro W ⟨b2, c2, hv, hc2, hm2, hx2⟩
    injection hv with e1 e2 e3
    injection e1 with e1
    injection e1 with e1 _ _
    subst e1
    exact hx2 i h1
def IntsQ (ks : List Int) (w : World) (e : Ending) (w' : World) : Prop := ∃ v, e = .returned v ∧ Hid (IntsAt w' v ks) ∧ Below w.heap.size w w'
def prKinds : List Int := [0, 1, 2, 3, 4, 5]
def buKinds : List Int := [0, 1, 3, 4, 5, 6, 7, 8, 9, 10]
theorem ints_new (w : World) (ks : List Int) (h : ks.length ≤ 1000) : IntsAt (w.alloc (.cells (ks.map fun k => Value.int .i64 k).toArray 3)) (.slice (some ⟨w.heap.size, 0, none⟩) ks.length ks.length) ks :=
  ⟨w.heap.size, ks.length, rfl, Nat.le_refl _, h, fun j hj => by rw [cell_new]; simp [hj]⟩
theorem printed_any (w : World) : Calls Tryz.prog 15 #[] w (IntsQ prKinds w) := by
  go_enter Tryz.func15, Tryz.ntmps15
  go_wp2
  go_ret
  exact ⟨_, rfl, ints_new w prKinds (by decide), (Below.refl _ _).alloc (Nat.le_refl _) _⟩
theorem built_any (w : World) : Calls Tryz.prog 36 #[] w (IntsQ buKinds w) := by
  go_enter Tryz.func36, Tryz.ntmps36
  go_wp2
  go_ret
  exact ⟨_, rfl, ints_new w buKinds (by decide), (Below.refl _ _).alloc (Nat.le_refl _) _⟩
def numBad (a : AArg) : Bool := decide (7 ≤ a.kind) && (decide (a.n < 0) || decide (127 < a.n))
def argB (ks : List Int) (a : AArg) : Bool :=
  ks.any (fun k => a.kind == k) && plainB a.text.data.toList && !(a.kind == 1 && !safeB a.text.data.toList) && !(a.kind == 4 && !markB a.text.data.toList) && !numBad a
def areB (ks : List Int) (l : List AArg) : Bool := decide (l.length ≤ 10) && l.all (argB ks)
theorem any_take {ks : List Int} {kd : Int} {j : Nat} (hj : j < ks.length) : (ks.take (j + 1)).any (fun k => kd == k) = ((ks.take j).any (fun k => kd == k) || kd == ks[j]'hj) := by
  rw [List.take_succ_eq_append_getElem hj, List.any_append]; simp
set_option maxHeartbeats 4000000 in
set_option maxRecDepth 100000 in
theorem areArgs_any (v kv : Value) (l : List AArg) (ks : List Int) (w : World) (hA : ArgsAt w v l) (hK : IntsAt w kv ks) (hks : ks.length ≤ 20) (ht : TextOk l) :
    Calls Tryz.prog 14 #[v, kv] w (BoolQ (areB ks l) w) := by
  have hlen := fun ty => hA.len ty
  have hklen := fun ty => hK.len ty
  have hle := hA.le
  have HA := Lib.hid hA; clear hA
  have HK := Lib.hid hK; clear hK
  have HT := Lib.hid ht; clear ht
  by_cases h10 : l.length ≤ 10
  · have hg : areB ks l = (l.drop 0).all (argB ks) := by unfold areB; rw [decide_eq_true h10, Bool.true_and]; rfl
    generalize areB ks l = g at hg ⊢
    have HG := Lib.hid hg; clear hg
    go_enter Tryz.func14, Tryz.ntmps14
    go_wp2_with fail
    go_loopw [15] (fun i wr => ∃ k : Nat, i = .int .i64 k ∧ k ≤ l.length ∧ Hid ((l.drop k).all (argB ks) = g) ∧ Below w.heap.size w wr)
      (fun i _ => l.length - (intOf i).toNat)
    case atStart => exact ⟨0, rfl, Nat.zero_le _, HG.out.symm, Below.refl _ _⟩
    case round =>
      obtain ⟨k, rfl, hk, hacc, hnx⟩ := hrel
      by_cases hlt : k < l.length
      ·
        obtain ⟨qb, qo, hix, hld0⟩ := HA.out.at_ k hlt
        obtain ⟨c0, c1, c2⟩ := hld0 wr (HA.out.below hnx)
        clear hld0
        obtain ⟨kd, tx, nn, hx⟩ : ∃ kd tx nn, l[k]'hlt = ⟨kd, tx, nn⟩ := ⟨_, _, _, rfl⟩
        rw [hx] at c0 c1 c2
        dsimp only at c0 c1 c2
        have HX := Lib.hid hx; clear hx
        have hwz := hnx.size
        have HS := Lib.hid (all_drop hlt hacc.out)
        rw [HX.out] at HS
        have htx : tx.size ≤ 9223372036854775807 := by have := HT.out _ (List.getElem_mem hlt); rw [HX.out] at this; exact this
        have HB1 := Lib.hid (hnx.alloc (o := .cells #[.int .i64 kd, .string tx, .int .i64 nn] 47) hwz)
        go_wp2_with fail
        go_loop [7, 21] (fun kn jv => ∃ j : Nat, j ≤ ks.length ∧ jv = .int .i64 j ∧ kn = .bool ((ks.take j).any fun k => kd == k)) (fun _ jv => ks.length - (intOf jv).toNat)
        case atStart => exact ⟨0, Nat.zero_le _, rfl, rfl⟩
        case round =>
          obtain ⟨j, hj, rfl, rfl⟩ := hrel
          by_cases hjl : j < ks.length
          · obtain ⟨ka, hkx, hkc⟩ := HK.out.at_ j hjl
            have hkc := hkc _ (HK.out.below HB1.out)
            have HTK := Lib.hid (any_take (kd := kd) hjl)
            obtain ⟨kj, hkj⟩ : ∃ kj, ks[j]'hjl = kj := ⟨_, rfl⟩
            rw [hkj] at hkc HTK
            clear hkj
            obtain ⟨kn, hkn⟩ : ∃ kn, ((ks.take j).any fun k => kd == k) = kn := ⟨_, rfl⟩
            rw [hkn] at HTK ⊢
            clear hkn
            cases kn with
            | true =>
              have HTK : Hid (((ks.take (j + 1)).any fun k => kd == k) = true) := HTK.out
              go_wp2_with fail
              go_round
              case rel => exact ⟨j + 1, by omega, by go_num, by rw [HTK.out]⟩
              case measure => simp [intOf]; omega
            | false =>
              have HTK : Hid (((ks.take (j + 1)).any fun k => kd == k) = (kd == kj)) := by show _ = _; rw [HTK.out, Bool.false_or]
              go_wp2_with fail
              go_round
              case rel => exact ⟨j + 1, by omega, by go_num, by rw [HTK.out]⟩
              case measure => simp [intOf]; omega
          · obtain rfl : j = ks.length := by omega
            rw [List.take_length]
            have HARG : Hid (argB ks ⟨kd, tx, nn⟩ = (ks.any (fun k => kd == k) && plainB tx.data.toList && !(kd == 1 && !safeB tx.data.toList) && !(kd == 4 && !markB tx.data.toList) && !numBad ⟨kd, tx, nn⟩)) := rfl
            have HPL := Lib.hid (fun w => isPlain_any tx w htx)
            have HSF := Lib.hid (fun w => isSafe_any tx w htx)
            have HMK := Lib.hid (fun w => isMarked_any tx w htx)
            generalize plainB tx.data.toList = pl at HARG HPL
            generalize safeB tx.data.toList = sf at HARG HSF
            generalize markB tx.data.toList = mk at HARG HMK
            generalize ks.any (fun k => kd == k) = kn at HARG ⊢
            cases kn with
            | false =>
              have hg : g = false := HS.out.1 (by rw [HARG.out]; rfl)
              subst hg
              go_wp2_with fail
              go_ret
              exact ⟨rfl, HB1.out⟩
            | true =>
              cases pl with
              | false =>
                have hg : g = false := HS.out.1 (by rw [HARG.out]; rfl)
                subst hg
                go_wp2_with fail
                refine (HPL.out _).mono ?_
                rintro e w2 ⟨rfl, hb2⟩
                go_wp2_with fail
                go_ret
                exact ⟨rfl, HB1.out.trans (hb2.mono HB1.out.size)⟩
              | true =>
                go_wp2_with fail
                refine (HPL.out _).mono ?_
                rintro e w2 ⟨rfl, hb2⟩
                have r0 : w2.cell? ⟨wr.heap.size, 0, none⟩ = some (.int .i64 kd) := (hb2.cell (p := ⟨wr.heap.size, 0, none⟩) (by simp)).trans (cell_new _ _ _ _)
                have r1 : w2.cell? ⟨wr.heap.size, 1, none⟩ = some (.string tx) := (hb2.cell (p := ⟨wr.heap.size, 1, none⟩) (by simp)).trans (cell_new _ _ _ _)
                have r2 : w2.cell? ⟨wr.heap.size, 2, none⟩ = some (.int .i64 nn) := (hb2.cell (p := ⟨wr.heap.size, 2, none⟩) (by simp)).trans (cell_new _ _ _ _)
                have HB2 := Lib.hid (HB1.out.trans (hb2.mono HB1.out.size))
                have HBR := Lib.hid hb2; clear hb2
                by_cases k1 : kd = 1
                · subst k1
                  cases sf with
                  | false =>
                    have hg : g = false := HS.out.1 (by rw [HARG.out]; rfl)
                    subst hg
                    go_wp2_with fail
                    refine (HSF.out _).mono ?_
                    rintro e w3 ⟨rfl, hb3⟩
                    go_wp2_with fail
                    go_ret
                    exact ⟨rfl, HB2.out.trans (hb3.mono HB2.out.size)⟩
                  | true =>
                    have HR := Lib.hid (HS.out.2 (by rw [HARG.out]; rfl))
                    clear r0 r1 r2
                    have r0 : w2.cell? ⟨wr.heap.size, 0, none⟩ = some (.int .i64 1) := (HBR.out.cell (p := ⟨wr.heap.size, 0, none⟩) (by simp)).trans (cell_new _ _ _ _)
                    have r1 : w2.cell? ⟨wr.heap.size, 1, none⟩ = some (.string tx) := (HBR.out.cell (p := ⟨wr.heap.size, 1, none⟩) (by simp)).trans (cell_new _ _ _ _)
                    go_wp2_with fail
                    refine (HSF.out _).mono ?_
                    rintro e w3 ⟨rfl, hb3⟩
                    have r3 : w3.cell? ⟨wr.heap.size, 0, none⟩ = some (.int .i64 1) := (hb3.cell (p := ⟨wr.heap.size, 0, none⟩) (World.block_lt_of_cell? _ _ r0)).trans r0
                    have HB3 := Lib.hid (HB2.out.trans (hb3.mono HB2.out.size)); clear hb3
                    go_wp2_with fail
                    go_roundw
                    case rel => exact ⟨k + 1, by go_num, by omega, HR.out, HB3.out⟩
                    case measure => simp [intOf]; omega
                · have k1b : (kd == 1) = false := beq_eq_false_iff_ne.2 k1
                  by_cases k4 : kd = 4
                  · subst k4
                    clear k1
                    cases mk with
                    | false =>
                      have hg : g = false := HS.out.1 (by rw [HARG.out]; rfl)
                      subst hg
                      go_wp2_with fail
                      refine (HMK.out _).mono ?_
                      rintro e w3 ⟨rfl, hb3⟩
                      go_wp2_with fail
                      go_ret
                      exact ⟨rfl, HB2.out.trans (hb3.mono HB2.out.size)⟩
                    | true =>
                      have HR := Lib.hid (HS.out.2 (by rw [HARG.out]; rfl))
                      go_wp2_with fail
                      refine (HMK.out _).mono ?_
                      rintro e w3 ⟨rfl, hb3⟩
                      have r3 : w3.cell? ⟨wr.heap.size, 0, none⟩ = some (.int .i64 4) := (hb3.cell (p := ⟨wr.heap.size, 0, none⟩) (World.block_lt_of_cell? _ _ r0)).trans r0
                      have HB3 := Lib.hid (HB2.out.trans (hb3.mono HB2.out.size)); clear hb3
                      go_wp2_with fail
                      go_roundw
                      case rel => exact ⟨k + 1, by go_num, by omega, HR.out, HB3.out⟩
                      case measure => simp [intOf]; omega
                  · have k4b : (kd == 4) = false := beq_eq_false_iff_ne.2 k4
                    have HARG : Hid (argB ks ⟨kd, tx, nn⟩ = !(decide (7 ≤ kd) && (decide (nn < 0) || decide (127 < nn)))) := by show _ = _; rw [HARG.out, k1b, k4b]; rfl
                    clear k1 k4
                    by_cases k7 : 7 ≤ kd
                    · have d7 : decide (7 ≤ kd) = true := decide_eq_true k7
                      by_cases n0 : nn < 0
                      · have d0 : decide (nn < 0) = true := decide_eq_true n0
                        have hg : g = false := HS.out.1 (by rw [HARG.out, d7, d0]; rfl)
                        subst hg
                        clear k7 n0
                        go_wp2_with fail
                        go_ret
                        exact ⟨rfl, HB2.out⟩
                      · have d0 : decide (nn < 0) = false := decide_eq_false n0
                        by_cases n1 : 127 < nn
                        · have d1 : decide (127 < nn) = true := decide_eq_true n1
                          have hg : g = false := HS.out.1 (by rw [HARG.out, d7, d0, d1]; rfl)
                          subst hg
                          clear k7 n0 n1
                          go_wp2_with fail
                          go_ret
                          exact ⟨rfl, HB2.out⟩
                        · have d1 : decide (127 < nn) = false := decide_eq_false n1
                          have HR := Lib.hid (HS.out.2 (by rw [HARG.out, d7, d0, d1]; rfl))
                          clear k7 n0 n1
                          go_wp2_with fail
                          go_roundw
                          case rel => exact ⟨k + 1, by go_num, by omega, HR.out, HB2.out⟩
                          case measure => simp [intOf]; omega
                    · have d7 : decide (7 ≤ kd) = false := decide_eq_false k7
                      have HR := Lib.hid (HS.out.2 (by rw [HARG.out, d7]; rfl))
                      clear k7
                      go_wp2_with fail
                      go_roundw
                      case rel => exact ⟨k + 1, by go_num, by omega, HR.out, HB2.out⟩
                      case measure => simp [intOf]; omega
      · have hfin : g = true := by
          have h := hacc.out
          rw [List.drop_of_length_le (by omega)] at h
          exact h.symm
        subst hfin
        go_wp2_with fail
        go_ret
        exact ⟨rfl, hnx⟩
  · have hg : areB ks l = false := by unfold areB; rw [decide_eq_false h10, Bool.false_and]
    rw [hg]
    clear hg
    go_enter Tryz.func14, Tryz.ntmps14
    go_wp2_with fail
    go_ret
    exact ⟨rfl, Below.refl _ _⟩
end Go.Proofs.YtlmcglaajmjanaaGreatDoor

namespace Go.Proofs.YtlmcglaajmjanaaGreatDoor
open Go.RowKit
theorem isM_sc {m : Nat} (hm : isM m = true) : Sc m := by rcases (isM_iff m).1 hm with rfl | rfl | rfl <;> unfold Sc <;> omega
theorem encM_len {m : Nat} (hm : isM m = true) : (encL m).length = 3 := by
  rcases (isM_iff m).1 hm with rfl | rfl | rfl
  · rw [encS]; rfl
  · rw [encE]; rfl
  · rw [encH]; rfl
/-- Within another rune's bytes no marker begins. -/
theorem no_at {m r : Nat} (hm : isM m = true) (hr : Sc r) (hne : r ≠ m) (rest : List UInt8) : ∀ i, i < (encL r).length → ¬ ((encL r ++ rest).drop i).take (encL m).length = encL m := by
  intro i hi h
  rw [encM_len hm] at h
  have hmk : isMk (((encL r ++ rest).drop i).take 3) = true := by rw [h, isMk_enc (isM_sc hm), hm]
  by_cases h0 : i = 0
  · subst h0
    cases hr2 : isM r with
    | false => rw [noMk_in hr hr2 _ 0 hi] at hmk; cases hmk
    | true =>
      have h3 : 2048 ≤ r ∧ r < 65536 := by rcases (isM_iff r).1 hr2 with rfl | rfl | rfl <;> omega
      rw [List.drop_zero, take3_enc hr h3] at h
      exact hne (encL_inj hr (isM_sc hm) h)
  · exact absurd (isMk_head hmk) (cont_in hr _ i (by omega) hi)
theorem idx_skip (p : List UInt8) : ∀ (c rest : List UInt8), (∀ i, i < c.length → ¬ ((c ++ rest).drop i).take p.length = p) → idxL p (c ++ rest) = (idxL p rest).map (· + c.length) := by
  intro c
  induction c with
  | nil => intro rest _; simp
  | cons x c ih =>
    intro rest h
    have h0 := h 0 (by simp)
    rw [List.cons_append, idxL_miss p _ x (by simpa using h0), ih rest (fun i hi => by have := h (i + 1) (by simp; omega); simpa using this), Option.map_map]
    congr 1
theorem idx_enc {m : Nat} (hm : isM m = true) : ∀ (a b : List Nat), Scs a → m ∉ a → idxL (encL m) (encs a ++ encs (m :: b)) = some (encs a).length := by
  intro a
  induction a with
  | nil =>
    intro b _ _
    rw [encs_nil, List.nil_append, encs_cons]
    exact idxL_hit _ _ (by rw [List.take_left' rfl])
  | cons r a ih =>
    intro b hs hn
    have hr : r ≠ m := fun e => hn (e ▸ List.mem_cons_self ..)
    rw [encs_cons, List.append_assoc, idx_skip _ _ _ (no_at hm hs.head hr _), ih b hs.tail (fun h => hn (List.mem_cons_of_mem _ h))]
    simp; omega
theorem idx_none {m : Nat} (hm : isM m = true) : ∀ (a : List Nat), Scs a → m ∉ a → idxL (encL m) (encs a) = none := by
  intro a
  induction a with
  | nil => intro _ _; exact idxL_short _ _ (by rw [encM_len hm]; simp [encs_nil])
  | cons r a ih =>
    intro hs hn
    have hr : r ≠ m := fun e => hn (e ▸ List.mem_cons_self ..)
    rw [encs_cons, idx_skip _ _ _ (no_at hm hs.head hr _), ih hs.tail (fun h => hn (List.mem_cons_of_mem _ h))]; rfl
theorem split_at (m : Nat) : ∀ o : List Nat, m ∈ o → ∃ a b, o = a ++ m :: b ∧ m ∉ a := by
  intro o
  induction o with
  | nil => intro h; cases h
  | cons r o ih =>
    intro h
    by_cases hr : r = m
    · exact ⟨[], o, by rw [hr]; rfl, by simp⟩
    · rcases List.mem_cons.1 h with h | h
      · exact absurd h.symm hr
      · obtain ⟨a, b, rfl, hn⟩ := ih h
        exact ⟨r :: a, b, rfl, fun h => by
          rcases List.mem_cons.1 h with h | h
          · exact hr h.symm
          · exact hn h⟩
/-- Outside, without a marker that begins: no marker at all. -/
theorem out_noM : ∀ (a : List Nat), 8249 ∉ a → a.foldl mkQ 0 ≠ 3 → NoM a ∧ a.foldl mkQ 0 = 0 := by
  intro a
  induction a with
  | nil => intro _ _; exact ⟨NoM.nil, rfl⟩
  | cons r a ih =>
    intro hn h
    have hr : r ≠ 8249 := fun e => hn (e ▸ List.mem_cons_self ..)
    rw [List.foldl_cons] at h ⊢
    by_cases hb : r = 8250 ∨ r = 8224
    · have : mkQ 0 r = 3 := by unfold mkQ; rw [if_pos rfl, if_neg hr, if_pos hb]
      rw [this, mkQ_bad] at h; exact absurd rfl h
    · have h0 : mkQ 0 r = 0 := by unfold mkQ; rw [if_pos rfl, if_neg hr, if_neg hb]
      rw [h0] at h ⊢
      have := ih (fun h => hn (List.mem_cons_of_mem _ h)) h
      refine ⟨fun x hx => ?_, this.2⟩
      rcases List.mem_cons.1 hx with rfl | hx
      · unfold isM; simp; omega
      · exact this.1 x hx
/-- Inside, up to the marker that ends: no marker, no new line; and it is reached. -/
theorem in_noM : ∀ (b : List Nat) (q : Nat), q = 1 ∨ q = 2 → b.foldl mkQ q = 0 → ∃ c d, b = c ++ 8250 :: d ∧ NoM c ∧ 8250 ∉ c ∧ d.foldl mkQ 0 = 0 := by
  intro b
  induction b with
  | nil => intro q hq h; rcases hq with rfl | rfl <;> cases h
  | cons r b ih =>
    intro q hq h
    rw [List.foldl_cons] at h
    by_cases hE : r = 8250
    · subst hE
      have : mkQ q 8250 = if q = 2 then 0 else 3 := by rcases hq with rfl | rfl <;> rfl
      rw [this] at h
      split at h
      · exact ⟨[], b, rfl, NoM.nil, by simp, h⟩
      · rw [mkQ_bad] at h; cases h
    · by_cases hb : r = 8249 ∨ r = 8224 ∨ r = 10
      · have : mkQ q r = 3 := by unfold mkQ; rw [if_neg (by omega), if_neg (by omega), if_neg hE, if_pos hb]
        rw [this, mkQ_bad] at h; cases h
      · have : mkQ q r = 2 := by unfold mkQ; rw [if_neg (by omega), if_neg (by omega), if_neg hE, if_neg hb]
        rw [this] at h
        obtain ⟨c, d, rfl, h1, h2, h3⟩ := ih 2 (.inr rfl) h
        refine ⟨r :: c, d, rfl, fun x hx => ?_, fun hx => ?_, h3⟩
        · rcases List.mem_cons.1 hx with rfl | hx
          · unfold isM; simp; omega
          · exact h1 x hx
        · rcases List.mem_cons.1 hx with hx | hx
          · exact hE hx.symm
          · exact h2 hx
theorem redN_out : ∀ (a b : List Nat), NoM a → redN false (a ++ b) = a ++ redN false b := by
  intro a
  induction a with
  | nil => intro b _; rfl
  | cons r a ih =>
    intro b h
    obtain ⟨h1, h2, _⟩ := isM_false (h r (List.mem_cons_self ..))
    rw [List.cons_append]
    simp only [redN, if_neg h1, if_neg h2, Bool.false_eq_true, if_false]
    rw [ih b (fun x hx => h x (List.mem_cons_of_mem _ hx))]; rfl
theorem redN_in : ∀ (c d : List Nat), NoM c → redN true (c ++ 8250 :: d) = redN false d := by
  intro c
  induction c with
  | nil => intro d _; simp [redN]
  | cons r c ih =>
    intro d h
    obtain ⟨h1, h2, _⟩ := isM_false (h r (List.mem_cons_self ..))
    rw [List.cons_append]
    simp only [redN, if_neg h1, if_neg h2, if_true]
    exact ih d (fun x hx => h x (List.mem_cons_of_mem _ hx))
/-- The package's redaction of a right text is the reference's. -/
theorem redL_enc : ∀ (n : Nat) (o : List Nat), o.length ≤ n → Scs o → Mk o → redL (encs o) = encs (redN false o) := by
  intro n
  induction n with
  | zero =>
    intro o hn _ _
    have : o = [] := List.eq_nil_of_length_eq_zero (by omega)
    subst this; rfl
  | succ n ih =>
    intro o hn hs hm
    by_cases h : 8249 ∈ o
    · obtain ⟨a, b, rfl, ha⟩ := split_at 8249 o h
      have hm0 : (8249 :: b).foldl mkQ (a.foldl mkQ 0) = 0 := by
        have h1 := hm
        unfold Mk mkS_ at h1
        rw [List.foldl_append] at h1
        exact h1
      have ha3 : a.foldl mkQ 0 ≠ 3 := by intro h3; rw [h3, mkQ_bad] at hm0; cases hm0
      obtain ⟨hna, ha0⟩ := out_noM a ha ha3
      rw [ha0, List.foldl_cons] at hm0
      obtain ⟨c, d, rfl, hc, hcE, hd⟩ := in_noM b 1 (.inl rfl) hm0
      have hsd : Scs d := hs.right.tail.right.tail
      have hsc : Scs c := hs.right.tail.left
      have h1 : idxL mkS (encs (a ++ 8249 :: (c ++ 8250 :: d))) = some (encs a).length := by rw [← encS, encs_append]; exact idx_enc rfl a _ hs.left ha
      have hdr : (encs (a ++ 8249 :: (c ++ 8250 :: d))).drop ((encs a).length + 3) = encs c ++ encs (8250 :: d) := by
        rw [encs_append, encs_cons, ← List.append_assoc, encs_append]
        exact List.drop_left' (by rw [List.length_append, encM_len rfl])
      have h2 : idxL mkE ((encs (a ++ 8249 :: (c ++ 8250 :: d))).drop ((encs a).length + 3)) = some (encs c).length := by rw [hdr, ← encE]; exact idx_enc rfl c d hsc hcE
      rw [redL_shut h1 h2]
      have e1 : (encs (a ++ 8249 :: (c ++ 8250 :: d))).take (encs a).length = encs a := by rw [encs_append]; exact List.take_left' rfl
      have e2 : (encs (a ++ 8249 :: (c ++ 8250 :: d))).drop ((encs a).length + 3 + (encs c).length + 3) = encs d := by
        rw [show (encs a).length + 3 + (encs c).length + 3 = (encs a).length + 3 + ((encs c).length + 3) by omega, ← List.drop_drop, hdr, encs_cons, ← List.append_assoc]
        exact List.drop_left' (by rw [List.length_append, encM_len rfl])
      rw [e1, e2, ih d (by simp at hn; omega) hsd hd, redN_out _ _ hna]
      have e3 : redN false (8249 :: (c ++ 8250 :: d)) = [8249, 215, 8250] ++ redN true (c ++ 8250 :: d) := by simp [redN]
      rw [e3, redN_in c d hc, encs_append, encs_append, encX, List.append_assoc]
    · have hnm := (out_noM o h (by have h1 := hm; unfold Mk mkS_ at h1; rw [h1]; omega)).1
      have h1 : idxL mkS (encs o) = none := by rw [← encS]; exact idx_none rfl o hs h
      rw [redL_none h1]
      have := redN_out o [] hnm
      rw [List.append_nil] at this
      rw [this]; simp [redN]
end Go.Proofs.YtlmcglaajmjanaaGreatDoor

namespace Go.Proofs.YtlmcglaajmjanaaGreatDoor
open Go.RowKit
attribute [local irreducible] Utf8.encode Utf8.decode
/-- The one argument of marks. -/
def a0 : AArg := ⟨0, ⟨#[97]⟩, 0⟩
theorem runes_a : runes ⟨#[97]⟩ = [97] := by
  have : runesL [97] = [97] := runesL_ascii [97] (fun b hb => by simp at hb; subst hb; decide)
  exact this
theorem a0_ok : a0.Ok := by
  refine ⟨.inl rfl, ⟨?_, ?_, by decide⟩, (fun h => by cases h), (fun h => by cases h), by decide, by decide⟩
  · show Scs (runes ⟨#[97]⟩); rw [runes_a]; exact Scs.one (sc_lt (by omega))
  · show _ = encs (runes ⟨#[97]⟩); rw [runes_a, encs_one, encL_ascii 97 (by omega)]; rfl
theorem a0_spr : encs (sprG [] none [a0]) = [226, 128, 185, 97, 226, 128, 186] := by
  have h1 : sprG [] none [a0] = unsafeN [] (runes ⟨#[97]⟩) := rfl
  rw [h1, runes_a]
  have h2 : unsafeN [] [97] = [8249, 97, 8250] := by decide
  rw [h2, encs_cons, encs_cons, encs_one, encS, encE, encL_ascii 97 (by omega)]; rfl
theorem a0_red : redL [226, 128, 185, 97, 226, 128, 186] = [226, 128, 185, 195, 151, 226, 128, 186] := by decide
theorem a0_at (w : World) : ArgsAt (w.alloc (.cells #[.int .i64 0, .string ⟨#[97]⟩, .int .i64 0] 47)) (.slice (some ⟨w.heap.size, 0, none⟩) 1 1) [a0] :=
  ⟨_, ⟨w.heap.size, 0, none⟩, 1, rfl, by decide, by decide, .inr rfl, fun j hj => by
    obtain rfl : j = 0 := by simp at hj; omega
    exact ⟨cell_new _ _ _ 0, cell_new _ _ _ 1, cell_new _ _ _ 2⟩⟩
theorem marks_true (w : World) (hT : TabW w) : Calls Tryz.prog 20 #[] w (ValQ (.bool true) w) := by
  have hb0 : Below w.heap.size w (w.alloc (.cells #[.int .i64 0, .string ⟨#[97]⟩, .int .i64 0] 47)) := (Below.refl _ w).alloc (Nat.le_refl _) _
  have HS := Lib.hid (implSprint_any _ [a0] _ (hT.below hb0) (a0_at w) (by decide) (fun a ha => by simp at ha; subst ha; exact a0_ok))
  rw [a0_spr] at HS
  have HB0 := Lib.hid hb0; clear hb0 hT
  go_enter Tryz.func20, Tryz.ntmps20
  go_wp2_with fail
  refine HS.out.mono ?_
  rintro e w1 ⟨y, rfl, hy, hb1⟩
  obtain rfl : y = ⟨#[226, 128, 185, 97, 226, 128, 186]⟩ := str_of hy.out
  clear hy
  go_wp2_with fail
  refine (implRedact_any _ w1 (by decide)).mono ?_
  rintro e w2 ⟨r, rfl, hr, hb2⟩
  obtain rfl : r = ⟨#[226, 128, 185, 195, 151, 226, 128, 186]⟩ := str_of (hr.out.trans a0_red)
  clear hr
  go_wp2_with fail
  go_ret
  exact ⟨rfl, HB0.out.trans ((hb1.trans (hb2.mono hb1.size)).mono (by simp))⟩
theorem escN_fix {r : Nat} (h : escN r = r) : isM r = false := by
  cases hm : isM r with
  | false => rfl
  | true =>
    unfold escN at h
    rw [hm, if_pos rfl] at h
    subst h; cases hm
theorem map_fix : ∀ s : List Nat, s.map escN = s → NoM s := by
  intro s
  induction s with
  | nil => intro _; exact NoM.nil
  | cons r s ih =>
    intro h
    rw [List.map_cons] at h
    injection h with h1 h2
    intro x hx
    rcases List.mem_cons.1 hx with rfl | hx
    · exact escN_fix h1
    · exact ih h2 x hx
theorem plain_txt {s : ByteArray} (h : plainB s.data.toList = true) : Txt s (runes s) := by
  obtain ⟨h1, h2⟩ := plainB_encs h
  rw [runesL_data] at h1 h2
  exact ⟨h1, h2, by have := plainB_len h; rw [← Lib.size_eq] at this; omega⟩
theorem safe_noM {s : ByteArray} (h : safeB s.data.toList = true) : plainB s.data.toList = true ∧ NoM (runes s) := by
  unfold safeB at h
  rw [Bool.and_eq_true] at h
  refine ⟨h.1, map_fix _ ?_⟩
  have ht := plain_txt h.1
  have h2 := eq_of_beq h.2
  rw [ht.en, escB_enc ht.sc] at h2
  have h3 := congrArg runesL h2
  rwa [runesL_encs ht.sc.esc, runesL_encs ht.sc] at h3
theorem mark_mk {s : ByteArray} (h : markB s.data.toList = true) : plainB s.data.toList = true ∧ Mk (runes s) := by
  unfold markB at h
  rw [Bool.and_eq_true] at h
  refine ⟨h.1, ?_⟩
  have := eq_of_beq h.2
  rw [runesL_data] at this
  exact this
def NumOk (l : List AArg) : Prop := ∀ a ∈ l, -9223372036854775808 ≤ a.n ∧ a.n ≤ 9223372036854775807
theorem argB_parts {ks : List Int} {a : AArg} (h : argB ks a = true) : (∃ k ∈ ks, a.kind = k) ∧ Txt a.text (runes a.text) ∧ (a.kind = 1 → NoM (runes a.text)) ∧ (a.kind = 4 → Mk (runes a.text)) ∧ numBad a = false := by
  unfold argB at h
  simp only [Bool.and_eq_true, Bool.not_eq_true'] at h
  obtain ⟨⟨⟨⟨h1, h2⟩, h3⟩, h4⟩, h5⟩ := h
  refine ⟨?_, plain_txt h2, fun hk => ?_, fun hk => ?_, h5⟩
  · obtain ⟨k, hk, he⟩ := List.any_eq_true.1 h1
    exact ⟨k, hk, eq_of_beq he⟩
  · cases hs : safeB a.text.data.toList with
    | true => exact (safe_noM hs).2
    | false => rw [hk, hs] at h3; simp at h3
  · cases hs : markB a.text.data.toList with
    | true => exact (mark_mk hs).2
    | false => rw [hk, hs] at h4; simp at h4
theorem areB_ok {l : List AArg} (h : areB prKinds l = true) (hn : NumOk l) : l.length ≤ 10 ∧ ∀ a ∈ l, a.Ok := by
  unfold areB at h
  rw [Bool.and_eq_true, decide_eq_true_eq] at h
  refine ⟨h.1, fun a ha => ?_⟩
  obtain ⟨⟨k, hk, he⟩, h2, h3, h4, _⟩ := argB_parts (List.all_eq_true.1 h.2 a ha)
  refine ⟨?_, h2, h3, h4, (hn a ha).1, (hn a ha).2⟩
  rw [he]
  simp [prKinds] at hk
  exact hk
set_option maxHeartbeats 1000000 in
theorem fnSprint_any (v : Value) (l : List AArg) (w : World) (hA : ArgsAt w v l) (ht : TextOk l) (hn : NumOk l) (hT : TabW w) : Calls Tryz.prog 4 #[v] w (ValQ (.bool true) w) := by
  have HF := Lib.hid (zzFits1_any v l w hA ht)
  have HA := Lib.hid hA; clear hA
  have HT := Lib.hid ht; clear ht
  have HN := Lib.hid hn; clear hn
  have HTab := Lib.hid hT; clear hT
  cases hf : fitsB l with
  | false =>
    rw [hf] at HF
    clear hf
    go_enter Tryz.func4, Tryz.ntmps4
    go_wp2_with fail
    refine HF.out.mono ?_
    rintro e w1 ⟨rfl, hb1⟩
    go_wp2_with fail
    go_ret
    exact ⟨rfl, hb1⟩
  | true =>
    rw [hf] at HF
    clear hf
    cases ha : areB prKinds l with
    | false =>
      have HAR := Lib.hid ha; clear ha
      go_enter Tryz.func4, Tryz.ntmps4
      go_wp2_with fail
      refine HF.out.mono ?_
      rintro e w1 ⟨rfl, hb1⟩
      go_wp2_with fail
      refine (printed_any _).mono ?_
      rintro e w2 ⟨kv, rfl, hkv, hb2⟩
      have hb := hb1.trans (hb2.mono hb1.size)
      go_wp2_with fail
      refine (areArgs_any _ kv l prKinds _ (HA.out.below hb) hkv.out (by decide) HT.out).mono ?_
      rw [HAR.out]
      rintro e w3 ⟨rfl, hb3⟩
      go_wp2_with fail
      go_ret
      exact ⟨rfl, hb.trans (hb3.mono hb.size)⟩
    | true =>
      obtain ⟨hl, hok⟩ := areB_ok ha HN.out
      have HAR := Lib.hid ha; clear ha
      have HOK := Lib.hid hok; clear hok
      generalize hg : encs (sprG [] none l) = g
      have HG := Lib.hid hg; clear hg
      go_enter Tryz.func4, Tryz.ntmps4
      go_wp2_with fail
      refine HF.out.mono ?_
      rintro e w1 ⟨rfl, hb1⟩
      go_wp2_with fail
      refine (printed_any _).mono ?_
      rintro e w2 ⟨kv, rfl, hkv, hb2⟩
      have hb := hb1.trans (hb2.mono hb1.size)
      clear hb1 hb2
      go_wp2_with fail
      refine (areArgs_any _ kv l prKinds _ (HA.out.below hb) hkv.out (by decide) HT.out).mono ?_
      rw [HAR.out]
      rintro e w3 ⟨rfl, hb3⟩
      have hb := hb.trans (hb3.mono hb.size)
      clear hb3 hkv
      go_wp2_with fail
      refine (implSprint_any v l _ (HTab.out.below hb) (HA.out.below hb) hl HOK.out).mono ?_
      rw [HG.out]
      rintro e w4 ⟨y, rfl, hy, hb4⟩
      have hb := hb.trans (hb4.mono hb.size)
      clear hb4
      obtain rfl : y = ⟨g.toArray⟩ := str_of hy.out
      clear hy
      go_wp2_with fail
      refine (specSprint_any v l _ (HA.out.below hb) hl HOK.out).mono ?_
      rw [HG.out]
      rintro e w5 ⟨y, rfl, hy, hb5⟩
      have hb := hb.trans (hb5.mono hb.size)
      clear hb5
      obtain rfl : y = ⟨g.toArray⟩ := str_of hy.out
      clear hy
      go_wp2_with fail
      refine (marks_true _ (HTab.out.below hb)).mono ?_
      rintro e w6 ⟨rfl, hb6⟩
      have hb := hb.trans (hb6.mono hb.size)
      clear hb6
      go_wp2_with fail
      go_ret
      exact ⟨rfl, hb⟩
end Go.Proofs.YtlmcglaajmjanaaGreatDoor
