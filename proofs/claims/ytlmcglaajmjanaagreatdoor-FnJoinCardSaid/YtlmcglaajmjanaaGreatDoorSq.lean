/- Walks of the reference: isString, Put, Sprint. -/
import Derived.Test.YtlmcglaajmjanaaGreatDoorNum
import Derived.Test.YtlmcglaajmjanaaGreatDoorSp
import Derived.Lib.QuietBelow
namespace Go.Proofs.YtlmcglaajmjanaaGreatDoor
open Go.RowKit
attribute [local irreducible] Utf8.encode Utf8.decode
theorem isString_any (k : Int) (s : ByteArray) (n : Int) (w : World) : Calls Tryz.prog 43 #[.agg #[.int .i64 k, .string s, .int .i64 n]] w (BoolQ (k == 0 || k == 4) w) := by
  by_cases h0 : k = 0
  · subst h0
    go_enter Tryz.func43, Tryz.ntmps43
    go_wp2
    go_ret
    exact ⟨rfl, (Below.refl _ _).alloc (Nat.le_refl _) _⟩
  · have hb : (k == 0) = false := beq_eq_false_iff_ne.2 h0
    rw [hb, Bool.false_or]
    go_enter Tryz.func43, Tryz.ntmps43
    go_wp2
    go_ret
    exact ⟨rfl, (Below.refl _ _).alloc (Nat.le_refl _) _⟩
theorem specUnsafe_enc (out s : ByteArray) (o rs : List Nat) (w : World) (ho : out.data.toList = encs o) (hs : s.data.toList = encs rs) (hsc : Scs o) (hrs : Scs rs) (hl : out.size ≤ 50000) (hl2 : s.size ≤ 1000) :
    Calls Tryz.prog 29 #[.string out, .string s] w (SprQ w (encs (unsafeN o rs))) := by
  by_cases h : rs = []
  · subst h
    have he : s.toList.isEmpty = true := by rw [Lib.toList_data, hs]; rfl
    refine (unsafe_nil out s w he).mono ?_
    rintro e w' ⟨rfl, rfl⟩
    exact ⟨out, rfl, by show _ = _; rw [ho]; unfold unsafeN; rw [if_pos rfl], Below.refl _ _⟩
  · have he : s.toList.isEmpty = false := by
      rw [Lib.toList_data, hs]
      cases hc : encs rs with
      | nil => exact absurd hc (encs_ne hrs h)
      | cons a l => rfl
    refine (unsafe_any out s w he hl hl2).mono ?_
    rintro e w' ⟨⟨r, rfl, hr⟩, hb⟩
    exact ⟨r, rfl, by show _ = _; rw [hr.out.1, ho, hs, unsafeL_enc hsc hrs], hb⟩
theorem str_size {s : ByteArray} {l : List UInt8} (h : s.data.toList = l) : s.size = l.length := by rw [← h]; exact Lib.size_eq s
theorem number_enc (n : Int) (h0 : -9223372036854775808 ≤ n) (h1 : n ≤ 9223372036854775807) (w : World) : Calls Tryz.prog 67 #[.int .i64 n] w (SprQ w (encs (numN n))) := by
  refine (number_any n w h0 h1).mono ?_
  rintro e w' ⟨⟨r, rfl, hr⟩, hb⟩
  exact ⟨r, rfl, by show _ = _; rw [hr.out.1, numN_enc], hb⟩
set_option maxHeartbeats 2000000 in
theorem specPut_any (out : ByteArray) (o : List Nat) (a : AArg) (w : World) (ho : out.data.toList = encs o) (hg : GoodT o 40000) (ha : a.Ok) :
    Calls Tryz.prog 44 #[.string out, a.val] w (SprQ w (encs (putN o a))) := by
  obtain ⟨k, s, n⟩ := a
  obtain ⟨hk, htx, hsf, hmk, hn0, hn1⟩ := ha
  dsimp only at hk htx hsf hmk hn0 hn1
  have hos := str_size ho
  have hle := hg.le
  have hts := htx.le
  clear hsf hmk
  rcases hk with rfl | rfl | rfl | rfl | rfl | rfl
  · show Calls Tryz.prog 44 #[.string out, .agg #[.int .i64 0, .string s, .int .i64 n]] w (SprQ w (encs (unsafeN o (runes s))))
    go_enter Tryz.func44, Tryz.ntmps44
    go_wp2_with fail
    refine (specUnsafe_enc out s o (runes s) _ ho htx.en hg.sc htx.sc (by omega) (by omega)).mono ?_
    rintro e w2 ⟨y, rfl, hy, hb⟩
    go_wp2_with fail
    go_ret
    exact ⟨y, rfl, hy, ((Below.refl _ w).alloc (Nat.le_refl _) _).trans (hb.mono (by simp))⟩
  · show Calls Tryz.prog 44 #[.string out, .agg #[.int .i64 1, .string s, .int .i64 n]] w (SprQ w (encs (o ++ runes s)))
    obtain ⟨y, hadd, hysz, Hy⟩ := add_ex Tryz.prog out s (by omega)
    have HR : Hid (y.data.toList = encs (o ++ runes s)) := by show _ = _; rw [Hy.out, ho, htx.en, encs_append]
    clear htx ho
    go_enter Tryz.func44, Tryz.ntmps44
    go_wp2_with fail
    go_ret
    exact ⟨y, rfl, HR.out, (Below.refl _ w).alloc (Nat.le_refl _) _⟩
  · show Calls Tryz.prog 44 #[.string out, .agg #[.int .i64 2, .string s, .int .i64 n]] w (SprQ w (encs (unsafeN o (numN n))))
    go_enter Tryz.func44, Tryz.ntmps44
    go_wp2_with fail
    refine (number_enc n hn0 hn1 _).mono ?_
    rintro e w1 ⟨z, rfl, hz, hb1⟩
    have hzs := str_size hz.out
    rw [numN_enc] at hzs
    have hzl := numL_le n
    have HN := Lib.hid (specUnsafe_enc out z o (numN n) w1 ho hz.out hg.sc (numN_sc n) (by omega) (by omega))
    clear ho hos hzs
    go_wp2_with fail
    refine HN.out.mono ?_
    rintro e w2 ⟨y, rfl, hy, hb⟩
    go_wp2_with fail
    go_ret
    exact ⟨y, rfl, hy, ((Below.refl _ w).alloc (Nat.le_refl _) _).trans ((hb1.trans (hb.mono hb1.size)).mono (by simp))⟩
  · show Calls Tryz.prog 44 #[.string out, .agg #[.int .i64 3, .string s, .int .i64 n]] w (SprQ w (encs (o ++ numN n)))
    go_enter Tryz.func44, Tryz.ntmps44
    go_wp2_with fail
    refine (number_enc n hn0 hn1 _).mono ?_
    rintro e w1 ⟨z, rfl, hz, hb1⟩
    have hzs := str_size hz.out
    rw [numN_enc] at hzs
    have hzl := numL_le n
    obtain ⟨y, hadd, hysz, Hy⟩ := add_ex Tryz.prog out z (by omega)
    have HR : Hid (y.data.toList = encs (o ++ numN n)) := by show _ = _; rw [Hy.out, ho, hz.out, encs_append]
    clear htx ho hz
    go_wp2_with fail
    go_ret
    exact ⟨y, rfl, HR.out, ((Below.refl _ w).alloc (Nat.le_refl _) _).trans (hb1.mono (by simp))⟩
  · show Calls Tryz.prog 44 #[.string out, .agg #[.int .i64 4, .string s, .int .i64 n]] w (SprQ w (encs (o ++ runes s)))
    obtain ⟨y, hadd, hysz, Hy⟩ := add_ex Tryz.prog out s (by omega)
    have HR : Hid (y.data.toList = encs (o ++ runes s)) := by show _ = _; rw [Hy.out, ho, htx.en, encs_append]
    clear htx ho
    go_enter Tryz.func44, Tryz.ntmps44
    go_wp2_with fail
    go_ret
    exact ⟨y, rfl, HR.out, (Below.refl _ w).alloc (Nat.le_refl _) _⟩
  · show Calls Tryz.prog 44 #[.string out, .agg #[.int .i64 5, .string s, .int .i64 n]] w (SprQ w (encs (unsafeN o (runes s))))
    go_enter Tryz.func44, Tryz.ntmps44
    go_wp2_with fail
    refine (specUnsafe_enc out s o (runes s) _ ho htx.en hg.sc htx.sc (by omega) (by omega)).mono ?_
    rintro e w2 ⟨y, rfl, hy, hb⟩
    go_wp2_with fail
    go_ret
    exact ⟨y, rfl, hy, ((Below.refl _ w).alloc (Nat.le_refl _) _).trans (hb.mono (by simp))⟩
/-- The text so far, and the argument behind which it ends. -/
def SprAt (l : List AArg) (g : List Nat) (k : Nat) (acc : ByteArray) (prev : Option Bool) (o : List Nat) : Prop :=
  acc.data.toList = encs o ∧ sprG o prev (l.drop k) = g ∧ GoodT o (411 * k) ∧ (prev = none → k = 0) ∧ ∀ b, prev = some b → 0 < k ∧ ∀ h : k - 1 < l.length, (l[k - 1]'h).isText = b
set_option maxHeartbeats 4000000 in
set_option maxRecDepth 100000 in
theorem specSprint_any (v : Value) (l : List AArg) (w : World) (hA : ArgsAt w v l) (hl : l.length ≤ 10) (hok : ∀ a ∈ l, a.Ok) :
    Calls Tryz.prog 16 #[v] w (SprQ w (encs (sprG [] none l))) := by
  have hlen := fun ty => hA.len ty
  have HA := Lib.hid hA; clear hA
  have HO := Lib.hid hok; clear hok
  generalize hg : sprG [] none l = g
  have HG := Lib.hid hg; clear hg
  go_enter Tryz.func16, Tryz.ntmps16
  go_wp2_with fail
  go_loopw [8, 3] (fun i ov wr => ∃ (k : Nat) (acc : ByteArray) (prev : Option Bool) (o : List Nat), i = .int .i64 k ∧ ov = .string acc ∧ k ≤ l.length ∧ Hid (SprAt l g k acc prev o) ∧ Below w.heap.size w wr)
    (fun i _ _ => l.length - (intOf i).toNat)
  case atStart => exact ⟨0, ⟨#[]⟩, none, [], rfl, rfl, Nat.zero_le _, ⟨rfl, HG.out, GoodT.nil, fun _ => rfl, fun b hb => by cases hb⟩, Below.refl _ _⟩
  case round =>
    obtain ⟨k, acc, prev, o, rfl, rfl, hk, hst, hnx⟩ := hrel
    by_cases hlt : k < l.length
    ·
      obtain ⟨qb, qo, hix, hld0⟩ := HA.out.at_ k hlt
      obtain ⟨c0, c1, c2⟩ := hld0 wr (HA.out.below hnx)
      clear hld0
      obtain ⟨kd, tx, nn, hx⟩ : ∃ kd tx nn, l[k]'hlt = ⟨kd, tx, nn⟩ := ⟨_, _, _, rfl⟩
      rw [hx] at c0 c1 c2
      dsimp only at c0 c1 c2
      have HX := Lib.hid hx; clear hx
      have hwz := hnx.size
      have HOK : Hid (AArg.mk kd tx nn).Ok := by rw [← HX.out]; exact HO.out _ (List.getElem_mem _)
      have HST := Lib.hid (spr_step hlt hst.out.2.1)
      rw [HX.out] at HST
      have hacc := str_size hst.out.1
      have hgl := hst.out.2.2.1.le
      have hasz : acc.size ≤ 4110 := by omega
      clear hacc hgl
      obtain ⟨txv, htxv⟩ : ∃ b, (AArg.mk kd tx nn).isText = b := ⟨_, rfl⟩
      have HIS : Hid (∀ w, Calls Tryz.prog 43 #[.agg #[.int .i64 kd, .string tx, .int .i64 nn]] w (BoolQ txv w)) := fun w => by rw [← htxv]; exact isString_any kd tx nn w
      rw [htxv] at HST
      have HPV : Hid (0 < k + 1 ∧ ∀ h : k + 1 - 1 < l.length, (l[k + 1 - 1]'h).isText = txv) := ⟨by omega, fun h => by rw [← htxv, ← HX.out]; rfl⟩
      clear htxv
      have hb1 : Below w.heap.size w (wr.alloc (.cells #[.int .i64 kd, .string tx, .int .i64 nn] 47)) := hnx.alloc hwz _
      have HB1 := Lib.hid hb1; clear hb1
      cases prev with
      | none =>
        have hk0 : decide (0 < k) = false := by have := hst.out.2.2.2.1 rfl; simp; omega
        have HST : Hid (sprG (putN o ⟨kd, tx, nn⟩) (some txv) (l.drop (k + 1)) = g) := HST.out
        go_wp2_with fail
        refine (specPut_any acc o ⟨kd, tx, nn⟩ _ hst.out.1 (hst.out.2.2.1.mono (by omega)) HOK.out).mono ?_
        rintro e w4 ⟨y, rfl, hy, hb4⟩
        have HN := Lib.hid (HB1.out.trans (hb4.mono (by simp; omega))); clear hb4
        go_wp2_with fail
        go_roundw
        case rel => exact ⟨k + 1, y, some txv, _, by go_num, rfl, by omega, ⟨hy.out, HST.out, (hst.out.2.2.1.put HOK.out).mono (by omega), fun h => (by cases h), fun b hb => (by cases hb; exact HPV.out)⟩, HN.out⟩
        case measure => simp [intOf]; omega
      | some b =>
        have hkp := (hst.out.2.2.2.2 b rfl).1
        have hk0 : decide (0 < k) = true := by simp; omega
        have hlt1 : k - 1 < l.length := by omega
        have HPB := Lib.hid ((hst.out.2.2.2.2 b rfl).2 hlt1)
        have ek : ((k - 1 : Nat) : Int) = (k : Int) - 1 := by omega
        obtain ⟨pb, po, hpx, hpld⟩ := HA.out.at_ (k - 1) hlt1
        rw [ek] at hpx
        clear ek
        obtain ⟨kd1, tx1, nn1, hx1⟩ : ∃ kd tx nn, l[k - 1]'hlt1 = ⟨kd, tx, nn⟩ := ⟨_, _, _, rfl⟩
        rw [hx1] at hpld HPB
        clear hx1
        have HPL := Lib.hid hpld; clear hpld
        have HIS1 : Hid (∀ w, Calls Tryz.prog 43 #[.agg #[.int .i64 kd1, .string tx1, .int .i64 nn1]] w (BoolQ b w)) := fun w => by rw [← HPB.out]; exact isString_any kd1 tx1 nn1 w
        clear HPB hkp
        cases txv with
        | true =>
          have HST : Hid (sprG (putN o ⟨kd, tx, nn⟩) (some true) (l.drop (k + 1)) = g) := by have h := HST.out; simp only [Bool.not_true, Bool.and_false, Bool.false_eq_true, if_false] at h; exact h
          go_wp2_with fail
          refine (HIS.out _).mono ?_
          rintro e w2 ⟨rfl, hb2⟩
          have r0 : w2.cell? ⟨wr.heap.size, 0, none⟩ = some (.int .i64 kd) := (hb2.cell (p := ⟨wr.heap.size, 0, none⟩) (by simp)).trans (cell_new _ _ _ _)
          have r1 : w2.cell? ⟨wr.heap.size, 1, none⟩ = some (.string tx) := (hb2.cell (p := ⟨wr.heap.size, 1, none⟩) (by simp)).trans (cell_new _ _ _ _)
          have r2 : w2.cell? ⟨wr.heap.size, 2, none⟩ = some (.int .i64 nn) := (hb2.cell (p := ⟨wr.heap.size, 2, none⟩) (by simp)).trans (cell_new _ _ _ _)
          have hb := HB1.out.trans (hb2.mono HB1.out.size)
          clear hb2
          go_wp2_with fail
          refine (specPut_any acc o ⟨kd, tx, nn⟩ _ hst.out.1 (hst.out.2.2.1.mono (by omega)) HOK.out).mono ?_
          rintro e w4 ⟨y, rfl, hy, hb4⟩
          have HN := Lib.hid (hb.trans (hb4.mono hb.size)); clear hb4
          go_wp2_with fail
          go_roundw
          case rel => exact ⟨k + 1, y, some true, _, by go_num, rfl, by omega, ⟨hy.out, HST.out, (hst.out.2.2.1.put HOK.out).mono (by omega), fun h => (by cases h), fun b hb => (by cases hb; exact HPV.out)⟩, HN.out⟩
          case measure => simp [intOf]; omega
        | false =>
          cases b with
          | true =>
            have HST : Hid (sprG (putN o ⟨kd, tx, nn⟩) (some false) (l.drop (k + 1)) = g) := HST.out
            go_wp2_with fail
            refine (HIS.out _).mono ?_
            rintro e w2 ⟨rfl, hb2⟩
            obtain ⟨p0, p1, p2⟩ := HPL.out w2 (HA.out.below (HB1.out.trans (hb2.mono HB1.out.size)))
            have HB2 := Lib.hid hb2; clear hb2
            go_wp2_with fail
            refine (HIS1.out _).mono ?_
            rintro e w3 ⟨rfl, hb3⟩
            clear p0 p1 p2
            have hb23 := HB2.out.trans (hb3.mono HB2.out.size)
            have r0 : w3.cell? ⟨wr.heap.size, 0, none⟩ = some (.int .i64 kd) := (hb23.cell (p := ⟨wr.heap.size, 0, none⟩) (by simp)).trans (cell_new _ _ _ _)
            have r1 : w3.cell? ⟨wr.heap.size, 1, none⟩ = some (.string tx) := (hb23.cell (p := ⟨wr.heap.size, 1, none⟩) (by simp)).trans (cell_new _ _ _ _)
            have r2 : w3.cell? ⟨wr.heap.size, 2, none⟩ = some (.int .i64 nn) := (hb23.cell (p := ⟨wr.heap.size, 2, none⟩) (by simp)).trans (cell_new _ _ _ _)
            have hb := HB1.out.trans (hb23.mono HB1.out.size)
            clear hb3 hb23
            go_wp2_with fail
            refine (specPut_any acc o ⟨kd, tx, nn⟩ _ hst.out.1 (hst.out.2.2.1.mono (by omega)) HOK.out).mono ?_
            rintro e w4 ⟨y, rfl, hy, hb4⟩
            have HN := Lib.hid (hb.trans (hb4.mono hb.size)); clear hb4
            go_wp2_with fail
            go_roundw
            case rel => exact ⟨k + 1, y, some false, _, by go_num, rfl, by omega, ⟨hy.out, HST.out, (hst.out.2.2.1.put HOK.out).mono (by omega), fun h => (by cases h), fun b hb => (by cases hb; exact HPV.out)⟩, HN.out⟩
            case measure => simp [intOf]; omega
          | false =>
            have HST : Hid (sprG (putN (o ++ [32]) ⟨kd, tx, nn⟩) (some false) (l.drop (k + 1)) = g) := HST.out
            obtain ⟨acc2, hadd, hysz, Hy⟩ := add_ex Tryz.prog acc ⟨#[32]⟩ (by show acc.size + 1 ≤ _; omega)
            have HA2 : Hid (acc2.data.toList = encs (o ++ [32])) := by show _ = _; rw [Hy.out, hst.out.1, encs_append, encs_one, encL_ascii 32 (by omega)]; rfl
            clear Hy hysz
            go_wp2_with fail
            refine (HIS.out _).mono ?_
            rintro e w2 ⟨rfl, hb2⟩
            obtain ⟨p0, p1, p2⟩ := HPL.out w2 (HA.out.below (HB1.out.trans (hb2.mono HB1.out.size)))
            have HB2 := Lib.hid hb2; clear hb2
            go_wp2_with fail
            refine (HIS1.out _).mono ?_
            rintro e w3 ⟨rfl, hb3⟩
            clear p0 p1 p2
            have hb23 := HB2.out.trans (hb3.mono HB2.out.size)
            have r0 : w3.cell? ⟨wr.heap.size, 0, none⟩ = some (.int .i64 kd) := (hb23.cell (p := ⟨wr.heap.size, 0, none⟩) (by simp)).trans (cell_new _ _ _ _)
            have r1 : w3.cell? ⟨wr.heap.size, 1, none⟩ = some (.string tx) := (hb23.cell (p := ⟨wr.heap.size, 1, none⟩) (by simp)).trans (cell_new _ _ _ _)
            have r2 : w3.cell? ⟨wr.heap.size, 2, none⟩ = some (.int .i64 nn) := (hb23.cell (p := ⟨wr.heap.size, 2, none⟩) (by simp)).trans (cell_new _ _ _ _)
            have hb := HB1.out.trans (hb23.mono HB1.out.size)
            clear hb3 hb23
            go_wp2_with fail
            refine (specPut_any acc2 (o ++ [32]) ⟨kd, tx, nn⟩ _ HA2.out (hst.out.2.2.1.blank.mono (by omega)) HOK.out).mono ?_
            rintro e w4 ⟨y, rfl, hy, hb4⟩
            have HN := Lib.hid (hb.trans (hb4.mono hb.size)); clear hb4
            go_wp2_with fail
            go_roundw
            case rel => exact ⟨k + 1, y, some false, _, by go_num, rfl, by omega, ⟨hy.out, HST.out, (hst.out.2.2.1.blank.put HOK.out).mono (by omega), fun h => (by cases h), fun b hb => (by cases hb; exact HPV.out)⟩, HN.out⟩
            case measure => simp [intOf]; omega
    · have hfin : o = g := by
        have h := hst.out.2.1
        rw [List.drop_of_length_le (by omega)] at h
        exact h
      have HF : Hid (acc.data.toList = encs g) := by rw [← hfin]; exact hst.out.1
      clear hfin
      go_wp2_with fail
      go_ret
      exact ⟨acc, rfl, HF.out, hnx⟩
end Go.Proofs.YtlmcglaajmjanaaGreatDoor
