/- Walks of the reference's own small functions: ends, Escaped, Unsafe, Number: what each returns, for texts of at most 100,000 bytes. -/
/- Walk of the reference's Number: the decimal digits of an int64. -/
/- Slices of bytes, told by what they read: their length, parts, elements, the string of them; over the program of this seat. -/
/- Walks of package redactmarkers: the markers as bytes, index, redactBytes, Redact. -/
/- Walks of RedactableString.Redact and impl.Redact: a text is redacted to what redL says. -/
import Derived.Test.YtlmcglaajmjanaaGreatDoorProg
import Derived.Test.YtlmcglaajmjanaaGreatDoorZa
import Derived.WalkKit
import Derived.WalkSpells
import Derived.WalkLawsBesides
import Derived.KernelRfl
import Derived.Handy
import Derived.Lib.Hide
import Derived.Lib.SlBytesConst
import Derived.Lib.OthersKept
import Derived.Lib.BufferWrite
import Derived.Deep.QuietTactic
import Derived.BigQuiet
import Derived.Deep.Draws
import Derived.Deep.RegionWith
import Derived.Deep.RegionHeld3
namespace Go.Proofs.YtlmcglaajmjanaaGreatDoor
open Go.RowKit
attribute [local irreducible] Utf8.encode Utf8.decode

theorem ends_any (s t : ByteArray) (w : World) (hs : s.size ≤ 100000) (ht : t.size ≤ 100000) :
    Calls Tryz.prog 57 #[.string s, .string t] w fun e w' => (∃ b, e = .returned (.bool b) ∧ Hid (b = Lib.hasSuffix s.data.toList t.data.toList)) ∧ w = w' := by
  have hr := Lib.hasSuffix_raw s t
  have Hr := Lib.hid hr; clear hr
  by_cases h : t.size ≤ s.size
  · go_enter Tryz.func57, Tryz.ntmps57
    go_wp2
    go_ret
    refine ⟨⟨_, rfl, ?_⟩, rfl⟩
    show _ = _
    rw [← Hr.out]
    simp [h]
  · go_enter Tryz.func57, Tryz.ntmps57
    go_wp2
    go_ret
    refine ⟨⟨_, rfl, ?_⟩, rfl⟩
    show _ = _
    rw [← Hr.out]
    simp [h]

theorem escR_mk {r : Nat} {l : List UInt8} (he : encL r = l) (hm : l = [226, 128, 185] ∨ l = [226, 128, 186] ∨ l = [226, 128, 160]) : escR r = [63] := by
  unfold escR isMk mkS mkE mkH
  rw [he]
  rcases hm with h | h | h <;> rw [h] <;> rfl
theorem escR_plain {r : Nat} {l : List UInt8} (he : encL r = l) (h1 : (l == [226, 128, 185]) = false) (h2 : (l == [226, 128, 186]) = false) (h3 : (l == [226, 128, 160]) = false) : escR r = l := by
  unfold escR isMk mkS mkE mkH
  rw [he, h1, h2, h3]; rfl
theorem mk4 (l : List UInt8) : (l = [226, 128, 185] ∨ l = [226, 128, 186] ∨ l = [226, 128, 160]) ∨ ((l == [226, 128, 185]) = false ∧ (l == [226, 128, 186]) = false ∧ (l == [226, 128, 160]) = false) := by
  by_cases h1 : l = [226, 128, 185]
  · exact .inl (.inl h1)
  by_cases h2 : l = [226, 128, 186]
  · exact .inl (.inr (.inl h2))
  by_cases h3 : l = [226, 128, 160]
  · exact .inl (.inr (.inr h3))
  · exact .inr ⟨by simp [h1], by simp [h2], by simp [h3]⟩
theorem esc_round {r : Nat} {acc a2 x : ByteArray} (hx : escR r = x.toList) {rest rest' : List Nat} {goal : List UInt8}
    (hst : rest = r :: rest') (h : acc.data.toList ++ escL rest = goal) (h2 : acc ++ x = a2) : a2.data.toList ++ escL rest' = goal := by
  rw [← h, hst, ← h2]
  simp only [escL, hx]
  simp [ByteArray.data_append, Lib.toList_data]

set_option maxHeartbeats 1000000 in
theorem escaped_any (s : ByteArray) (w : World) (hs : s.size ≤ 100000) : Calls Tryz.prog 31 #[.string s] w fun e w' =>
    (∃ r : ByteArray, e = .returned (.string r) ∧ Hid (r.data.toList = escB s.data.toList ∧ r.size ≤ 4 * s.size)) ∧ Below w.heap.size w w' := by
  have hI0 := World.iter_heap w s 0
  have hb0 : Below w.heap.size w (w.iter s 0) := (Below.refl _ w).alloc (Nat.le_refl _) _
  go_enter Tryz.func31, Tryz.ntmps31
  go_wp2
  go_loopw [3] (fun o wr => ∃ (pos : Nat) (acc : ByteArray) (rest : List Nat), o = .string acc ∧ acc.size ≤ 4 * pos ∧ Hid (acc.data.toList ++ escL rest = escB s.data.toList ∧ RunesAt s pos rest) ∧ pos ≤ s.size ∧ wr.heap[w.heap.size]? = some (.stringIter s pos) ∧ Below w.heap.size w wr)
    (fun _ wr => s.size - wr.iterPos w.heap.size)
  case atStart => exact ⟨0, ⟨#[]⟩, runes s, rfl, Nat.le_refl _, ⟨by unfold escB; rw [runesL_data]; rfl, RunesAt.start s⟩, Nat.zero_le _, hI0, hb0⟩
  case round =>
    obtain ⟨pos, acc, rest, rfl, hasz, hacc, hps, hk, hnx⟩ := hrel
    clear hI0 hb0
    by_cases hp : pos < s.size
    · have hadv := decode_adv s pos hp
      obtain ⟨rest', hst⟩ := hacc.out.2.step hp
      have hnext : ∀ ty, (Instr.next (.pointer (some ⟨w.heap.size, 0, none⟩)) true ty).run Tryz.prog wr = _ := fun ty => Lib.run_next_any_at wr w.heap.size s pos ty hk hp
      have hk1 := Lib.iterAt_heap wr w.heap.size s pos (pos + (Utf8.decode s pos).2) hk
      have hnx1 : Below w.heap.size w (wr.iterAt w.heap.size s (pos + (Utf8.decode s pos).2)) := Lib.below_iterAt hnx (by omega) s _
      have hmu : wr.iterPos w.heap.size = pos := by simp [World.iterPos, hk]
      generalize wr.iterAt w.heap.size s (pos + (Utf8.decode s pos).2) = W1 at hnext hk1 hnx1
      generalize (Utf8.decode s pos).1 = r at hnext hst
      generalize (Utf8.decode s pos).2 = n at hadv hst hk1
      have hmu1 : W1.iterPos w.heap.size = pos + n := by simp [World.iterPos, hk1]
      have Hst := Lib.hid hst; clear hst
      have Hk1 := Lib.hid hk1; clear hk1
      have Hmu := Lib.hid hmu; clear hmu
      have Hmu1 := Lib.hid hmu1; clear hmu1
      clear hk
      have hel := encode_size r
      obtain ⟨e, he⟩ : ∃ e, Utf8.encode r = e := ⟨_, rfl⟩
      have hconv : ∀ w, (convert 21 9 (.int .i32 r)).run Tryz.prog w = .ok (.string e) w := fun w => by rw [← he]; simp [go_sem]
      rw [he] at hel
      have He := Lib.hid he; clear he
      obtain ⟨a1, ha1⟩ : ∃ a, acc ++ ⟨#[63]⟩ = a := ⟨_, rfl⟩
      obtain ⟨a2, ha2⟩ : ∃ a, acc ++ e = a := ⟨_, rfl⟩
      have hadd1 : ∀ w, (Op.stringOp .add acc ⟨#[63]⟩).run Tryz.prog w = .ok (.string a1) w := fun w => by rw [← ha1]; exact run_string_add_sum w _ _ (by show acc.size + 1 ≤ _; omega)
      have hadd2 : ∀ w, (Op.stringOp .add acc e).run Tryz.prog w = .ok (.string a2) w := fun w => by rw [← ha2]; exact run_string_add_sum w _ _ (by omega)
      have hs1 : a1.size ≤ 4 * (pos + n) := by rw [← ha1, ByteArray.size_append]; show acc.size + 1 ≤ _; omega
      have hs2 : a2.size ≤ 4 * (pos + n) := by rw [← ha2, ByteArray.size_append]; omega
      have HA := Lib.hid (And.intro ha1 ha2); clear ha1 ha2
      rcases mk4 e.toList with hm | ⟨h1, h2, h3⟩
      · have HR := Lib.hid (esc_round ((escR_mk (encL_of He.out) hm).trans (Lib.toList_data ⟨#[63]⟩).symm) Hst.out.1 hacc.out.1 HA.out.1)
        rcases hm with hm | hm | hm
        all_goals
          go_wp2
          go_roundw
          case rel => exact ⟨pos + n, a1, rest', rfl, hs1, ⟨HR.out, Hst.out.2⟩, hadv.2, Hk1.out, hnx1⟩
          case measure => rw [Hmu1.out, Hmu.out]; omega
      · have HR := Lib.hid (esc_round (escR_plain (encL_of He.out) h1 h2 h3) Hst.out.1 hacc.out.1 HA.out.2)
        go_wp2
        go_roundw
        case rel => exact ⟨pos + n, a2, rest', rfl, hs2, ⟨HR.out, Hst.out.2⟩, hadv.2, Hk1.out, hnx1⟩
        case measure => rw [Hmu1.out, Hmu.out]; omega
    · have hnext : ∀ ty, (Instr.next (.pointer (some ⟨w.heap.size, 0, none⟩)) true ty).run Tryz.prog wr = _ := fun ty => Lib.run_next_end_at wr w.heap.size s pos ty hk hp
      have hfin : acc.data.toList = escB s.data.toList := by
        have h := hacc.out.1
        rw [hacc.out.2.stop hp] at h
        simpa [escL] using h
      have Hfin := Lib.hid hfin; clear hfin
      clear hk
      go_wp2
      go_ret
      exact ⟨⟨acc, rfl, Hfin.out, by omega⟩, hnx⟩

theorem unsafe_nil (o s : ByteArray) (w : World) (_h : s.toList.isEmpty = true) : Calls Tryz.prog 29 #[.string o, .string s] w fun e w' => e = .returned (.string o) ∧ w = w' := by
  go_enter Tryz.func29, Tryz.ntmps29
  go_wp2
  go_ret
  exact ⟨rfl, rfl⟩

/-- Behind the text's head: the loop. -/
def UnsQ (goal : List UInt8) (n : Nat) (w : World) (e : Ending) (w' : World) : Prop := (∃ r : ByteArray, e = .returned (.string r) ∧ Hid (r.data.toList = goal ∧ r.size ≤ n)) ∧ Below w.heap.size w w'
def E3 : ByteArray := ⟨#[226, 128, 186]⟩
def S3 : ByteArray := ⟨#[226, 128, 185]⟩
theorem uns_round {r : Nat} {rest rest' : List Nat} {a x : List UInt8} {ln l : Bool} {goal : List UInt8} (hst : rest = r :: rest') (h : unsFin (rest.foldl unsStep (a, ln)) = goal) (hx : unsStep (a, ln) r = (x, l)) :
    unsFin (rest'.foldl unsStep (x, l)) = goal := by
  rw [← h, hst, List.foldl_cons, hx]
theorem ext_data (o : ByteArray) (n : Nat) (_h : n ≤ o.size) : (o.extract 0 n).data.toList = o.data.toList.take n := by rw [Lib.extract_data]; simp

set_option maxHeartbeats 2000000 in
theorem unsafe_any (o s : ByteArray) (w : World) (h : s.toList.isEmpty = false) (ho : o.size ≤ 50000) (hs : s.size ≤ 1000) :
    Calls Tryz.prog 29 #[.string o, .string s] w (UnsQ (unsafeL o.data.toList s.data.toList) (o.size + 28 * s.size + 6) w) := by
  have hlen : o.data.toList.length = o.size := (Lib.size_eq o).symm
  have hgoal : unsafeL o.data.toList s.data.toList = unsFin ((runesL (escB s.data.toList)).foldl unsStep (unsOpen o.data.toList, false)) := by
    unfold unsafeL
    rw [if_neg (by rw [Lib.toList_data] at h; intro hn; rw [hn] at h; simp at h)]
  generalize hg : unsafeL o.data.toList s.data.toList = goal at hgoal ⊢
  have HG := Lib.hid hgoal; clear hgoal hg
  have HL := Lib.hid hlen; clear hlen
  have hends : ∃ b, Lib.hasSuffix o.data.toList mkE = b := ⟨_, rfl⟩
  obtain ⟨b, hb⟩ := hends
  obtain ⟨o2, ho2, Hq, hrun⟩ : ∃ o2 : ByteArray, o2.size ≤ o.size + 3 ∧ Hid (o2.data.toList = unsOpen o.data.toList) ∧ Hid ((b = true → 3 ≤ o.size ∧ o.extract 0 (o.size - 3) = o2) ∧ (b = false → ∀ w, (Op.stringOp .add o S3).run Tryz.prog w = .ok (.string o2) w)) := by
    cases b with
    | true =>
      have h3 := suffix_len hb
      rw [HL.out] at h3
      exact ⟨o.extract 0 (o.size - 3), by simp; omega, by show _ = _; rw [ext_data _ _ (by omega), unsOpen, if_pos hb, HL.out], ⟨fun _ => ⟨h3, rfl⟩, fun h => by cases h⟩⟩
    | false =>
      obtain ⟨y, h1, h2, h3⟩ := add_ex Tryz.prog o S3 (by show o.size + 3 ≤ _; omega)
      exact ⟨y, h2, by show _ = _; rw [h3.out, unsOpen, if_neg (by simp [hb])]; rfl, ⟨fun h => (by cases h), fun _ => h1⟩⟩
  have Hb := Lib.hid hb; clear hb
  cases b
  · have hadd0 := hrun.out.2 rfl
    have hadd0' : ∀ w, (Op.stringOp .add o ⟨#[226, 128, 185]⟩).run Tryz.prog w = .ok (.string o2) w := hadd0
    clear hadd0 hrun
    go_enter Tryz.func29, Tryz.ntmps29
    go_wp2_with fail
    refine (ends_any _ _ _ (by omega) (by decide)).mono ?_
    rintro e w' ⟨⟨b, rfl, hbb⟩, rfl⟩
    obtain rfl : b = false := hbb.out.trans Hb.out
    clear hbb
    go_wp2_with fail
    refine (escaped_any s w (by omega)).mono ?_
    rintro e w1 ⟨⟨s2, rfl, He2⟩, hb1⟩
    clear hadd0'
    go_wp2_with fail
    have Hk0 := World.iter_heap w1 s2 0
    have hb0 : Below w.heap.size w (w1.iter s2 0) := hb1.alloc hb1.size _
    have hwz := hb1.size
    go_loopw [0, 5] (fun ov lv wr => ∃ (pos : Nat) (acc : ByteArray) (ln : Bool) (rest : List Nat), ov = .string acc ∧ lv = .bool ln ∧ acc.size ≤ o.size + 3 + 7 * pos ∧ Hid (unsFin (rest.foldl unsStep (acc.data.toList, ln)) = goal ∧ RunesAt s2 pos rest) ∧ pos ≤ s2.size ∧ wr.heap[w1.heap.size]? = some (.stringIter s2 pos) ∧ Below w.heap.size w wr)
      (fun _ _ wr => s2.size - wr.iterPos w1.heap.size)
    case atStart => exact ⟨0, _, false, runes s2, rfl, rfl, (by omega), ⟨by rw [HG.out, Hq.out, runes_of He2.out.1], RunesAt.start s2⟩, Nat.zero_le _, Hk0, hb0⟩
    case round =>
      obtain ⟨pos, acc, ln, rest, rfl, rfl, hasz, hacc, hps, hk, hnx⟩ := hrel
      clear Hk0 hb0
      have hs2 : s2.size ≤ 4 * s.size := He2.out.2
      by_cases hp : pos < s2.size
      ·
        obtain ⟨rest', hst⟩ := hacc.out.2.step hp
        have hadv := decode_adv s2 pos hp
        have hnext : ∀ ty, (Instr.next (.pointer (some ⟨w1.heap.size, 0, none⟩)) true ty).run Tryz.prog wr = _ := fun ty => Lib.run_next_any_at wr (w1.heap.size) s2 pos ty hk hp
        have hk1 := Lib.iterAt_heap wr (w1.heap.size) s2 pos (pos + (Utf8.decode s2 pos).2) hk
        have hnx1 : Below w.heap.size w (wr.iterAt (w1.heap.size) s2 (pos + (Utf8.decode s2 pos).2)) := Lib.below_iterAt hnx (by omega) s2 _
        have hmu : wr.iterPos (w1.heap.size) = pos := by simp [World.iterPos, hk]
        generalize wr.iterAt (w1.heap.size) s2 (pos + (Utf8.decode s2 pos).2) = W1 at hnext hk1 hnx1
        generalize (Utf8.decode s2 pos).1 = r at hnext hst
        generalize (Utf8.decode s2 pos).2 = n at hadv hst hk1
        have hmu1 : W1.iterPos (w1.heap.size) = pos + n := by simp [World.iterPos, hk1]
        have Hst := Lib.hid hst; clear hst
        have Hk1 := Lib.hid hk1; clear hk1
        have Hmu := Lib.hid hmu; clear hmu
        have Hmu1 := Lib.hid hmu1; clear hmu1
        clear hk
        have hel := encode_size r
        obtain ⟨e, he⟩ : ∃ e, Utf8.encode r = e := ⟨_, rfl⟩
        have hconv : ∀ w, (convert 21 9 (.int .i32 r)).run Tryz.prog w = .ok (.string e) w := fun w => by rw [← he]; simp [go_sem]
        rw [he] at hel
        have He := Lib.hid (encL_of he); clear he
        by_cases hr10 : r = 10
        · subst hr10
          have hconv' : ∀ w, (convert 21 9 (.int .i32 10)).run Tryz.prog w = .ok (.string e) w := hconv
          have hnext' : ∀ ty, (Instr.next (.pointer (some ⟨w1.heap.size, 0, none⟩)) true ty).run Tryz.prog wr = .ok (.tuple #[.bool true, .int .i64 pos, .int .i32 10]) W1 := hnext
          clear hconv hnext
          cases ln
          · obtain ⟨b, hb⟩ : ∃ b, Lib.hasSuffix acc.data.toList mkS = b := ⟨_, rfl⟩
            have hlen : acc.data.toList.length = acc.size := (Lib.size_eq acc).symm
            cases b
            · obtain ⟨y, hadd, hysz, Hy⟩ := add_ex Tryz.prog acc E3 (by show acc.size + 3 ≤ _; omega)
              have hadd' : ∀ w, (Op.stringOp .add acc ⟨#[226, 128, 186]⟩).run Tryz.prog w = .ok (.string y) w := hadd
              have hysz' : y.size ≤ acc.size + 3 := hysz
              obtain ⟨z, hadz, hzsz, Hz⟩ := add_ex Tryz.prog y e (by omega)
              have HR := Lib.hid (uns_round (Hst.out.1) hacc.out.1 (x := z.data.toList) (l := true) (by rw [Hz.out, Hy.out, unsStep, He.out, Lib.toList_data]; simp [hb, E3, mkE]))
              have Hb := Lib.hid hb; clear hb hadd hlen
              go_wp2_with fail
              refine (ends_any _ _ _ (by omega) (by decide)).mono ?_
              rintro e w' ⟨⟨b, rfl, hbb⟩, rfl⟩
              obtain rfl : b = false := hbb.out.trans Hb.out
              clear hbb
              go_wp2
              go_roundw
              case rel => exact ⟨pos + n, z, true, rest', rfl, rfl, by omega, ⟨HR.out, Hst.out.2⟩, hadv.2, Hk1.out, hnx1⟩
              case measure => rw [Hmu1.out, Hmu.out]; omega
            · have h3 := suffix_len hb
              rw [hlen] at h3
              have h3' : 3 ≤ acc.size := h3
              obtain ⟨y, hy⟩ : ∃ y, acc.extract 0 (acc.size - 3) = y := ⟨_, rfl⟩
              have hyd : y.data.toList = acc.data.toList.take (acc.data.toList.length - 3) := by rw [← hy, ext_data _ _ (by omega), hlen]
              have hysz : y.size ≤ acc.size := by rw [← hy]; simp
              obtain ⟨z, hadz, hzsz, Hz⟩ := add_ex Tryz.prog y e (by omega)
              have HR := Lib.hid (uns_round (Hst.out.1) hacc.out.1 (x := z.data.toList) (l := true) (by rw [Hz.out, hyd, unsStep, He.out, Lib.toList_data]; simp [hb]))
              have Hb := Lib.hid hb; clear hb h3 hlen hyd
              go_wp2_with fail
              refine (ends_any _ _ _ (by omega) (by decide)).mono ?_
              rintro e w' ⟨⟨b, rfl, hbb⟩, rfl⟩
              obtain rfl : b = true := hbb.out.trans Hb.out
              clear hbb
              go_wp2
              go_roundw
              case rel => exact ⟨pos + n, z, true, rest', rfl, rfl, by omega, ⟨HR.out, Hst.out.2⟩, hadv.2, Hk1.out, hnx1⟩
              case measure => rw [Hmu1.out, Hmu.out]; omega
          · obtain ⟨z, hadz, hzsz, Hz⟩ := add_ex Tryz.prog acc e (by omega)
            have HR := Lib.hid (uns_round (Hst.out.1) hacc.out.1 (x := z.data.toList) (l := true) (by rw [Hz.out, unsStep, He.out, Lib.toList_data]; simp))
            go_wp2
            go_roundw
            case rel => exact ⟨pos + n, z, true, rest', rfl, rfl, by omega, ⟨HR.out, Hst.out.2⟩, hadv.2, Hk1.out, hnx1⟩
            case measure => rw [Hmu1.out, Hmu.out]; omega
        · have hrb : ((r : Int) == 10) = false := by simp; omega
          cases ln
          · obtain ⟨z, hadz, hzsz, Hz⟩ := add_ex Tryz.prog acc e (by omega)
            have HR := Lib.hid (uns_round (Hst.out.1) hacc.out.1 (x := z.data.toList) (l := false) (by rw [Hz.out, unsStep, He.out, Lib.toList_data]; simp [hr10]))
            go_wp2
            go_roundw
            case rel => exact ⟨pos + n, z, false, rest', rfl, rfl, by omega, ⟨HR.out, Hst.out.2⟩, hadv.2, Hk1.out, hnx1⟩
            case measure => rw [Hmu1.out, Hmu.out]; omega
          · obtain ⟨y, hadd, hysz, Hy⟩ := add_ex Tryz.prog acc S3 (by show acc.size + 3 ≤ _; omega)
            have hadd' : ∀ w, (Op.stringOp .add acc ⟨#[226, 128, 185]⟩).run Tryz.prog w = .ok (.string y) w := hadd
            have hysz' : y.size ≤ acc.size + 3 := hysz
            obtain ⟨z, hadz, hzsz, Hz⟩ := add_ex Tryz.prog y e (by omega)
            have HR := Lib.hid (uns_round (Hst.out.1) hacc.out.1 (x := z.data.toList) (l := false) (by rw [Hz.out, Hy.out, unsStep, He.out, Lib.toList_data]; simp [hr10, S3, mkS]))
            clear hadd
            go_wp2
            go_roundw
            case rel => exact ⟨pos + n, z, false, rest', rfl, rfl, by omega, ⟨HR.out, Hst.out.2⟩, hadv.2, Hk1.out, hnx1⟩
            case measure => rw [Hmu1.out, Hmu.out]; omega
      · have hnext : ∀ ty, (Instr.next (.pointer (some ⟨w1.heap.size, 0, none⟩)) true ty).run Tryz.prog wr = _ := fun ty => Lib.run_next_end_at wr w1.heap.size s2 pos ty hk hp
        have hfin : unsFin (acc.data.toList, ln) = goal := by
          have h := hacc.out.1
          rw [hacc.out.2.stop hp] at h
          simpa using h
        have Hfin := Lib.hid hfin; clear hfin
        clear hk
        obtain ⟨y, hadd, hysz, Hy⟩ := add_ex Tryz.prog acc E3 (by show acc.size + 3 ≤ _; omega)
        have hadd' : ∀ w, (Op.stringOp .add acc ⟨#[226, 128, 186]⟩).run Tryz.prog w = .ok (.string y) w := hadd
        clear hadd
        cases ln
        · go_wp2
          go_ret
          exact ⟨⟨y, rfl, by rw [Hy.out, ← Hfin.out]; rfl, by have : E3.size = 3 := rfl; omega⟩, hnx⟩
        · go_wp2
          go_ret
          exact ⟨⟨acc, rfl, by rw [← Hfin.out]; rfl, by omega⟩, hnx⟩
  · obtain ⟨h3, hx⟩ := hrun.out.1 rfl
    clear hrun
    subst hx
    go_enter Tryz.func29, Tryz.ntmps29
    go_wp2_with fail
    refine (ends_any _ _ _ (by omega) (by decide)).mono ?_
    rintro e w' ⟨⟨b, rfl, hbb⟩, rfl⟩
    obtain rfl : b = true := hbb.out.trans Hb.out
    clear hbb
    go_wp2_with fail
    refine (escaped_any s w (by omega)).mono ?_
    rintro e w1 ⟨⟨s2, rfl, He2⟩, hb1⟩
    clear h3
    go_wp2_with fail
    have Hk0 := World.iter_heap w1 s2 0
    have hb0 : Below w.heap.size w (w1.iter s2 0) := hb1.alloc hb1.size _
    have hwz := hb1.size
    go_loopw [0, 5] (fun ov lv wr => ∃ (pos : Nat) (acc : ByteArray) (ln : Bool) (rest : List Nat), ov = .string acc ∧ lv = .bool ln ∧ acc.size ≤ o.size + 3 + 7 * pos ∧ Hid (unsFin (rest.foldl unsStep (acc.data.toList, ln)) = goal ∧ RunesAt s2 pos rest) ∧ pos ≤ s2.size ∧ wr.heap[w1.heap.size]? = some (.stringIter s2 pos) ∧ Below w.heap.size w wr)
      (fun _ _ wr => s2.size - wr.iterPos w1.heap.size)
    case atStart => exact ⟨0, _, false, runes s2, rfl, rfl, (by omega), ⟨by rw [HG.out, Hq.out, runes_of He2.out.1], RunesAt.start s2⟩, Nat.zero_le _, Hk0, hb0⟩
    case round =>
      obtain ⟨pos, acc, ln, rest, rfl, rfl, hasz, hacc, hps, hk, hnx⟩ := hrel
      clear Hk0 hb0
      have hs2 : s2.size ≤ 4 * s.size := He2.out.2
      by_cases hp : pos < s2.size
      ·
        obtain ⟨rest', hst⟩ := hacc.out.2.step hp
        have hadv := decode_adv s2 pos hp
        have hnext : ∀ ty, (Instr.next (.pointer (some ⟨w1.heap.size, 0, none⟩)) true ty).run Tryz.prog wr = _ := fun ty => Lib.run_next_any_at wr (w1.heap.size) s2 pos ty hk hp
        have hk1 := Lib.iterAt_heap wr (w1.heap.size) s2 pos (pos + (Utf8.decode s2 pos).2) hk
        have hnx1 : Below w.heap.size w (wr.iterAt (w1.heap.size) s2 (pos + (Utf8.decode s2 pos).2)) := Lib.below_iterAt hnx (by omega) s2 _
        have hmu : wr.iterPos (w1.heap.size) = pos := by simp [World.iterPos, hk]
        generalize wr.iterAt (w1.heap.size) s2 (pos + (Utf8.decode s2 pos).2) = W1 at hnext hk1 hnx1
        generalize (Utf8.decode s2 pos).1 = r at hnext hst
        generalize (Utf8.decode s2 pos).2 = n at hadv hst hk1
        have hmu1 : W1.iterPos (w1.heap.size) = pos + n := by simp [World.iterPos, hk1]
        have Hst := Lib.hid hst; clear hst
        have Hk1 := Lib.hid hk1; clear hk1
        have Hmu := Lib.hid hmu; clear hmu
        have Hmu1 := Lib.hid hmu1; clear hmu1
        clear hk
        have hel := encode_size r
        obtain ⟨e, he⟩ : ∃ e, Utf8.encode r = e := ⟨_, rfl⟩
        have hconv : ∀ w, (convert 21 9 (.int .i32 r)).run Tryz.prog w = .ok (.string e) w := fun w => by rw [← he]; simp [go_sem]
        rw [he] at hel
        have He := Lib.hid (encL_of he); clear he
        by_cases hr10 : r = 10
        · subst hr10
          have hconv' : ∀ w, (convert 21 9 (.int .i32 10)).run Tryz.prog w = .ok (.string e) w := hconv
          have hnext' : ∀ ty, (Instr.next (.pointer (some ⟨w1.heap.size, 0, none⟩)) true ty).run Tryz.prog wr = .ok (.tuple #[.bool true, .int .i64 pos, .int .i32 10]) W1 := hnext
          clear hconv hnext
          cases ln
          · obtain ⟨b, hb⟩ : ∃ b, Lib.hasSuffix acc.data.toList mkS = b := ⟨_, rfl⟩
            have hlen : acc.data.toList.length = acc.size := (Lib.size_eq acc).symm
            cases b
            · obtain ⟨y, hadd, hysz, Hy⟩ := add_ex Tryz.prog acc E3 (by show acc.size + 3 ≤ _; omega)
              have hadd' : ∀ w, (Op.stringOp .add acc ⟨#[226, 128, 186]⟩).run Tryz.prog w = .ok (.string y) w := hadd
              have hysz' : y.size ≤ acc.size + 3 := hysz
              obtain ⟨z, hadz, hzsz, Hz⟩ := add_ex Tryz.prog y e (by omega)
              have HR := Lib.hid (uns_round (Hst.out.1) hacc.out.1 (x := z.data.toList) (l := true) (by rw [Hz.out, Hy.out, unsStep, He.out, Lib.toList_data]; simp [hb, E3, mkE]))
              have Hb := Lib.hid hb; clear hb hadd hlen
              go_wp2_with fail
              refine (ends_any _ _ _ (by omega) (by decide)).mono ?_
              rintro e w' ⟨⟨b, rfl, hbb⟩, rfl⟩
              obtain rfl : b = false := hbb.out.trans Hb.out
              clear hbb
              go_wp2
              go_roundw
              case rel => exact ⟨pos + n, z, true, rest', rfl, rfl, by omega, ⟨HR.out, Hst.out.2⟩, hadv.2, Hk1.out, hnx1⟩
              case measure => rw [Hmu1.out, Hmu.out]; omega
            · have h3 := suffix_len hb
              rw [hlen] at h3
              have h3' : 3 ≤ acc.size := h3
              obtain ⟨y, hy⟩ : ∃ y, acc.extract 0 (acc.size - 3) = y := ⟨_, rfl⟩
              have hyd : y.data.toList = acc.data.toList.take (acc.data.toList.length - 3) := by rw [← hy, ext_data _ _ (by omega), hlen]
              have hysz : y.size ≤ acc.size := by rw [← hy]; simp
              obtain ⟨z, hadz, hzsz, Hz⟩ := add_ex Tryz.prog y e (by omega)
              have HR := Lib.hid (uns_round (Hst.out.1) hacc.out.1 (x := z.data.toList) (l := true) (by rw [Hz.out, hyd, unsStep, He.out, Lib.toList_data]; simp [hb]))
              have Hb := Lib.hid hb; clear hb h3 hlen hyd
              go_wp2_with fail
              refine (ends_any _ _ _ (by omega) (by decide)).mono ?_
              rintro e w' ⟨⟨b, rfl, hbb⟩, rfl⟩
              obtain rfl : b = true := hbb.out.trans Hb.out
              clear hbb
              go_wp2
              go_roundw
              case rel => exact ⟨pos + n, z, true, rest', rfl, rfl, by omega, ⟨HR.out, Hst.out.2⟩, hadv.2, Hk1.out, hnx1⟩
              case measure => rw [Hmu1.out, Hmu.out]; omega
          · obtain ⟨z, hadz, hzsz, Hz⟩ := add_ex Tryz.prog acc e (by omega)
            have HR := Lib.hid (uns_round (Hst.out.1) hacc.out.1 (x := z.data.toList) (l := true) (by rw [Hz.out, unsStep, He.out, Lib.toList_data]; simp))
            go_wp2
            go_roundw
            case rel => exact ⟨pos + n, z, true, rest', rfl, rfl, by omega, ⟨HR.out, Hst.out.2⟩, hadv.2, Hk1.out, hnx1⟩
            case measure => rw [Hmu1.out, Hmu.out]; omega
        · have hrb : ((r : Int) == 10) = false := by simp; omega
          cases ln
          · obtain ⟨z, hadz, hzsz, Hz⟩ := add_ex Tryz.prog acc e (by omega)
            have HR := Lib.hid (uns_round (Hst.out.1) hacc.out.1 (x := z.data.toList) (l := false) (by rw [Hz.out, unsStep, He.out, Lib.toList_data]; simp [hr10]))
            go_wp2
            go_roundw
            case rel => exact ⟨pos + n, z, false, rest', rfl, rfl, by omega, ⟨HR.out, Hst.out.2⟩, hadv.2, Hk1.out, hnx1⟩
            case measure => rw [Hmu1.out, Hmu.out]; omega
          · obtain ⟨y, hadd, hysz, Hy⟩ := add_ex Tryz.prog acc S3 (by show acc.size + 3 ≤ _; omega)
            have hadd' : ∀ w, (Op.stringOp .add acc ⟨#[226, 128, 185]⟩).run Tryz.prog w = .ok (.string y) w := hadd
            have hysz' : y.size ≤ acc.size + 3 := hysz
            obtain ⟨z, hadz, hzsz, Hz⟩ := add_ex Tryz.prog y e (by omega)
            have HR := Lib.hid (uns_round (Hst.out.1) hacc.out.1 (x := z.data.toList) (l := false) (by rw [Hz.out, Hy.out, unsStep, He.out, Lib.toList_data]; simp [hr10, S3, mkS]))
            clear hadd
            go_wp2
            go_roundw
            case rel => exact ⟨pos + n, z, false, rest', rfl, rfl, by omega, ⟨HR.out, Hst.out.2⟩, hadv.2, Hk1.out, hnx1⟩
            case measure => rw [Hmu1.out, Hmu.out]; omega
      · have hnext : ∀ ty, (Instr.next (.pointer (some ⟨w1.heap.size, 0, none⟩)) true ty).run Tryz.prog wr = _ := fun ty => Lib.run_next_end_at wr w1.heap.size s2 pos ty hk hp
        have hfin : unsFin (acc.data.toList, ln) = goal := by
          have h := hacc.out.1
          rw [hacc.out.2.stop hp] at h
          simpa using h
        have Hfin := Lib.hid hfin; clear hfin
        clear hk
        obtain ⟨y, hadd, hysz, Hy⟩ := add_ex Tryz.prog acc E3 (by show acc.size + 3 ≤ _; omega)
        have hadd' : ∀ w, (Op.stringOp .add acc ⟨#[226, 128, 186]⟩).run Tryz.prog w = .ok (.string y) w := hadd
        clear hadd
        cases ln
        · go_wp2
          go_ret
          exact ⟨⟨y, rfl, by rw [Hy.out, ← Hfin.out]; rfl, by have : E3.size = 3 := rfl; omega⟩, hnx⟩
        · go_wp2
          go_ret
          exact ⟨⟨acc, rfl, by rw [← Hfin.out]; rfl, by omega⟩, hnx⟩
end Go.Proofs.YtlmcglaajmjanaaGreatDoor

namespace Go.Proofs.YtlmcglaajmjanaaGreatDoor
open Go.RowKit
attribute [local irreducible] Utf8.encode Utf8.decode

/-- One byte, laid in a row of its own, read as a string. -/
theorem one_byte_string (w : World) (x : Int) (h0 : 0 ≤ x) (h1 : x ≤ 255) :
    (convert 31 9 (.slice (some ⟨w.heap.size, 0, none⟩) 1 1)).run Tryz.prog (w.alloc (.cells #[.int .u8 x] 5)) = .ok (.string ⟨#[UInt8.ofNat x.toNat]⟩) (w.alloc (.cells #[.int .u8 x] 5)) := by
  have := run_convert_bytes_back (P := Tryz.prog) (w.alloc (.cells #[.int .u8 x] 5)) 31 9 5 ⟨w.heap.size, 0, none⟩ 1 [UInt8.ofNat x.toNat] Tryz.underlying31 Tryz.underlying5 Tryz.underlying9 (by
    intro j hj
    have hj0 : j = 0 := by simp at hj; omega
    subst hj0
    have hx : ((x.toNat % 256 : Nat) : Int) = x := by omega
    show (w.alloc (.cells #[.int .u8 x] 5)).cell? ⟨w.heap.size, 0, none⟩ = _
    rw [World.cell?_alloc_new]
    show some (Value.int .u8 x) = some (.int .u8 ((x.toNat % 256 : Nat) : Int))
    rw [hx])
  exact this

theorem natAbs_digit {m d q : Int} (h : m.natAbs = (10 * q + d).natAbs) (hd0 : 0 ≤ d) (hd : d ≤ 9) (hq : 0 ≤ q) : m.natAbs / 10 = q.toNat ∧ m.natAbs % 10 = d.toNat := by omega

/-- How long the string in a slot is: for a loop's measure. -/
def szOf : Value → Nat | .string s => s.size | _ => 0
def NumQ (goal : List UInt8) (w : World) (e : Ending) (w' : World) : Prop := (∃ r : ByteArray, e = .returned (.string r) ∧ Hid (r.data.toList = goal ∧ r.size ≤ 30)) ∧ Below w.heap.size w w'
def NumI (n m : Int) (k : Nat) (l : List UInt8) : Prop := m.natAbs < 10 ^ (20 - k) ∧ NumAt m.natAbs l (digs n.natAbs) ∧ (m < 0 → n < 0) ∧ (0 < m → 0 ≤ n)
theorem NumI.step {n m d q : Int} {k : Nat} {l : List UInt8} (h : NumI n m k l) (hm : m.natAbs = (10 * q + d).natAbs) (hd0 : 0 ≤ d) (hd : d ≤ 9) (hq : 0 ≤ q) (hne : ¬ (m.natAbs = 0 ∧ l ≠ [])) (m2 : Int) (hm2 : m2.natAbs = q.toNat) (h1 : m2 < 0 → m < 0) (h2 : 0 < m2 → 0 < m) (hk : k < 20) :
    NumI n m2 (k + 1) (UInt8.ofNat (48 + d).toNat :: l) := by
  obtain ⟨a, b, c, e⟩ := h
  obtain ⟨x, y⟩ := natAbs_digit hm hd0 hd hq
  have ha : m.natAbs < 10 ^ 20 := Nat.lt_of_lt_of_le a (Nat.pow_le_pow_right (by omega) (by omega))
  refine ⟨?_, ?_, fun h => c (h1 h), fun h => e (h2 h)⟩
  · rw [hm2, ← x]
    have : 20 - k = (20 - (k + 1)) + 1 := by omega
    rw [this, Nat.pow_succ] at a
    omega
  · have := b.step hne ha
    rw [x, y] at this
    have e1 : (48 + d).toNat = 48 + d.toNat := by omega
    rw [hm2, e1]; exact this
theorem NumI.room {n m : Int} {k : Nat} {l : List UInt8} (h : NumI n m k l) (hm : m ≠ 0) (hk : k ≤ 20) : k < 20 := by
  rcases Nat.lt_or_ge k 20 with h' | h'
  · exact h'
  · have : k = 20 := by omega
    subst this
    have := h.1
    simp at this; omega

theorem tmod_neg {m : Int} (h : m < 0) : m.tmod 10 = -((-m) % 10) := by
  have e : m = -(-m) := by omega
  generalize hM : -m = M at e
  subst e
  rw [Int.neg_tmod, Int.tmod_eq_emod_of_nonneg (by omega)]
theorem tdiv_neg {m : Int} (h : m < 0) : m.tdiv 10 = -((-m) / 10) := by
  have e : m = -(-m) := by omega
  generalize hM : -m = M at e
  subst e
  rw [Int.neg_tdiv, Int.tdiv_eq_ediv_of_nonneg (by omega)]

set_option maxHeartbeats 2000000 in
set_option maxRecDepth 100000 in
theorem number_any (n : Int) (w : World) (h0 : -9223372036854775808 ≤ n) (h1 : n ≤ 9223372036854775807) :
    Calls Tryz.prog 67 #[.int .i64 n] w (NumQ (numL n) w) := by
  go_enter Tryz.func67, Tryz.ntmps67
  go_wp2
  go_loopw [3, 4] (fun ov mv wr => ∃ (m : Int) (acc : ByteArray) , ov = .string acc ∧ mv = .int .i64 m ∧ acc.size ≤ 20 ∧ -9223372036854775808 ≤ m ∧ m ≤ 9223372036854775807 ∧ Hid (NumI n m acc.size acc.data.toList) ∧ Below w.heap.size w wr)
    (fun ov _ _ => 30 - szOf ov)
  case atStart => exact ⟨n, ⟨#[]⟩, rfl, rfl, by decide, h0, h1, ⟨by show _ < 10 ^ 20; omega, NumAt.start _, fun h => h, fun h => by omega⟩, Below.refl _ _⟩
  case round =>
    obtain ⟨m, acc, rfl, rfl, hasz, hm0, hm1, hacc, hnx⟩ := hrel
    have hsz := Lib.size_eq acc
    have HS := Lib.hid hsz; clear hsz
    rcases Int.lt_trichotomy m 0 with hm | hm | hm
    · have hk := hacc.out.room (by omega) hasz
      obtain ⟨d, q, hd, hq, hd0, hd9, hq0, hq1, hdm⟩ : ∃ d q : Int, m.tmod 10 = -d ∧ m.tdiv 10 = -q ∧ 0 ≤ d ∧ d ≤ 9 ∧ 0 ≤ q ∧ q ≤ 922337203685477580 ∧ m = -(10 * q + d) :=
        ⟨(-m) % 10, (-m) / 10, tmod_neg hm, tdiv_neg hm, by omega, by omega, by omega, by omega, by omega⟩
      have hst := hacc.out.step (d := d) (q := q) (by omega) hd0 hd9 hq0 (by omega) (-q) (by omega) (by omega) (by omega) hk
      have hob := one_byte_string wr (48 + d) (by omega) (by omega)
      obtain ⟨y, hadd, hysz, Hy⟩ := add_ex Tryz.prog ⟨#[UInt8.ofNat (48 + d).toNat]⟩ acc (by have : (ByteArray.mk #[UInt8.ofNat (48 + d).toNat]).size = 1 := rfl; omega)
      have hye : y.size = acc.size + 1 := by rw [Lib.size_eq, Hy.out, Lib.size_eq acc]; simp
      have Hyd : Hid (y.data.toList = UInt8.ofNat (48 + d).toNat :: acc.data.toList) := Hy.out
      have HI : Hid (NumI n (-q) y.size y.data.toList ∧ y.size = acc.size + 1 ∧ szOf (.string y) = acc.size + 1) := ⟨by rw [hye, Hyd.out]; exact hst, hye, hye⟩
      clear hye hysz hst hdm
      rcases (show 0 < d ∨ d ≤ 0 by omega) with hd1 | hd1
      · go_wp2
        go_roundw
        case rel => exact ⟨(-q), y, rfl, rfl, by have := HI.out.2.1; omega, by omega, by omega, HI.out.1, hnx.alloc hnx.size _⟩
        case measure => rw [HI.out.2.2]; show _ < 30 - acc.size; omega
      · have hob2 : (convert 31 9 (.slice (some ⟨wr.heap.size, 0, none⟩) 1 1)).run Tryz.prog (wr.alloc (.cells #[.int .u8 (48 + -d)] 5)) = .ok (.string ⟨#[UInt8.ofNat (48 + d).toNat]⟩) (wr.alloc (.cells #[.int .u8 (48 + -d)] 5)) := by
          have e : (48 + d).toNat = (48 + -d).toNat := by omega
          rw [e]; exact one_byte_string wr (48 + -d) (by omega) (by omega)
        clear hob
        go_wp2
        go_roundw
        case rel => exact ⟨(-q), y, rfl, rfl, by have := HI.out.2.1; omega, by omega, by omega, HI.out.1, hnx.alloc hnx.size _⟩
        case measure => rw [HI.out.2.2]; show _ < 30 - acc.size; omega
    · subst hm
      cases he : acc.toList.isEmpty
      · have hfin : acc.data.toList = digs n.natAbs := hacc.out.2.1.stop ⟨rfl, by rw [← Lib.toList_data]; intro hn; rw [hn] at he; simp at he⟩
        have Hfin := Lib.hid hfin; clear hfin
        obtain ⟨y, hadd, hysz, Hy⟩ := add_ex Tryz.prog ⟨#[45]⟩ acc (by have : (ByteArray.mk #[45]).size = 1 := rfl; omega)
        have hysz' : y.size ≤ 1 + acc.size := hysz
        clear hysz
        rcases (show n < 0 ∨ 0 ≤ n by omega) with hn | hn
        · go_wp2
          go_ret
          exact ⟨⟨y, rfl, by rw [Hy.out, Hfin.out, numL, if_pos hn]; rfl, by omega⟩, hnx⟩
        · go_wp2
          go_ret
          exact ⟨⟨acc, rfl, by rw [Hfin.out, numL, if_neg (by omega)], by omega⟩, hnx⟩
      · have hk0 : acc.size = 0 := by
          rw [Lib.toList_data] at he
          have h0 : acc.data.toList = [] := List.isEmpty_iff.1 he
          rw [HS.out, h0]; rfl
        have hd0 : (0 : Int) ≤ 0 := by omega
        have hst := hacc.out.step (d := 0) (q := 0) (by omega) (by omega) (by omega) (by omega) (by rw [Lib.toList_data] at he; intro hc; apply hc.2; simpa using he) 0 (by omega) (by omega) (by omega) (by omega)
        have hk : acc.size < 20 := by omega
        clear hk0
        have hob := one_byte_string wr 48 (by omega) (by omega)
        obtain ⟨y, hadd, hysz, Hy⟩ := add_ex Tryz.prog ⟨#[UInt8.ofNat (48 : Int).toNat]⟩ acc (by have : (ByteArray.mk #[UInt8.ofNat (48 : Int).toNat]).size = 1 := rfl; omega)
        have hye : y.size = acc.size + 1 := by rw [Lib.size_eq, Hy.out, Lib.size_eq acc]; simp
        have Hyd : Hid (y.data.toList = UInt8.ofNat (48 : Int).toNat :: acc.data.toList) := Hy.out
        have HI : Hid (NumI n 0 y.size y.data.toList ∧ y.size = acc.size + 1 ∧ szOf (.string y) = acc.size + 1) := ⟨by rw [hye, Hyd.out]; exact hst, hye, hye⟩
        have hadd' : ∀ w, (Op.stringOp .add ⟨#[48]⟩ acc).run Tryz.prog w = .ok (.string y) w := hadd
        clear hye hysz hst hadd
        go_wp2
        go_roundw
        case rel => exact ⟨0, y, rfl, rfl, by have := HI.out.2.1; omega, by omega, by omega, HI.out.1, hnx.alloc hnx.size _⟩
        case measure => rw [HI.out.2.2]; show _ < 30 - acc.size; omega
    · have hk := hacc.out.room (by omega) hasz
      have hdm : m = 10 * (m / 10) + m % 10 := by omega
      have hd0 : 0 ≤ m % 10 := by omega
      have hd9 : m % 10 ≤ 9 := by omega
      have hq0 : 0 ≤ m / 10 := by omega
      have hst := hacc.out.step (d := m % 10) (q := m / 10) (by omega) hd0 hd9 hq0 (by omega) (m / 10) (by omega) (by omega) (by omega) hk
      have hob := one_byte_string wr (48 + m % 10) (by omega) (by omega)
      obtain ⟨y, hadd, hysz, Hy⟩ := add_ex Tryz.prog ⟨#[UInt8.ofNat (48 + m % 10).toNat]⟩ acc (by have : (ByteArray.mk #[UInt8.ofNat (48 + m % 10).toNat]).size = 1 := rfl; omega)
      have hye : y.size = acc.size + 1 := by rw [Lib.size_eq, Hy.out, Lib.size_eq acc]; simp
      have Hyd : Hid (y.data.toList = UInt8.ofNat (48 + m % 10).toNat :: acc.data.toList) := Hy.out
      have HI : Hid (NumI n (m / 10) y.size y.data.toList ∧ y.size = acc.size + 1 ∧ szOf (.string y) = acc.size + 1) := ⟨by rw [hye, Hyd.out]; exact hst, hye, hye⟩
      clear hye hysz hst hdm
      go_wp2
      go_roundw
      case rel => exact ⟨(m / 10), y, rfl, rfl, by have := HI.out.2.1; omega, by omega, by omega, HI.out.1, hnx.alloc hnx.size _⟩
      case measure => rw [HI.out.2.2]; show _ < 30 - acc.size; omega
end Go.Proofs.YtlmcglaajmjanaaGreatDoor

namespace Go.Proofs.YtlmcglaajmjanaaGreatDoor
open Go.RowKit
theorem ret_int {k : IntKind} {a b : Int} (h : a = b) : Ending.returned (.int k a) = .returned (.int k b) := by rw [h]
theorem add_plain (b o n : Nat) : (⟨b, o, none⟩ : Addr).add n = ⟨b, o + n, none⟩ := by unfold Addr.add; split <;> simp_all
theorem sizeOf_byte (w : World) : (sizeOf 5).run Tryz.prog w = .ok 1 w := by kernel_rfl
theorem elem_bytes : Tryz.prog.elem 31 = 5 := by kernel_rfl
theorem und_bytes : Tryz.prog.underlying 31 = some (.slice (Tryz.prog.elem 31)) := by rw [elem_bytes]; exact Tryz.underlying31

/-- v is a slice of bytes that reads l in w. -/
def BAt (w : World) (v : Value) (l : List UInt8) : Prop :=
  ∃ (p : Option Addr) (b o c : Nat), v = .slice p l.length c ∧ l.length ≤ c ∧ c ≤ 9223372036854775807 ∧ ((l = [] ∧ (p = none → c = 0)) ∨ p = some ⟨b, o, none⟩) ∧
    ∀ j (h : j < l.length), w.cell? ⟨b, o + j, none⟩ = some (.int .u8 ((l[j]'h).toNat : Int))
theorem BAt.mono {w w' : World} {v : Value} {l : List UInt8} (h : BAt w v l) (hk : ∀ a x, w.cell? a = some x → w'.cell? a = some x) : BAt w' v l := by
  obtain ⟨p, b, o, c, hv, hc, hm, hp, hx⟩ := h
  exact ⟨p, b, o, c, hv, hc, hm, hp, fun j hj => hk _ _ (hx j hj)⟩
theorem BAt.below {w w' : World} {v : Value} {l : List UInt8} (h : BAt w v l) (hb : Below w.heap.size w w') : BAt w' v l :=
  h.mono fun a x hx => by rw [hb.cell (World.block_lt_of_cell? w _ hx)]; exact hx
theorem BAt.drewN {w : World} {v : Value} {l : List UInt8} (h : BAt w v l) (n : Nat) : BAt (w.drewN n) v l := h
theorem BAt.drew {w : World} {v : Value} {l : List UInt8} (h : BAt w v l) : BAt w.drew v l := h
theorem BAt.alloc {w : World} {v : Value} {l : List UInt8} (h : BAt w v l) (o : Obj) : BAt (w.alloc o) v l := h.below ((Below.refl _ _).alloc (Nat.le_refl _) _)
theorem BAt.len {w : World} {v : Value} {l : List UInt8} (h : BAt w v l) (ty : TypeId) : ∀ w', (Builtin.len_ #[31] ty #[v]).run Tryz.prog w' = .ok (.int .i64 l.length) w' := by
  obtain ⟨p, b, o, c, rfl, hc, hm, hp, hx⟩ := h
  intro w'
  exact run_len_slice w' _ _ _ _ _ und_bytes
theorem BAt.cut_cells {w : World} {l : List UInt8} {b o : Nat} (hx : ∀ j (h : j < l.length), w.cell? ⟨b, o + j, none⟩ = some (.int .u8 ((l[j]'h).toNat : Int))) (lo hi : Nat) :
    ∀ j (h : j < ((l.take hi).drop lo).length), w.cell? ⟨b, o + lo + j, none⟩ = some (.int .u8 ((((l.take hi).drop lo)[j]'h).toNat : Int)) := by
  intro j h
  have h' := h
  simp at h'
  have := hx (lo + j) (by omega)
  rw [Nat.add_assoc, this]
  simp
/-- x[lo:hi]. -/
theorem BAt.sub {w : World} {v : Value} {l : List UInt8} (h : BAt w v l) (lo hi : Int) (h0 : 0 ≤ lo) (h1 : lo ≤ hi) (h2 : hi ≤ l.length) :
    ∃ v', (∀ w', (Instr.sliceAt 31 v (some (.int .i64 lo)) (some (.int .i64 hi)) none).run Tryz.prog w' = .ok v' w') ∧ ∀ W, BAt W v l → BAt W v' ((l.take hi.toNat).drop lo.toNat) := by
  obtain ⟨p, b, o, c, rfl, hc, hm, hp, hx⟩ := h
  refine ⟨sliced p lo.toNat hi.toNat c 1, fun w' => ?_, ?_⟩
  · rw [run_sliceAt_slice w' _ _ _ _ _ und_bytes, run_slice_lh w' _ _ _ _ und_bytes _ _ _ _ h0 h1 (by omega), elem_bytes, sizeOf_byte]; rfl
  · rintro W ⟨p2, b2, o2, c2, hv, hc2, hm2, hp2, hx2⟩
    injection hv with e1 e2 e3
    subst e1; subst e3
    have hl : ((l.take hi.toNat).drop lo.toNat).length = hi.toNat - lo.toNat := by simp; omega
    refine ⟨if c = lo.toNat then p else p.map (·.add (lo.toNat * 1)), b2, o2 + lo.toNat, c - lo.toNat, by rw [sliced, hl], by rw [hl]; omega, by omega, ?_, BAt.cut_cells hx2 _ _⟩
    rcases hp2 with hp2 | hp2
    · left; rw [hp2.1]
      refine ⟨by simp, fun hn => ?_⟩
      have : p = none := by
        split at hn
        · exact hn
        · simpa using hn
      have := hp2.2 this; omega
    · by_cases hlo : c = lo.toNat
      · left
        refine ⟨List.eq_nil_of_length_eq_zero (by rw [hl]; omega), fun _ => by omega⟩
      · right; rw [if_neg hlo, hp2]; simp [add_plain]
/-- x[lo:]. -/
theorem BAt.from_ {w : World} {v : Value} {l : List UInt8} (h : BAt w v l) (lo : Int) (h0 : 0 ≤ lo) (h1 : lo ≤ l.length) :
    ∃ v', (∀ w', (Instr.sliceAt 31 v (some (.int .i64 lo)) none none).run Tryz.prog w' = .ok v' w') ∧ ∀ W, BAt W v l → BAt W v' (l.drop lo.toNat) := by
  obtain ⟨v', hr, hv⟩ := h.sub lo l.length h0 h1 (Int.le_refl _)
  refine ⟨v', fun w' => ?_, fun W hW => by have := hv W hW; simpa using this⟩
  rw [← hr w']
  obtain ⟨p, b, o, c, rfl, hc, hm, hp, hx⟩ := h
  rw [run_sliceAt_slice w' _ _ _ _ _ und_bytes, run_sliceAt_slice w' _ _ _ _ _ und_bytes, run_slice_l w' _ _ _ _ und_bytes _ _ h0 h1, run_slice_lh w' _ _ _ _ und_bytes _ _ _ _ h0 h1 (by omega)]
  rfl
/-- x[:hi]. -/
theorem BAt.upto {w : World} {v : Value} {l : List UInt8} (h : BAt w v l) (hi : Int) (h0 : 0 ≤ hi) (h1 : hi ≤ l.length) :
    ∃ v', (∀ w', (Instr.sliceAt 31 v none (some (.int .i64 hi)) none).run Tryz.prog w' = .ok v' w') ∧ ∀ W, BAt W v l → BAt W v' (l.take hi.toNat) := by
  obtain ⟨v', hr, hv⟩ := h.sub 0 hi (Int.le_refl _) h0 h1
  refine ⟨v', fun w' => ?_, fun W hW => by have := hv W hW; simpa using this⟩
  rw [← hr w']
  obtain ⟨p, b, o, c, rfl, hc, hm, hp, hx⟩ := h
  rw [run_sliceAt_slice w' _ _ _ _ _ und_bytes, run_sliceAt_slice w' _ _ _ _ _ und_bytes, run_slice_h w' _ _ _ _ und_bytes _ _ h0 (by omega), run_slice_lh w' _ _ _ _ und_bytes _ _ _ _ (Int.le_refl _) h0 (by omega)]
  rfl
/-- string(x). -/
theorem BAt.str {w : World} {v : Value} {l : List UInt8} (h : BAt w v l) (dst : TypeId) (hd : Tryz.prog.underlying dst = some .string) : (convert 31 dst v).run Tryz.prog w = .ok (.string ⟨l.toArray⟩) w := by
  obtain ⟨p, b, o, c, rfl, hc, hm, hp, hx⟩ := h
  rcases hp with ⟨rfl, _⟩ | rfl
  · cases p with
    | none =>
      rw [run_convert_bytes_nil w _ _ Tryz.underlying31 Tryz.underlying5 _ _ _ hd]; rfl
    | some a => exact run_convert_bytes_back w _ _ _ a c [] Tryz.underlying31 Tryz.underlying5 hd (fun j hj => by cases hj)
  · exact run_convert_bytes_back w _ _ _ ⟨b, o, none⟩ c l Tryz.underlying31 Tryz.underlying5 hd (fun j hj => by rw [add_plain]; exact hx j hj)
/-- x[i], read. -/
theorem BAt.at_ {w : World} {v : Value} {l : List UInt8} (h : BAt w v l) (i : Int) (h0 : 0 ≤ i) (h1 : i < l.length) :
    ∃ a : Addr, (∀ w', (Instr.indexAt 31 v (.int .i64 i)).run Tryz.prog w' = .ok (.pointer (some a)) w') ∧ ∀ W, BAt W v l → W.cell? a = some (.int .u8 ((l.getD i.toNat 0).toNat : Int)) := by
  obtain ⟨p, b, o, c, rfl, hc, hm, hp, hx⟩ := h
  rcases hp with ⟨rfl, _⟩ | rfl
  · simp at h1; omega
  · refine ⟨⟨b, o + i.toNat, none⟩, fun w' => ?_, ?_⟩
    · have e : (⟨b, o, none⟩ : Addr).add i.toNat = ⟨b, o + i.toNat, none⟩ := add_plain _ _ _
      simp [Instr.indexAt, asIntOf, run_underlying und_bytes, elem_bytes, h0, h1, e]
    · rintro W ⟨p2, b2, o2, c2, hv, hc2, hm2, hp2, hx2⟩
      injection hv with e1 e2 e3
      have hl : l ≠ [] := by intro hn; rw [hn] at h1; simp at h1; omega
      rcases hp2 with hp2 | hp2
      · exact absurd hp2.1 hl
      · rw [hp2] at e1
        injection e1 with e1
        injection e1 with e1 e4 _
        subst e1; subst e4
        have := hx2 i.toNat (by omega)
        rw [this]
        simp [List.getD_eq_getElem?_getD, List.getElem?_eq_getElem (show i.toNat < l.length by omega)]
/-- A row of bytes that was just laid. -/
theorem BAt.lit (w : World) (l : List UInt8) (fr : Nat × Nat) (h : l.length ≤ 1000000) (b : Nat) (cs : Array Value) (e : TypeId) (hb : w.heap[b]? = some (.cells cs e fr)) (hcs : cs.toList = l.map fun x => Value.int .u8 (x.toNat : Int)) :
    BAt w (.slice (some ⟨b, 0, none⟩) l.length l.length) l :=
  ⟨_, b, 0, l.length, rfl, Nat.le_refl _, by omega, .inr rfl, fun j hj => by
    have hj2 : j < cs.toList.length := by rw [hcs]; simpa using hj
    have : cs[j]? = some (Value.int .u8 ((l[j]'hj).toNat : Int)) := by
      rw [← Array.getElem?_toList, hcs]; simp [hj]
    simp [World.cell?, hb, this]⟩
theorem Tryz.infoB : (Tryz.prog.info? 5).map (fun i => (i.zero, i.size, i.bytes)) = some (some (.int .u8 0), 1, 1) := by kernel_rfl
/-- v is a slice of bytes l that the call owns, in a row from block B on. -/
def Own (w : World) (B : Nat) (v : Value) (l : List UInt8) : Prop := w.ownsRow B 5 1 v l.length (Lib.byteCells l)
theorem Own.nil (w : World) (B : Nat) : Own w B (.slice none 0 0) [] := World.ownsRow_nil _ _ _ _
theorem Own.bat {w : World} {B : Nat} {v : Value} {l : List UInt8} (h : Own w B v l) : BAt w v l := by
  obtain ⟨h1, h2⟩ := h
  rcases h2 with ⟨rfl, hn⟩ | ⟨g, cap, cur, rfl, hg, hb, hc, hm, hs, ht⟩
  · have hl : l = [] := List.eq_nil_of_length_eq_zero hn
    subst hl
    exact ⟨none, 0, 0, 0, rfl, Nat.le_refl _, by omega, .inl ⟨rfl, fun _ => rfl⟩, fun j hj => by cases hj⟩
  · refine ⟨_, g, 0, cap, rfl, hc, by unfold maxLen at hm; omega, .inr rfl, fun j hj => ?_⟩
    have e : (cur.toList.take (l.length * 1))[j]? = (Lib.byteCells l)[j]? := by rw [ht]
    simp [World.cell?, hb]
    rw [List.getElem?_take_of_lt (by omega)] at e
    rw [Array.getElem?_toList] at e
    rw [e]; simp [Lib.byteCells, hj]
/-- Frames: every old block that is not 'row' stands. -/
theorem grownBy_keep {w w' : World} {row : Option Nat} (hg : w.grownBy w' row) {a : Addr} {x : Value} (h : w.cell? a = some x) (hr : some a.block ≠ row) : w'.cell? a = some x := by
  rw [World.cell?_of_block (hg.block _ (World.block_lt_of_cell? w _ h) hr)]; exact h
/-- 'append(v, s...)'. -/
theorem Own.append {w : World} {B : Nat} {v s : Value} {l m : List UInt8} (h : Own w B v l) (hs : BAt w s m) (hsz : l.length + m.length ≤ 1000000) (hB : B ≤ w.heap.size) (ty : TypeId) :
    ∃ v' w', (Builtin.append_ #[31, 31] ty #[v, s]).run Tryz.prog w = .ok v' w' ∧ Own w' B v' (l ++ m) ∧ w.grownBy w' v.ownBlock := by
  obtain ⟨i0, hi, hz0, hz1, hz2⟩ := info_parts Tryz.infoB
  obtain ⟨p, b, o, c, rfl, hc, hm, hp, hx⟩ := hs
  have key : ∀ a : Addr, (∀ j u, (Lib.byteCells m)[j]? = some u → w.cell? (a.add j) = some u) → ∃ v' w', (Builtin.append_ #[31, 31] ty #[v, .slice (some a) m.length c]).run Tryz.prog w = .ok v' w' ∧ Own w' B v' (l ++ m) ∧ w.grownBy w' v.ownBlock := by
    intro a ha
    obtain ⟨v', w', hr, ho, hg, _⟩ := run_append_own (P := Tryz.prog) w B 31 ty 5 i0 (.int .u8 0) 1 1 Tryz.underlying31 hi hz0 hz1 hz2 rfl (by decide) v l.length (Lib.byteCells l) h
      a m.length c (Lib.byteCells m) (by simp [Lib.byteCells]) ha (Lib.byteCells_one m) (by unfold maxLen; omega) (by omega) hB
    refine ⟨v', w', hr, ?_, hg⟩
    unfold Own
    rw [List.length_append, Lib.byteCells, List.map_append]; exact ho
  rcases hp with ⟨rfl, hp⟩ | rfl
  · cases p with
    | none =>
      have := hp rfl
      subst this
      exact ⟨v, w, run_append_owned_none w B 31 ty 5 i0 1 Tryz.underlying31 hi v l.length (Lib.byteCells l) h, by rw [List.append_nil]; exact h, ⟨rfl, rfl, rfl, Nat.le_refl _, fun _ _ _ => rfl⟩⟩
    | some a => exact key a (fun j u hj => by simp [Lib.byteCells] at hj)
  · refine key _ (fun j u hj => ?_)
    simp only [Lib.byteCells, List.getElem?_map, Option.map_eq_some_iff] at hj
    obtain ⟨x, hx1, rfl⟩ := hj
    obtain ⟨hj1, rfl⟩ := List.getElem?_eq_some_iff.1 hx1
    rw [add_plain]; exact hx j hj1
theorem Own.blk {w : World} {B : Nat} {v : Value} {l : List UInt8} (h : Own w B v l) : ∀ k, v.ownBlock = some k → B ≤ k := by
  intro k hk
  rcases h.2 with ⟨rfl, _⟩ | ⟨g, cap, cur, rfl, hg, _⟩
  · simp [Value.ownBlock] at hk
  · simp [Value.ownBlock] at hk; omega
theorem Own.below {w w' : World} {B : Nat} {v : Value} {l : List UInt8} (h : Own w B v l) (hb : Below w.heap.size w w') : Own w' B v l := by
  obtain ⟨h1, h2⟩ := h
  refine ⟨h1, ?_⟩
  rcases h2 with h2 | ⟨g, cap, cur, hv, hg, hh, r⟩
  · exact .inl h2
  · exact .inr ⟨g, cap, cur, hv, hg, by rw [hb.block g (Array.getElem?_eq_some_iff.1 hh).1]; exact hh, r⟩
theorem Own.drewN {w : World} {B : Nat} {v : Value} {l : List UInt8} (h : Own w B v l) (n : Nat) : Own (w.drewN n) B v l := h
/-- 'make([]byte, 0, n)'. -/
theorem Own.make (w : World) (n : Nat) (hn : n ≤ 1000000) :
    ∃ w', (Instr.makeSlice 31 (.int .i64 0) (.int .i64 n)).run Tryz.prog w = .ok (.slice (some ⟨w.heap.size, 0, none⟩) 0 n) w' ∧ Own w' w.heap.size (.slice (some ⟨w.heap.size, 0, none⟩) 0 n) [] ∧ Below w.heap.size w w' := by
  obtain ⟨i0, hi, hz0, hz1, hz2⟩ := info_parts Tryz.infoB
  obtain ⟨w', h1, h2, h3⟩ := run_make_own (P := Tryz.prog) w w.heap.size 31 5 i0 (.int .u8 0) 1 Tryz.underlying31 hi hz0 hz1 .i64 .i64 n (by rw [hz2]; omega) (by unfold maxLen; omega) (Nat.le_refl _)
  exact ⟨w', h1, h2, (Below.refl _ w).grown h3 (Nat.le_refl _) (fun k hk => by cases hk)⟩
/-- '[]byte(s)'. -/
theorem toBytes (w : World) (s : ByteArray) (src : TypeId) (hs : Tryz.prog.underlying src = some .string) (hsz : s.size ≤ 1000000) :
    ∃ v w', (convert src 31 (.string s)).run Tryz.prog w = .ok v w' ∧ BAt w' v s.data.toList ∧ Below w.heap.size w w' ∧ w.heap.size < w'.heap.size := by
  have h := run_bytes_of_string (P := Tryz.prog) w src 31 5 s hs Tryz.underlying31 Tryz.underlying5
  have hlen : s.data.toList.length = s.size := (Lib.size_eq s).symm
  refine ⟨_, _, h, ?_, (Below.refl _ w).drew.alloc (by simp) _, by simp⟩
  have hc1 : s.size ≤ grownCap w s.size 0 5 := grownCap_ge _ _ _ _
  have hc2 : grownCap w s.size 0 5 ≤ 9223372036854775807 := grownCap_le_maxLen _ _ _ _ (by unfold maxLen; omega)
  refine ⟨_, w.heap.size, 0, _, by rw [hlen], by rw [hlen]; exact hc1, hc2, .inr rfl, fun j hj => ?_⟩
  rw [hlen] at hj
  generalize grownCap w s.size 0 5 = cap at *
  have hb : (w.drew.alloc (.cells (bytesRow s cap) 5 ((bytesRow s cap).size, (bytesRow s cap).size + 1))).heap[w.heap.size]? = some (.cells (bytesRow s cap) 5 ((bytesRow s cap).size, (bytesRow s cap).size + 1)) := heap_alloc_new w.drew _
  have hg : (bytesRow s cap)[j]? = some (.int .u8 ((s.data.toList[j]'(by rw [hlen]; exact hj)).toNat : Int)) := by
    unfold bytesRow
    rw [Array.getElem?_append_left (by simp; exact hj)]
    simp
    exact ⟨_, Array.getElem?_eq_getElem hj, rfl⟩
  simp only [World.cell?, hb, Nat.zero_add]
  simpa using hg
/-- An append whose run is known. -/
theorem wpList_append_known (w : World) {ops : Array Oper} {rest : List Oper} {o : Oper} {a : Act} {Q : Exit → Act → World → Prop} (hgd : o.guard = none) (s x : Operand)
    (ho : o.op = .call { callee := .builtin .append, args := #[s, x], argTypes := #[31, 31] }) (v u : Value) (hs : a.eval s = v) (hx : a.eval x = u) {v' : Value} {w' : World}
    (hr : (Builtin.append_ #[31, 31] o.type #[v, u]).run Tryz.prog w = .ok v' w') (h : wpList Tryz.prog ops Q rest (a.put o.dst v') w') : wpList Tryz.prog ops Q (o :: rest) a w := by
  refine wpList_plain hgd fun K hK => ?_
  unfold Oper.wp execOp
  simp only [ho, resolve, invoke, builtin, Sem.run_bind, Sem.run_pure, Result.andThen_ok, List.map_toArray, List.map_cons, List.map_nil, hs, hx, hr]
  exact hK _ _ h
theorem Below.trans' {B : Nat} {a b c : World} (h : Below B a b) (hB : B ≤ a.heap.size) (k : Below b.heap.size b c) : Below B a c := h.trans (k.mono (Nat.le_trans hB h.size))
end Go.Proofs.YtlmcglaajmjanaaGreatDoor

namespace Go.Proofs.YtlmcglaajmjanaaGreatDoor
open Go.RowKit
/-- What a function that lays one constant row of bytes gives. -/
def LitQ (l : List UInt8) (w : World) (e : Ending) (w' : World) : Prop := ∃ v, e = .returned v ∧ Hid (BAt w' v l) ∧ Below w.heap.size w w' ∧ w.heap.size < w'.heap.size
theorem LitQ.mk (w : World) (l : List UInt8) (cs : Array Value) (fr : Nat × Nat) (h : l.length ≤ 1000) (hcs : cs.toList = l.map fun x => Value.int .u8 (x.toNat : Int)) :
    LitQ l w (.returned (.slice (some ⟨w.heap.size, 0, none⟩) l.length l.length)) (w.alloc (.cells cs 5 fr)) :=
  ⟨_, rfl, BAt.lit _ l fr (by omega) _ cs 5 (heap_alloc_new w _) hcs, (Below.refl _ _).alloc (Nat.le_refl _) _, by simp⟩
theorem startBytes (w : World) : Calls Tryz.prog 69 #[] w (LitQ mkS w) := by
  have kc := fun (w : World) (C : Array Value) (n c : Nat) => Lib.run_convert_bytes_const (P := Tryz.prog) w 31 5 C n c Tryz.underlying31 Tryz.underlying5
  go_enter Tryz.func69, Tryz.ntmps69
  go_wp2
  go_ret
  exact LitQ.mk w mkS _ _ (by decide) rfl
theorem endBytes (w : World) : Calls Tryz.prog 97 #[] w (LitQ mkE w) := by
  have kc := fun (w : World) (C : Array Value) (n c : Nat) => Lib.run_convert_bytes_const (P := Tryz.prog) w 31 5 C n c Tryz.underlying31 Tryz.underlying5
  go_enter Tryz.func97, Tryz.ntmps97
  go_wp2
  go_ret
  exact LitQ.mk w mkE _ _ (by decide) rfl
theorem redactedBytes (w : World) : Calls Tryz.prog 98 #[] w (LitQ mkX w) := by
  have kc := fun (w : World) (C : Array Value) (n c : Nat) => Lib.run_convert_bytes_const (P := Tryz.prog) w 31 5 C n c Tryz.underlying31 Tryz.underlying5
  go_enter Tryz.func98, Tryz.ntmps98
  go_wp2
  go_ret
  exact LitQ.mk w mkX _ _ (by decide) rfl

/-- Where p lies in l, first. -/
def idxL (p : List UInt8) : List UInt8 → Option Nat
  | [] => if p = [] then some 0 else none
  | x :: l => if (x :: l).take p.length = p then some 0 else (idxL p l).map (· + 1)
def idxI (p l : List UInt8) : Int := match idxL p l with | some i => i | none => -1
theorem idxL_short (p : List UInt8) : ∀ l : List UInt8, l.length < p.length → idxL p l = none := by
  intro l
  induction l with
  | nil => intro h; simp only [idxL]; rw [if_neg (by intro hn; rw [hn] at h; simp at h)]
  | cons x l ih =>
    intro h
    simp only [idxL]
    rw [if_neg (by intro hn; have := congrArg List.length hn; simp at this; simp at h; omega), ih (by simp at h; omega)]; rfl
theorem idxL_hit (p l : List UInt8) (h : l.take p.length = p) : idxL p l = some 0 := by
  cases l with
  | nil => simp only [idxL]; rw [if_pos (by simpa using h.symm)]
  | cons x l => simp only [idxL]; rw [if_pos h]
theorem idxL_miss (p l : List UInt8) (x : UInt8) (h : ¬ (x :: l).take p.length = p) : idxL p (x :: l) = (idxL p l).map (· + 1) := by
  simp only [idxL]; rw [if_neg h]
theorem idxL_le (p : List UInt8) : ∀ (l : List UInt8) (i : Nat), idxL p l = some i → i + p.length ≤ l.length ∧ (l.drop i).take p.length = p := by
  intro l
  induction l with
  | nil => intro i h; simp only [idxL] at h; split at h <;> simp at h; rename_i hp; subst hp; subst h; simp
  | cons x l ih =>
    intro i h
    simp only [idxL] at h
    split at h
    · rename_i hp
      simp at h; subst h
      refine ⟨?_, by simpa using hp⟩
      have := congrArg List.length hp
      simp at this ⊢; omega
    · cases hi : idxL p l with
      | none => rw [hi] at h; simp at h
      | some k =>
        rw [hi] at h; simp at h; subst h
        have := ih k hi
        simp; exact ⟨by omega, this.2⟩
/-- What is left to look at from k on. -/
def IdxAt (p l : List UInt8) (k : Nat) : Prop := (idxL p (l.drop k)).map (· + k) = idxL p l
theorem IdxAt.start (p l : List UInt8) : IdxAt p l 0 := by unfold IdxAt; cases h : idxL p l <;> simp [h]
theorem IdxAt.next {p l : List UInt8} {k : Nat} (h : IdxAt p l k) (hk : k < l.length) (hm : ¬ (l.drop k).take p.length = p) : IdxAt p l (k + 1) := by
  unfold IdxAt at *
  rw [← h]
  rw [List.drop_eq_getElem_cons hk] at hm ⊢
  rw [idxL_miss p _ _ hm]
  cases idxL p (l.drop (k + 1)) <;> simp; omega
theorem IdxAt.hit {p l : List UInt8} {k : Nat} (h : IdxAt p l k) (hm : (l.drop k).take p.length = p) : idxI p l = k := by
  unfold IdxAt at h
  rw [idxL_hit p _ hm] at h
  unfold idxI; rw [← h]; simp
theorem IdxAt.stop {p l : List UInt8} {k : Nat} (h : IdxAt p l k) (hk : l.length < k + p.length) (hp : p ≠ []) : idxI p l = -1 := by
  unfold IdxAt at h
  have hpl : 0 < p.length := List.length_pos_iff.2 hp
  rw [idxL_short p _ (by simp; omega)] at h
  unfold idxI; rw [← h]; rfl

set_option maxHeartbeats 1000000 in
set_option maxRecDepth 100000 in
theorem index_any (s sep : Value) (l p : List UInt8) (w : World) (hs : BAt w s l) (hsep : BAt w sep p) (hl : l.length ≤ 100000) (hp : p.length ≤ 100) (hp0 : 0 < p.length) :
    Calls Tryz.prog 68 #[s, sep] w fun e w' => e = .returned (.int .i64 (idxI p l)) ∧ ∃ n, w' = w.drewN n := by
  have hlen := hs.len 3
  have hlen2 := hsep.len 3
  have hst := fun n => (hsep.drewN n).str 9 Tryz.underlying9
  have HS := Lib.hid hs; clear hs
  have HP := Lib.hid hsep; clear hsep
  go_enter Tryz.func68, Tryz.ntmps68
  go_wp2
  go_loopw [5] (fun iv wr => ∃ (k n : Nat), iv = .int .i64 k ∧ k ≤ l.length ∧ Hid (IdxAt p l k) ∧ wr = w.drewN n) (fun iv _ => l.length - (intOf iv).toNat)
  case atStart => exact ⟨0, 0, rfl, by omega, IdxAt.start p l, rfl⟩
  case round =>
    obtain ⟨k, n, rfl, hk, hI, rfl⟩ := hrel
    by_cases hlt : k + p.length ≤ l.length
    · obtain ⟨v2, hsub, hv2⟩ := HS.out.sub k (k + p.length) (by omega) (by omega) (by omega)
      have hst2 := fun m => ((hv2 _ HS.out).drewN m).str 9 Tryz.underlying9
      clear hv2
      have hcut : List.drop k (List.take (k + p.length) l) = (l.drop k).take p.length := by rw [List.drop_take]; congr 1; omega
      by_cases hm : (l.drop k).take p.length = p
      · have hb : (List.drop k (List.take (k + p.length) l) == p) = true := by rw [hcut, hm]; simp
        have hfin := hI.out.hit hm
        have Hfin := Lib.hid hfin; clear hfin hcut hm
        go_wp2
        go_quiet (fail)
        go_wp2
        go_ret
        exact ⟨ret_int Hfin.out.symm, n + nq, by rw [World.drewN_drewN]⟩
      · have hb : (List.drop k (List.take (k + p.length) l) == p) = false := by rw [hcut]; simpa using hm
        have hn2 := hI.out.next (by omega) hm
        have Hn2 := Lib.hid hn2; clear hn2 hcut hm
        go_wp2
        go_quiet (fail)
        go_wp2
        go_roundw
        case rel => exact ⟨k + 1, n + nq, by go_num, by omega, Hn2.out, rfl⟩
        case measure => simp [intOf]; omega
    · have hfin := hI.out.stop (by omega) (by intro hn; rw [hn] at hp0; simp at hp0)
      have Hfin := Lib.hid hfin; clear hfin
      go_wp2
      go_ret
      exact ⟨ret_int Hfin.out.symm, n, rfl⟩
/-- What a marked text is redacted to. -/
def redF : Nat → List UInt8 → List UInt8
  | 0, l => l
  | f + 1, l => match idxL mkS l with
    | none => l
    | some i => match idxL mkE (l.drop (i + 3)) with
      | none => l
      | some j => l.take i ++ mkX ++ redF f (l.drop (i + 3 + j + 3))
def redL (l : List UInt8) : List UInt8 := redF l.length l
theorem redF_more : ∀ (f g : Nat) (l : List UInt8), l.length ≤ f → l.length ≤ g → redF f l = redF g l := by
  intro f
  induction f with
  | zero =>
    intro g l h _
    have hl : l = [] := List.eq_nil_of_length_eq_zero (by omega)
    subst hl
    cases g <;> rfl
  | succ f ih =>
    intro g l h h'
    cases g with
    | zero =>
      have hl : l = [] := List.eq_nil_of_length_eq_zero (by omega)
      subst hl; rfl
    | succ g =>
      simp only [redF]
      cases hi : idxL mkS l with
      | none => rfl
      | some i =>
        simp only
        cases hj : idxL mkE (l.drop (i + 3)) with
        | none => rfl
        | some j =>
          simp only
          rw [ih g _ (by simp; omega) (by simp; omega)]
theorem redL_none {l : List UInt8} (h : idxL mkS l = none) : redL l = l := by
  unfold redL
  cases hl : l.length with
  | zero => rfl
  | succ n => simp only [redF]; rw [h]
theorem redL_open {l : List UInt8} {i : Nat} (h : idxL mkS l = some i) (hj : idxL mkE (l.drop (i + 3)) = none) : redL l = l := by
  unfold redL
  cases hl : l.length with
  | zero => rfl
  | succ n => simp only [redF]; rw [h]; simp only; rw [hj]
theorem redL_shut {l : List UInt8} {i j : Nat} (h : idxL mkS l = some i) (hj : idxL mkE (l.drop (i + 3)) = some j) : redL l = l.take i ++ mkX ++ redL (l.drop (i + 3 + j + 3)) := by
  have hle := (idxL_le mkS l i h).1
  have h3 : mkS.length = 3 := rfl
  have : redL l = redF (l.length - 1 + 1) l := by unfold redL; congr 1; omega
  rw [this]
  simp only [redF]
  rw [h]; simp only; rw [hj]; simp only
  rw [redF_more (l.length - 1) (l.drop (i + 3 + j + 3)).length _ (by simp; omega) (Nat.le_refl _)]; rfl
theorem idxI_none {p l : List UInt8} (h : idxL p l = none) : idxI p l = -1 := by unfold idxI; rw [h]
theorem idxI_some {p l : List UInt8} {i : Nat} (h : idxL p l = some i) : idxI p l = i := by unfold idxI; rw [h]

def BytesQ (l : List UInt8) (w : World) (e : Ending) (w' : World) : Prop := ∃ v, e = .returned v ∧ Hid (BAt w' v l) ∧ Below w.heap.size w w'
theorem below_drewN' {B : Nat} {a w : World} (h : Below B a w) (n : Nat) : Below B a (w.drewN n) := ⟨h.os, h.tape, h.output, h.size, h.block⟩

set_option maxHeartbeats 2000000 in
theorem redactBytes_none (s : Value) (l : List UInt8) (w : World) (hs : BAt w s l) (hl : l.length ≤ 2000) (hi : idxL mkS l = none) : Calls Tryz.prog 70 #[s] w (BytesQ (redL l) w) := by
  have hii := idxI_none hi
  have HR := Lib.hid (redL_none hi)
  have HS := Lib.hid hs; clear hs
  go_enter Tryz.func70, Tryz.ntmps70
  go_wp2_with fail
  refine (startBytes _).mono ?_
  rintro e w1 ⟨v1, rfl, hv1, hb1, _⟩
  go_wp2_with fail
  refine (index_any _ _ l mkS w1 (HS.out.below hb1) hv1.out (by omega) (by decide) (by decide)).mono ?_
  rintro e w2 ⟨rfl, n, rfl⟩
  go_wp2
  go_ret
  exact ⟨s, rfl, by show BAt _ _ _; rw [HR.out]; exact (HS.out.below hb1).drewN n, below_drewN' hb1 n⟩

set_option maxHeartbeats 4000000 in
set_option maxRecDepth 100000 in
theorem redactBytes_some (s : Value) (l : List UInt8) (w : World) (hs : BAt w s l) (hl : l.length ≤ 2000) (i0 : Nat) (hi : idxL mkS l = some i0) : Calls Tryz.prog 70 #[s] w (BytesQ (redL l) w) := by
  have hii := idxI_some hi
  have hd0 : ((i0 : Int) == -1) = false := beq_eq_false_iff_ne.2 (by omega)
  have hlen := hs.len 3
  have HS := Lib.hid hs; clear hs
  have HI := Lib.hid hi; clear hi
  go_enter Tryz.func70, Tryz.ntmps70
  go_wp2_with fail
  refine (startBytes _).mono ?_
  rintro e w1 ⟨v1, rfl, hv1, hb1, _⟩
  go_wp2_with fail
  refine (index_any _ _ l mkS w1 (HS.out.below hb1) hv1.out (by omega) (by decide) (by decide)).mono ?_
  rintro e w2 ⟨rfl, n, rfl⟩
  have hb2 := below_drewN' hb1 n
  generalize w1.drewN n = w2 at hb2
  clear hb1 hv1
  obtain ⟨w3, hmk, hown3, hb3⟩ := Own.make w2 l.length (by omega)
  have HO3 := Lib.hid hown3; clear hown3
  have hBz : w.heap.size ≤ w2.heap.size := hb2.size
  have hb30 : Below w.heap.size w w3 := hb2.trans (hb3.mono hBz)
  have hz3 := hb3.size
  generalize hBB : w2.heap.size = B at *
  have HB := Lib.hid hBB; clear hBB
  go_wp2
  go_loopw [3, 4, 5] (fun iv bv pv wr => ∃ (pos : Nat) (acc : List UInt8) (ix : Int), iv = .int .i64 ix ∧ pv = .int .i64 pos ∧ pos ≤ l.length ∧ acc.length ≤ 2 * pos ∧ Hid (ix = idxI mkS (l.drop pos) ∧ acc ++ redL (l.drop pos) = redL l ∧ Own wr B bv acc) ∧ Below w.heap.size w wr ∧ B ≤ wr.heap.size)
    (fun _ _ pv _ => l.length - (intOf pv).toNat)
  case atStart => exact ⟨0, [], i0, rfl, rfl, by omega, by simp, ⟨(idxI_some HI.out).symm, by simp, HO3.out⟩, hb30, hz3⟩
  case round =>
    obtain ⟨pos, acc, ix, rfl, rfl, hpos, hacc, hR, hnx, hwz⟩ := hrel
    clear HO3 hb30 hz3 hmk HI hii
    cases hx : idxL mkS (l.drop pos) with
    | none =>
      obtain rfl : ix = -1 := hR.out.1.trans (idxI_none hx)
      obtain ⟨v5, hfr, hv5⟩ := HS.out.from_ pos (by omega) (by omega)
      obtain ⟨bv6, w6, hap, hown6, hg6⟩ := hR.out.2.2.append (hv5 _ (HS.out.below hnx)) (by simp; omega) hwz 31
      have hfin : acc ++ (l.drop pos) = redL l := by rw [← hR.out.2.1, redL_none hx]
      have hb6 : Below w.heap.size w w6 := hnx.grown hg6 hnx.size (fun k hk => Nat.le_trans hBz (hR.out.2.2.blk k hk))
      have HF := Lib.hid (And.intro hfin hown6); clear hfin hown6 hx hv5 hg6
      go_wp2_with (at_builtin; refine wpList_append_known _ rfl _ _ rfl _ _ rfl rfl hap ?_)
      go_ret
      exact ⟨bv6, rfl, by show BAt _ _ _; rw [← HF.out.1]; simpa using HF.out.2.bat, hb6⟩
    | some i =>
      obtain rfl : ix = i := hR.out.1.trans (idxI_some hx)
      have hle := (idxL_le mkS _ i hx).1
      have hle' : pos + i + 3 ≤ l.length := by have : mkS.length = 3 := rfl; simp at hle; omega
      clear hle
      obtain ⟨v5, hfr, hv5⟩ := HS.out.sub pos (pos + i) (by omega) (by omega) (by omega)
      obtain ⟨bv6, w6, hap, hown6, hg6⟩ := hR.out.2.2.append (hv5 _ (HS.out.below hnx)) (by simp; omega) hwz 31
      have hb6 : Below w.heap.size w w6 := hnx.grown hg6 hnx.size (fun k hk => Nat.le_trans hBz (hR.out.2.2.blk k hk))
      have hz6 : B ≤ w6.heap.size := Nat.le_trans hwz hg6.size
      have HX := Lib.hid (And.intro hx hown6); clear hx hown6 hv5 hg6
      obtain ⟨v7, hfr7, hv7⟩ := HS.out.from_ (pos + i + 3) (by omega) (by omega)
      cases hy : idxL mkE (l.drop (pos + i + 3)) with
      | none =>
        have hji := idxI_none hy
        have Hfin := Lib.hid (show acc ++ l.drop pos = redL l by rw [← hR.out.2.1, redL_open HX.out.1 (by rw [List.drop_drop]; exact hy)])
        obtain ⟨v10, hfr10, hv10⟩ := HS.out.from_ (pos + i) (by omega) (by omega)
        go_wp2_with (at_builtin; refine wpList_append_known _ rfl _ _ rfl _ _ rfl rfl hap ?_)
        go_region_with (first | (go_at_call 97; refine (endBytes _).mono ?_; rintro e w8 ⟨v8, rfl, hv8, hb8, hz8⟩) | (go_at_call 68; refine (index_any _ _ (l.drop (pos + i + 3)) mkE _ (by exact hv7 _ (HS.out.below (Below.trans' hb6.drew (Nat.le_refl _) hb8))) (by exact hv8.out) (by simp; omega) (by decide) (by decide)).mono ?_; rintro e w9 ⟨rfl, n9, rfl⟩))
        clear hfr hap hfr7
        have hb9 : Below w.heap.size w (w8.drewN n9) := below_drewN' (Below.trans' hb6.drew (Nat.le_refl _) hb8) n9
        obtain ⟨bv11, w11, hap11, hown11, hg11⟩ := ((HX.out.2.below (Below.refl _ _).drew).below hb8 |>.drewN n9).append (hv10 _ (HS.out.below hb9)) (by simp; omega) (by have := hb8.size; have := HB.out; simp at *; omega) 31
        have hb11 : Below w.heap.size w w11 := hb9.grown hg11 hb9.size (fun k hk => Nat.le_trans hBz (HX.out.2.blk k hk))
        have HF := Lib.hid hown11; clear hown11 hg11
        go_wp2_with (at_builtin; refine wpList_append_known _ rfl _ _ rfl _ _ rfl rfl hap11 ?_)
        go_ret
        refine ⟨bv11, rfl, ?_, hb11⟩
        show BAt _ _ _
        have hcat : acc ++ List.drop pos (List.take (pos + i) l) ++ List.drop (pos + i) l = redL l := by
          rw [← Hfin.out, List.append_assoc]
          congr 1
          rw [List.drop_take, show pos + i - pos = i by omega, show List.drop (pos + i) l = List.drop i (List.drop pos l) by rw [List.drop_drop], List.take_append_drop]
        rw [← hcat]
        have e1 : ((pos : Int) + (i : Int)).toNat = pos + i := by omega
        simpa [e1] using HF.out.bat
      | some j =>
        have hji := idxI_some hy
        have hle2 := (idxL_le mkE _ j hy).1
        have hle2' : pos + i + 3 + j + 3 ≤ l.length := by have : mkE.length = 3 := rfl; simp at hle2; omega
        clear hle2
        have Hfin := Lib.hid (show acc ++ ((l.drop pos).take i ++ mkX ++ redL (l.drop (pos + i + 3 + j + 3))) = redL l by
          rw [← hR.out.2.1, redL_shut HX.out.1 (j := j) (by rw [List.drop_drop]; exact hy), List.drop_drop, show pos + (i + 3 + j + 3) = pos + i + 3 + j + 3 by omega])
        go_wp2_with (at_builtin; refine wpList_append_known _ rfl _ _ rfl _ _ rfl rfl hap ?_)
        go_region_with (first | (go_at_call 97; refine (endBytes _).mono ?_; rintro e w8 ⟨v8, rfl, hv8, hb8, hz8⟩) | (go_at_call 68; refine (index_any _ _ (l.drop (pos + i + 3)) mkE _ (by exact hv7 _ (HS.out.below (Below.trans' hb6.drew (Nat.le_refl _) hb8))) (by exact hv8.out) (by simp; omega) (by decide) (by decide)).mono ?_; rintro e w9 ⟨rfl, n9, rfl⟩))
        clear hfr hap hfr7
        have hb9 : Below w.heap.size w (w8.drewN n9) := below_drewN' (Below.trans' hb6.drew (Nat.le_refl _) hb8) n9
        have hown9 := ((HX.out.2.below (Below.refl _ _).drew).below hb8).drewN n9
        have hz9 : B ≤ (w8.drewN n9).heap.size := by have := hb8.size; simp at this; show B ≤ w8.heap.size; omega
        have HO9 := Lib.hid hown9; clear hown9
        clear hb8 hv8
        generalize w8.drewN n9 = w9 at *
        go_wp2_with fail
        refine (redactedBytes _).mono ?_
        rintro e w10 ⟨v10, rfl, hv10, hb10, _⟩
        have hb10' : Below w.heap.size w w10 := Below.trans' hb9 (Nat.le_refl _) hb10
        have hz10 : B ≤ w10.heap.size := Nat.le_trans hz9 hb10.size
        obtain ⟨bv11, w11, hap11, hown11, hg11⟩ := (HO9.out.below hb10).append hv10.out (by have : mkX.length = 8 := rfl; simp; omega) hz10 31
        have hb11 : Below w.heap.size w w11 := hb10'.grown hg11 hb10'.size (fun k hk => Nat.le_trans hBz (HO9.out.blk k hk))
        have hz11 : B ≤ w11.heap.size := Nat.le_trans hz10 hg11.size
        have HF := Lib.hid hown11; clear hown11 hg11
        obtain ⟨v12, hfr12, hv12⟩ := HS.out.from_ (pos + i + 3 + j + 3) (by omega) (by omega)
        go_wp2_with (at_builtin; refine wpList_append_known _ rfl _ _ rfl _ _ rfl rfl hap11 ?_)
        go_region_with (first | (go_at_call 69; refine (startBytes _).mono ?_; rintro e w13 ⟨v13, rfl, hv13, hb13, hz13⟩) | (go_at_call 68; refine (index_any _ _ (l.drop (pos + i + 3 + j + 3)) mkS _ (by exact hv12 _ (HS.out.below (Below.trans' hb11.drew (Nat.le_refl _) hb13))) (by exact hv13.out) (by simp; omega) (by decide) (by decide)).mono ?_; rintro e w14 ⟨rfl, n14, rfl⟩))
        have hb14 : Below w.heap.size w (w13.drewN n14) := below_drewN' (Below.trans' hb11.drew (Nat.le_refl _) hb13) n14
        have hown14 := ((HF.out.below (Below.refl _ _).drew).below hb13).drewN n14
        have hz14 : B ≤ (w13.drewN n14).heap.size := by have := hb13.size; simp at this; show B ≤ w13.heap.size; omega
        have HO14 := Lib.hid hown14; clear hown14
        simp only [Act.put, List.getElem_toArray, List.getElem_cons_succ, List.getElem_cons_zero, List.setIfInBounds_toArray, List.set_cons_succ, List.set_cons_zero]
        go_wp2
        go_roundw
        case rel =>
          refine ⟨pos + i + 3 + j + 3, acc ++ List.drop pos (List.take (pos + i) l) ++ mkX, _, rfl, by go_num, by omega, by have : mkX.length = 8 := rfl; simp; omega, ⟨rfl, ?_, ?_⟩, hb14, hz14⟩
          · rw [← Hfin.out, List.drop_take, show pos + i - pos = i by omega]; simp
          · have e1 : ((pos : Int) + (i : Int)).toNat = pos + i := by omega
            simpa [e1] using HO14.out
        case measure => simp [intOf]; omega
end Go.Proofs.YtlmcglaajmjanaaGreatDoor

namespace Go.Proofs.YtlmcglaajmjanaaGreatDoor
open Go.RowKit
theorem redactBytes_any (s : Value) (l : List UInt8) (w : World) (hs : BAt w s l) (hl : l.length ≤ 2000) : Calls Tryz.prog 70 #[s] w (BytesQ (redL l) w) := by
  cases hi : idxL mkS l with
  | none => exact redactBytes_none s l w hs hl hi
  | some i => exact redactBytes_some s l w hs hl i hi
def RedQ (l : List UInt8) (w : World) (e : Ending) (w' : World) : Prop := ∃ r : ByteArray, e = .returned (.string r) ∧ Hid (r.data.toList = l) ∧ Below w.heap.size w w'

set_option maxHeartbeats 1000000 in
theorem redactString_any (s : ByteArray) (w : World) (hs : s.size ≤ 1000) : Calls Tryz.prog 45 #[.string s] w (RedQ (redL s.data.toList) w) := by
  have hlen : s.data.toList.length = s.size := (Lib.size_eq s).symm
  have hl : s.data.toList.length ≤ 2000 := by omega
  obtain ⟨v1, w1, hc1, hv1, hb1, _⟩ := toBytes w s 50 Tryz.underlying50 (by omega)
  have HV1 := Lib.hid hv1; clear hv1
  have HL := Lib.hid hlen; clear hlen
  cases hi : idxL mkS s.data.toList with
  | none =>
    have hii := idxI_none hi
    have HR := Lib.hid (redL_none hi)
    have Hi := Lib.hid hi; clear hi
    go_enter Tryz.func45, Tryz.ntmps45
    go_wp2_with fail
    refine (startBytes _).mono ?_
    rintro e w2 ⟨v2, rfl, hv2, hb2, _⟩
    go_wp2_with fail
    refine (index_any _ _ s.data.toList mkS w2 (HV1.out.below hb2) hv2.out (by omega) (by decide) (by decide)).mono ?_
    rintro e w3 ⟨rfl, n, rfl⟩
    go_wp2
    go_ret
    exact ⟨s, rfl, HR.out.symm, below_drewN' (Below.trans' hb1 (Nat.le_refl _) hb2) n⟩
  | some i =>
    have hii := idxI_some hi
    have hd0 : ((i : Int) == -1) = false := beq_eq_false_iff_ne.2 (by omega)
    have Hi := Lib.hid hi; clear hi
    go_enter Tryz.func45, Tryz.ntmps45
    go_wp2_with fail
    refine (startBytes _).mono ?_
    rintro e w2 ⟨v2, rfl, hv2, hb2, _⟩
    go_wp2_with fail
    refine (index_any _ _ s.data.toList mkS w2 (HV1.out.below hb2) hv2.out (by omega) (by decide) (by decide)).mono ?_
    rintro e w3 ⟨rfl, n, rfl⟩
    have hb3 : Below w.heap.size w (w2.drewN n) := below_drewN' (Below.trans' hb1 (Nat.le_refl _) hb2) n
    generalize w2.drewN n = w3 at *
    clear hc1
    obtain ⟨v4, w4, hc4, hv4, hb4, _⟩ := toBytes w3 s 50 Tryz.underlying50 (by omega)
    have HV4 := Lib.hid hv4; clear hv4
    go_wp2_with fail
    refine (redactBytes_any _ s.data.toList w4 HV4.out (by omega)).mono ?_
    rintro e w5 ⟨v5, rfl, hv5, hb5⟩
    have hst := hv5.out.str 50 Tryz.underlying50
    go_wp2
    go_ret
    exact ⟨_, rfl, by show _ = _; simp, Below.trans' (Below.trans' hb3 (Nat.le_refl _) hb4) (Nat.le_refl _) hb5⟩

theorem implRedact_any (s : ByteArray) (w : World) (hs : s.size ≤ 400) : Calls Tryz.prog 17 #[.string s] w (RedQ (redL s.data.toList) w) := by
  go_enter Tryz.func17, Tryz.ntmps17
  go_wp2_with fail
  refine (redactString_any s w (by omega)).mono ?_
  rintro e w1 ⟨r, rfl, hr, hb⟩
  go_wp2
  go_ret
  exact ⟨r, rfl, hr, hb⟩
end Go.Proofs.YtlmcglaajmjanaaGreatDoor
