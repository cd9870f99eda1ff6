/- Walks of the reference's own small functions: ends, Escaped, Unsafe, Number: what each returns, for texts of at most 100,000 bytes. -/
import Derived.Test.YtlmcglaajmjanaaGreatDoorProg
import Derived.Test.YtlmcglaajmjanaaGreatDoorStr
import Derived.WalkKit
import Derived.WalkSpells
import Derived.WalkLawsBesides
import Derived.KernelRfl
import Derived.Handy
import Derived.Lib.Hide
import Derived.Lib.SlBytesConst
import Derived.Lib.OthersKept
namespace Go.Proofs.YtlmcglaajmjanaaGreatDoor
open Go.RowKit
attribute [local irreducible] Utf8.encode Utf8.decode

theorem ends_any (s t : ByteArray) (w : World) (hs : s.size ≤ 100000) (ht : t.size ≤ 100000) :
    Calls Tryz.prog 57 #[.string s, .string t] w fun e w' => (∃ b, e = .returned (.bool b) ∧ Hid (b = Lib.hasSuffix s.data.toList t.data.toList)) ∧ w = w' := by
  have hr := Lib.hasSuffix_raw s t
  have Hr := Lib.hid hr; clear hr
  by_cases h : t.size ≤ s.size
  · go_enter Tryz.func57, Tryz.ntmps57
    go_wp2
    go_ret
    refine ⟨⟨_, rfl, ?_⟩, rfl⟩
    show _ = _
    rw [← Hr.out]
    simp [h]
  · go_enter Tryz.func57, Tryz.ntmps57
    go_wp2
    go_ret
    refine ⟨⟨_, rfl, ?_⟩, rfl⟩
    show _ = _
    rw [← Hr.out]
    simp [h]

theorem escR_mk {r : Nat} {l : List UInt8} (he : encL r = l) (hm : l = [226, 128, 185] ∨ l = [226, 128, 186] ∨ l = [226, 128, 160]) : escR r = [63] := by
  unfold escR isMk mkS mkE mkH
  rw [he]
  rcases hm with h | h | h <;> rw [h] <;> rfl
theorem escR_plain {r : Nat} {l : List UInt8} (he : encL r = l) (h1 : (l == [226, 128, 185]) = false) (h2 : (l == [226, 128, 186]) = false) (h3 : (l == [226, 128, 160]) = false) : escR r = l := by
  unfold escR isMk mkS mkE mkH
  rw [he, h1, h2, h3]; rfl
theorem mk4 (l : List UInt8) : (l = [226, 128, 185] ∨ l = [226, 128, 186] ∨ l = [226, 128, 160]) ∨ ((l == [226, 128, 185]) = false ∧ (l == [226, 128, 186]) = false ∧ (l == [226, 128, 160]) = false) := by
  by_cases h1 : l = [226, 128, 185]
  · exact .inl (.inl h1)
  by_cases h2 : l = [226, 128, 186]
  · exact .inl (.inr (.inl h2))
  by_cases h3 : l = [226, 128, 160]
  · exact .inl (.inr (.inr h3))
  · exact .inr ⟨by simp [h1], by simp [h2], by simp [h3]⟩
theorem esc_round {r : Nat} {acc a2 x : ByteArray} (hx : escR r = x.toList) {rest rest' : List Nat} {goal : List UInt8}
    (hst : rest = r :: rest') (h : acc.data.toList ++ escL rest = goal) (h2 : acc ++ x = a2) : a2.data.toList ++ escL rest' = goal := by
  rw [← h, hst, ← h2]
  simp only [escL, hx]
  simp [ByteArray.data_append, Lib.toList_data]

set_option maxHeartbeats 1000000 in
theorem escaped_any (s : ByteArray) (w : World) (hs : s.size ≤ 100000) : Calls Tryz.prog 31 #[.string s] w fun e w' =>
    (∃ r : ByteArray, e = .returned (.string r) ∧ Hid (r.data.toList = escB s.data.toList ∧ r.size ≤ 4 * s.size)) ∧ Below w.heap.size w w' := by
  have hI0 := World.iter_heap w s 0
  have hb0 : Below w.heap.size w (w.iter s 0) := (Below.refl _ w).alloc (Nat.le_refl _) _
  go_enter Tryz.func31, Tryz.ntmps31
  go_wp2
  go_loopw [3] (fun o wr => ∃ (pos : Nat) (acc : ByteArray) (rest : List Nat), o = .string acc ∧ acc.size ≤ 4 * pos ∧ Hid (acc.data.toList ++ escL rest = escB s.data.toList ∧ RunesAt s pos rest) ∧ pos ≤ s.size ∧ wr.heap[w.heap.size]? = some (.stringIter s pos) ∧ Below w.heap.size w wr)
    (fun _ wr => s.size - wr.iterPos w.heap.size)
  case atStart => exact ⟨0, ⟨#[]⟩, runes s, rfl, Nat.le_refl _, ⟨by unfold escB; rw [runesL_data]; rfl, RunesAt.start s⟩, Nat.zero_le _, hI0, hb0⟩
  case round =>
    obtain ⟨pos, acc, rest, rfl, hasz, hacc, hps, hk, hnx⟩ := hrel
    clear hI0 hb0
    by_cases hp : pos < s.size
    · have hadv := decode_adv s pos hp
      obtain ⟨rest', hst⟩ := hacc.out.2.step hp
      have hnext : ∀ ty, (Instr.next (.pointer (some ⟨w.heap.size, 0, none⟩)) true ty).run Tryz.prog wr = _ := fun ty => Lib.run_next_any_at wr w.heap.size s pos ty hk hp
      have hk1 := Lib.iterAt_heap wr w.heap.size s pos (pos + (Utf8.decode s pos).2) hk
      have hnx1 : Below w.heap.size w (wr.iterAt w.heap.size s (pos + (Utf8.decode s pos).2)) := Lib.below_iterAt hnx (by omega) s _
      have hmu : wr.iterPos w.heap.size = pos := by simp [World.iterPos, hk]
      generalize wr.iterAt w.heap.size s (pos + (Utf8.decode s pos).2) = W1 at hnext hk1 hnx1
      generalize (Utf8.decode s pos).1 = r at hnext hst
      generalize (Utf8.decode s pos).2 = n at hadv hst hk1
      have hmu1 : W1.iterPos w.heap.size = pos + n := by simp [World.iterPos, hk1]
      have Hst := Lib.hid hst; clear hst
      have Hk1 := Lib.hid hk1; clear hk1
      have Hmu := Lib.hid hmu; clear hmu
      have Hmu1 := Lib.hid hmu1; clear hmu1
      clear hk
      have hel := encode_size r
      obtain ⟨e, he⟩ : ∃ e, Utf8.encode r = e := ⟨_, rfl⟩
      have hconv : ∀ w, (convert 21 9 (.int .i32 r)).run Tryz.prog w = .ok (.string e) w := fun w => by rw [← he]; simp [go_sem]
      rw [he] at hel
      have He := Lib.hid he; clear he
      obtain ⟨a1, ha1⟩ : ∃ a, acc ++ ⟨#[63]⟩ = a := ⟨_, rfl⟩
      obtain ⟨a2, ha2⟩ : ∃ a, acc ++ e = a := ⟨_, rfl⟩
      have hadd1 : ∀ w, (Op.stringOp .add acc ⟨#[63]⟩).run Tryz.prog w = .ok (.string a1) w := fun w => by rw [← ha1]; exact run_string_add_sum w _ _ (by show acc.size + 1 ≤ _; omega)
      have hadd2 : ∀ w, (Op.stringOp .add acc e).run Tryz.prog w = .ok (.string a2) w := fun w => by rw [← ha2]; exact run_string_add_sum w _ _ (by omega)
      have hs1 : a1.size ≤ 4 * (pos + n) := by rw [← ha1, ByteArray.size_append]; show acc.size + 1 ≤ _; omega
      have hs2 : a2.size ≤ 4 * (pos + n) := by rw [← ha2, ByteArray.size_append]; omega
      have HA := Lib.hid (And.intro ha1 ha2); clear ha1 ha2
      rcases mk4 e.toList with hm | ⟨h1, h2, h3⟩
      · have HR := Lib.hid (esc_round ((escR_mk (encL_of He.out) hm).trans (Lib.toList_data ⟨#[63]⟩).symm) Hst.out.1 hacc.out.1 HA.out.1)
        rcases hm with hm | hm | hm
        all_goals
          go_wp2
          go_roundw
          case rel => exact ⟨pos + n, a1, rest', rfl, hs1, ⟨HR.out, Hst.out.2⟩, hadv.2, Hk1.out, hnx1⟩
          case measure => rw [Hmu1.out, Hmu.out]; omega
      · have HR := Lib.hid (esc_round (escR_plain (encL_of He.out) h1 h2 h3) Hst.out.1 hacc.out.1 HA.out.2)
        go_wp2
        go_roundw
        case rel => exact ⟨pos + n, a2, rest', rfl, hs2, ⟨HR.out, Hst.out.2⟩, hadv.2, Hk1.out, hnx1⟩
        case measure => rw [Hmu1.out, Hmu.out]; omega
    · have hnext : ∀ ty, (Instr.next (.pointer (some ⟨w.heap.size, 0, none⟩)) true ty).run Tryz.prog wr = _ := fun ty => Lib.run_next_end_at wr w.heap.size s pos ty hk hp
      have hfin : acc.data.toList = escB s.data.toList := by
        have h := hacc.out.1
        rw [hacc.out.2.stop hp] at h
        simpa [escL] using h
      have Hfin := Lib.hid hfin; clear hfin
      clear hk
      go_wp2
      go_ret
      exact ⟨⟨acc, rfl, Hfin.out, by omega⟩, hnx⟩

theorem unsafe_nil (o s : ByteArray) (w : World) (_h : s.toList.isEmpty = true) : Calls Tryz.prog 29 #[.string o, .string s] w fun e w' => e = .returned (.string o) ∧ w = w' := by
  go_enter Tryz.func29, Tryz.ntmps29
  go_wp2
  go_ret
  exact ⟨rfl, rfl⟩

/-- Behind the text's head: the loop. -/
def UnsQ (goal : List UInt8) (n : Nat) (w : World) (e : Ending) (w' : World) : Prop := (∃ r : ByteArray, e = .returned (.string r) ∧ Hid (r.data.toList = goal ∧ r.size ≤ n)) ∧ Below w.heap.size w w'
def E3 : ByteArray := ⟨#[226, 128, 186]⟩
def S3 : ByteArray := ⟨#[226, 128, 185]⟩
theorem uns_round {r : Nat} {rest rest' : List Nat} {a x : List UInt8} {ln l : Bool} {goal : List UInt8} (hst : rest = r :: rest') (h : unsFin (rest.foldl unsStep (a, ln)) = goal) (hx : unsStep (a, ln) r = (x, l)) :
    unsFin (rest'.foldl unsStep (x, l)) = goal := by
  rw [← h, hst, List.foldl_cons, hx]
theorem ext_data (o : ByteArray) (n : Nat) (_h : n ≤ o.size) : (o.extract 0 n).data.toList = o.data.toList.take n := by rw [Lib.extract_data]; simp

set_option maxHeartbeats 2000000 in
theorem unsafe_any (o s : ByteArray) (w : World) (h : s.toList.isEmpty = false) (ho : o.size ≤ 50000) (hs : s.size ≤ 1000) :
    Calls Tryz.prog 29 #[.string o, .string s] w (UnsQ (unsafeL o.data.toList s.data.toList) (o.size + 28 * s.size + 6) w) := by
  have hlen : o.data.toList.length = o.size := (Lib.size_eq o).symm
  have hgoal : unsafeL o.data.toList s.data.toList = unsFin ((runesL (escB s.data.toList)).foldl unsStep (unsOpen o.data.toList, false)) := by
    unfold unsafeL
    rw [if_neg (by rw [Lib.toList_data] at h; intro hn; rw [hn] at h; simp at h)]
  generalize hg : unsafeL o.data.toList s.data.toList = goal at hgoal ⊢
  have HG := Lib.hid hgoal; clear hgoal hg
  have HL := Lib.hid hlen; clear hlen
  have hends : ∃ b, Lib.hasSuffix o.data.toList mkE = b := ⟨_, rfl⟩
  obtain ⟨b, hb⟩ := hends
  obtain ⟨o2, ho2, Hq, hrun⟩ : ∃ o2 : ByteArray, o2.size ≤ o.size + 3 ∧ Hid (o2.data.toList = unsOpen o.data.toList) ∧ Hid ((b = true → 3 ≤ o.size ∧ o.extract 0 (o.size - 3) = o2) ∧ (b = false → ∀ w, (Op.stringOp .add o S3).run Tryz.prog w = .ok (.string o2) w)) := by
    cases b with
    | true =>
      have h3 := suffix_len hb
      rw [HL.out] at h3
      exact ⟨o.extract 0 (o.size - 3), by simp; omega, by show _ = _; rw [ext_data _ _ (by omega), unsOpen, if_pos hb, HL.out], ⟨fun _ => ⟨h3, rfl⟩, fun h => by cases h⟩⟩
    | false =>
      obtain ⟨y, h1, h2, h3⟩ := add_ex Tryz.prog o S3 (by show o.size + 3 ≤ _; omega)
      exact ⟨y, h2, by show _ = _; rw [h3.out, unsOpen, if_neg (by simp [hb])]; rfl, ⟨fun h => (by cases h), fun _ => h1⟩⟩
  have Hb := Lib.hid hb; clear hb
  cases b
  · have hadd0 := hrun.out.2 rfl
    have hadd0' : ∀ w, (Op.stringOp .add o ⟨#[226, 128, 185]⟩).run Tryz.prog w = .ok (.string o2) w := hadd0
    clear hadd0 hrun
    go_enter Tryz.func29, Tryz.ntmps29
    go_wp2_with fail
    refine (ends_any _ _ _ (by omega) (by decide)).mono ?_
    rintro e w' ⟨⟨b, rfl, hbb⟩, rfl⟩
    obtain rfl : b = false := hbb.out.trans Hb.out
    clear hbb
    go_wp2_with fail
    refine (escaped_any s w (by omega)).mono ?_
    rintro e w1 ⟨⟨s2, rfl, He2⟩, hb1⟩
    clear hadd0'
    go_wp2_with fail
    have Hk0 := World.iter_heap w1 s2 0
    have hb0 : Below w.heap.size w (w1.iter s2 0) := hb1.alloc hb1.size _
    have hwz := hb1.size
    go_loopw [0, 5] (fun ov lv wr => ∃ (pos : Nat) (acc : ByteArray) (ln : Bool) (rest : List Nat), ov = .string acc ∧ lv = .bool ln ∧ acc.size ≤ o.size + 3 + 7 * pos ∧ Hid (unsFin (rest.foldl unsStep (acc.data.toList, ln)) = goal ∧ RunesAt s2 pos rest) ∧ pos ≤ s2.size ∧ wr.heap[w1.heap.size]? = some (.stringIter s2 pos) ∧ Below w.heap.size w wr)
      (fun _ _ wr => s2.size - wr.iterPos w1.heap.size)
    case atStart => exact ⟨0, _, false, runes s2, rfl, rfl, (by omega), ⟨by rw [HG.out, Hq.out, runes_of He2.out.1], RunesAt.start s2⟩, Nat.zero_le _, Hk0, hb0⟩
    case round =>
      obtain ⟨pos, acc, ln, rest, rfl, rfl, hasz, hacc, hps, hk, hnx⟩ := hrel
      clear Hk0 hb0
      have hs2 : s2.size ≤ 4 * s.size := He2.out.2
      by_cases hp : pos < s2.size
      ·
        obtain ⟨rest', hst⟩ := hacc.out.2.step hp
        have hadv := decode_adv s2 pos hp
        have hnext : ∀ ty, (Instr.next (.pointer (some ⟨w1.heap.size, 0, none⟩)) true ty).run Tryz.prog wr = _ := fun ty => Lib.run_next_any_at wr (w1.heap.size) s2 pos ty hk hp
        have hk1 := Lib.iterAt_heap wr (w1.heap.size) s2 pos (pos + (Utf8.decode s2 pos).2) hk
        have hnx1 : Below w.heap.size w (wr.iterAt (w1.heap.size) s2 (pos + (Utf8.decode s2 pos).2)) := Lib.below_iterAt hnx (by omega) s2 _
        have hmu : wr.iterPos (w1.heap.size) = pos := by simp [World.iterPos, hk]
        generalize wr.iterAt (w1.heap.size) s2 (pos + (Utf8.decode s2 pos).2) = W1 at hnext hk1 hnx1
        generalize (Utf8.decode s2 pos).1 = r at hnext hst
        generalize (Utf8.decode s2 pos).2 = n at hadv hst hk1
        have hmu1 : W1.iterPos (w1.heap.size) = pos + n := by simp [World.iterPos, hk1]
        have Hst := Lib.hid hst; clear hst
        have Hk1 := Lib.hid hk1; clear hk1
        have Hmu := Lib.hid hmu; clear hmu
        have Hmu1 := Lib.hid hmu1; clear hmu1
        clear hk
        have hel := encode_size r
        obtain ⟨e, he⟩ : ∃ e, Utf8.encode r = e := ⟨_, rfl⟩
        have hconv : ∀ w, (convert 21 9 (.int .i32 r)).run Tryz.prog w = .ok (.string e) w := fun w => by rw [← he]; simp [go_sem]
        rw [he] at hel
        have He := Lib.hid (encL_of he); clear he
        by_cases hr10 : r = 10
        · subst hr10
          have hconv' : ∀ w, (convert 21 9 (.int .i32 10)).run Tryz.prog w = .ok (.string e) w := hconv
          have hnext' : ∀ ty, (Instr.next (.pointer (some ⟨w1.heap.size, 0, none⟩)) true ty).run Tryz.prog wr = .ok (.tuple #[.bool true, .int .i64 pos, .int .i32 10]) W1 := hnext
          clear hconv hnext
          cases ln
          · obtain ⟨b, hb⟩ : ∃ b, Lib.hasSuffix acc.data.toList mkS = b := ⟨_, rfl⟩
            have hlen : acc.data.toList.length = acc.size := (Lib.size_eq acc).symm
            cases b
            · obtain ⟨y, hadd, hysz, Hy⟩ := add_ex Tryz.prog acc E3 (by show acc.size + 3 ≤ _; omega)
              have hadd' : ∀ w, (Op.stringOp .add acc ⟨#[226, 128, 186]⟩).run Tryz.prog w = .ok (.string y) w := hadd
              have hysz' : y.size ≤ acc.size + 3 := hysz
              obtain ⟨z, hadz, hzsz, Hz⟩ := add_ex Tryz.prog y e (by omega)
              have HR := Lib.hid (uns_round (Hst.out.1) hacc.out.1 (x := z.data.toList) (l := true) (by rw [Hz.out, Hy.out, unsStep, He.out, Lib.toList_data]; simp [hb, E3, mkE]))
              have Hb := Lib.hid hb; clear hb hadd hlen
              go_wp2_with fail
              refine (ends_any _ _ _ (by omega) (by decide)).mono ?_
              rintro e w' ⟨⟨b, rfl, hbb⟩, rfl⟩
              obtain rfl : b = false := hbb.out.trans Hb.out
              clear hbb
              go_wp2
              go_roundw
              case rel => exact ⟨pos + n, z, true, rest', rfl, rfl, by omega, ⟨HR.out, Hst.out.2⟩, hadv.2, Hk1.out, hnx1⟩
              case measure => rw [Hmu1.out, Hmu.out]; omega
            · have h3 := suffix_len hb
              rw [hlen] at h3
              have h3' : 3 ≤ acc.size := h3
              obtain ⟨y, hy⟩ : ∃ y, acc.extract 0 (acc.size - 3) = y := ⟨_, rfl⟩
              have hyd : y.data.toList = acc.data.toList.take (acc.data.toList.length - 3) := by rw [← hy, ext_data _ _ (by omega), hlen]
              have hysz : y.size ≤ acc.size := by rw [← hy]; simp
              obtain ⟨z, hadz, hzsz, Hz⟩ := add_ex Tryz.prog y e (by omega)
              have HR := Lib.hid (uns_round (Hst.out.1) hacc.out.1 (x := z.data.toList) (l := true) (by rw [Hz.out, hyd, unsStep, He.out, Lib.toList_data]; simp [hb]))
              have Hb := Lib.hid hb; clear hb h3 hlen hyd
              go_wp2_with fail
              refine (ends_any _ _ _ (by omega) (by decide)).mono ?_
              rintro e w' ⟨⟨b, rfl, hbb⟩, rfl⟩
              obtain rfl : b = true := hbb.out.trans Hb.out
              clear hbb
              go_wp2
              go_roundw
              case rel => exact ⟨pos + n, z, true, rest', rfl, rfl, by omega, ⟨HR.out, Hst.out.2⟩, hadv.2, Hk1.out, hnx1⟩
              case measure => rw [Hmu1.out, Hmu.out]; omega
          · obtain ⟨z, hadz, hzsz, Hz⟩ := add_ex Tryz.prog acc e (by omega)
            have HR := Lib.hid (uns_round (Hst.out.1) hacc.out.1 (x := z.data.toList) (l := true) (by rw [Hz.out, unsStep, He.out, Lib.toList_data]; simp))
            go_wp2
            go_roundw
            case rel => exact ⟨pos + n, z, true, rest', rfl, rfl, by omega, ⟨HR.out, Hst.out.2⟩, hadv.2, Hk1.out, hnx1⟩
            case measure => rw [Hmu1.out, Hmu.out]; omega
        · have hrb : ((r : Int) == 10) = false := by simp; omega
          cases ln
          · obtain ⟨z, hadz, hzsz, Hz⟩ := add_ex Tryz.prog acc e (by omega)
            have HR := Lib.hid (uns_round (Hst.out.1) hacc.out.1 (x := z.data.toList) (l := false) (by rw [Hz.out, unsStep, He.out, Lib.toList_data]; simp [hr10]))
            go_wp2
            go_roundw
            case rel => exact ⟨pos + n, z, false, rest', rfl, rfl, by omega, ⟨HR.out, Hst.out.2⟩, hadv.2, Hk1.out, hnx1⟩
            case measure => rw [Hmu1.out, Hmu.out]; omega
          · obtain ⟨y, hadd, hysz, Hy⟩ := add_ex Tryz.prog acc S3 (by show acc.size + 3 ≤ _; omega)
            have hadd' : ∀ w, (Op.stringOp .add acc ⟨#[226, 128, 185]⟩).run Tryz.prog w = .ok (.string y) w := hadd
            have hysz' : y.size ≤ acc.size + 3 := hysz
            obtain ⟨z, hadz, hzsz, Hz⟩ := add_ex Tryz.prog y e (by omega)
            have HR := Lib.hid (uns_round (Hst.out.1) hacc.out.1 (x := z.data.toList) (l := false) (by rw [Hz.out, Hy.out, unsStep, He.out, Lib.toList_data]; simp [hr10, S3, mkS]))
            clear hadd
            go_wp2
            go_roundw
            case rel => exact ⟨pos + n, z, false, rest', rfl, rfl, by omega, ⟨HR.out, Hst.out.2⟩, hadv.2, Hk1.out, hnx1⟩
            case measure => rw [Hmu1.out, Hmu.out]; omega
      · have hnext : ∀ ty, (Instr.next (.pointer (some ⟨w1.heap.size, 0, none⟩)) true ty).run Tryz.prog wr = _ := fun ty => Lib.run_next_end_at wr w1.heap.size s2 pos ty hk hp
        have hfin : unsFin (acc.data.toList, ln) = goal := by
          have h := hacc.out.1
          rw [hacc.out.2.stop hp] at h
          simpa using h
        have Hfin := Lib.hid hfin; clear hfin
        clear hk
        obtain ⟨y, hadd, hysz, Hy⟩ := add_ex Tryz.prog acc E3 (by show acc.size + 3 ≤ _; omega)
        have hadd' : ∀ w, (Op.stringOp .add acc ⟨#[226, 128, 186]⟩).run Tryz.prog w = .ok (.string y) w := hadd
        clear hadd
        cases ln
        · go_wp2
          go_ret
          exact ⟨⟨y, rfl, by rw [Hy.out, ← Hfin.out]; rfl, by have : E3.size = 3 := rfl; omega⟩, hnx⟩
        · go_wp2
          go_ret
          exact ⟨⟨acc, rfl, by rw [← Hfin.out]; rfl, by omega⟩, hnx⟩
  · obtain ⟨h3, hx⟩ := hrun.out.1 rfl
    clear hrun
    subst hx
    go_enter Tryz.func29, Tryz.ntmps29
    go_wp2_with fail
    refine (ends_any _ _ _ (by omega) (by decide)).mono ?_
    rintro e w' ⟨⟨b, rfl, hbb⟩, rfl⟩
    obtain rfl : b = true := hbb.out.trans Hb.out
    clear hbb
    go_wp2_with fail
    refine (escaped_any s w (by omega)).mono ?_
    rintro e w1 ⟨⟨s2, rfl, He2⟩, hb1⟩
    clear h3
    go_wp2_with fail
    have Hk0 := World.iter_heap w1 s2 0
    have hb0 : Below w.heap.size w (w1.iter s2 0) := hb1.alloc hb1.size _
    have hwz := hb1.size
    go_loopw [0, 5] (fun ov lv wr => ∃ (pos : Nat) (acc : ByteArray) (ln : Bool) (rest : List Nat), ov = .string acc ∧ lv = .bool ln ∧ acc.size ≤ o.size + 3 + 7 * pos ∧ Hid (unsFin (rest.foldl unsStep (acc.data.toList, ln)) = goal ∧ RunesAt s2 pos rest) ∧ pos ≤ s2.size ∧ wr.heap[w1.heap.size]? = some (.stringIter s2 pos) ∧ Below w.heap.size w wr)
      (fun _ _ wr => s2.size - wr.iterPos w1.heap.size)
    case atStart => exact ⟨0, _, false, runes s2, rfl, rfl, (by omega), ⟨by rw [HG.out, Hq.out, runes_of He2.out.1], RunesAt.start s2⟩, Nat.zero_le _, Hk0, hb0⟩
    case round =>
      obtain ⟨pos, acc, ln, rest, rfl, rfl, hasz, hacc, hps, hk, hnx⟩ := hrel
      clear Hk0 hb0
      have hs2 : s2.size ≤ 4 * s.size := He2.out.2
      by_cases hp : pos < s2.size
      ·
        obtain ⟨rest', hst⟩ := hacc.out.2.step hp
        have hadv := decode_adv s2 pos hp
        have hnext : ∀ ty, (Instr.next (.pointer (some ⟨w1.heap.size, 0, none⟩)) true ty).run Tryz.prog wr = _ := fun ty => Lib.run_next_any_at wr (w1.heap.size) s2 pos ty hk hp
        have hk1 := Lib.iterAt_heap wr (w1.heap.size) s2 pos (pos + (Utf8.decode s2 pos).2) hk
        have hnx1 : Below w.heap.size w (wr.iterAt (w1.heap.size) s2 (pos + (Utf8.decode s2 pos).2)) := Lib.below_iterAt hnx (by omega) s2 _
        have hmu : wr.iterPos (w1.heap.size) = pos := by simp [World.iterPos, hk]
        generalize wr.iterAt (w1.heap.size) s2 (pos + (Utf8.decode s2 pos).2) = W1 at hnext hk1 hnx1
        generalize (Utf8.decode s2 pos).1 = r at hnext hst
        generalize (Utf8.decode s2 pos).2 = n at hadv hst hk1
        have hmu1 : W1.iterPos (w1.heap.size) = pos + n := by simp [World.iterPos, hk1]
        have Hst := Lib.hid hst; clear hst
        have Hk1 := Lib.hid hk1; clear hk1
        have Hmu := Lib.hid hmu; clear hmu
        have Hmu1 := Lib.hid hmu1; clear hmu1
        clear hk
        have hel := encode_size r
        obtain ⟨e, he⟩ : ∃ e, Utf8.encode r = e := ⟨_, rfl⟩
        have hconv : ∀ w, (convert 21 9 (.int .i32 r)).run Tryz.prog w = .ok (.string e) w := fun w => by rw [← he]; simp [go_sem]
        rw [he] at hel
        have He := Lib.hid (encL_of he); clear he
        by_cases hr10 : r = 10
        · subst hr10
          have hconv' : ∀ w, (convert 21 9 (.int .i32 10)).run Tryz.prog w = .ok (.string e) w := hconv
          have hnext' : ∀ ty, (Instr.next (.pointer (some ⟨w1.heap.size, 0, none⟩)) true ty).run Tryz.prog wr = .ok (.tuple #[.bool true, .int .i64 pos, .int .i32 10]) W1 := hnext
          clear hconv hnext
          cases ln
          · obtain ⟨b, hb⟩ : ∃ b, Lib.hasSuffix acc.data.toList mkS = b := ⟨_, rfl⟩
            have hlen : acc.data.toList.length = acc.size := (Lib.size_eq acc).symm
            cases b
            · obtain ⟨y, hadd, hysz, Hy⟩ := add_ex Tryz.prog acc E3 (by show acc.size + 3 ≤ _; omega)
              have hadd' : ∀ w, (Op.stringOp .add acc ⟨#[226, 128, 186]⟩).run Tryz.prog w = .ok (.string y) w := hadd
              have hysz' : y.size ≤ acc.size + 3 := hysz
              obtain ⟨z, hadz, hzsz, Hz⟩ := add_ex Tryz.prog y e (by omega)
              have HR := Lib.hid (uns_round (Hst.out.1) hacc.out.1 (x := z.data.toList) (l := true) (by rw [Hz.out, Hy.out, unsStep, He.out, Lib.toList_data]; simp [hb, E3, mkE]))
              have Hb := Lib.hid hb; clear hb hadd hlen
              go_wp2_with fail
              refine (ends_any _ _ _ (by omega) (by decide)).mono ?_
              rintro e w' ⟨⟨b, rfl, hbb⟩, rfl⟩
              obtain rfl : b = false := hbb.out.trans Hb.out
              clear hbb
              go_wp2
              go_roundw
              case rel => exact ⟨pos + n, z, true, rest', rfl, rfl, by omega, ⟨HR.out, Hst.out.2⟩, hadv.2, Hk1.out, hnx1⟩
              case measure => rw [Hmu1.out, Hmu.out]; omega
            · have h3 := suffix_len hb
              rw [hlen] at h3
              have h3' : 3 ≤ acc.size := h3
              obtain ⟨y, hy⟩ : ∃ y, acc.extract 0 (acc.size - 3) = y := ⟨_, rfl⟩
              have hyd : y.data.toList = acc.data.toList.take (acc.data.toList.length - 3) := by rw [← hy, ext_data _ _ (by omega), hlen]
              have hysz : y.size ≤ acc.size := by rw [← hy]; simp
              obtain ⟨z, hadz, hzsz, Hz⟩ := add_ex Tryz.prog y e (by omega)
              have HR := Lib.hid (uns_round (Hst.out.1) hacc.out.1 (x := z.data.toList) (l := true) (by rw [Hz.out, hyd, unsStep, He.out, Lib.toList_data]; simp [hb]))
              have Hb := Lib.hid hb; clear hb h3 hlen hyd
              go_wp2_with fail
              refine (ends_any _ _ _ (by omega) (by decide)).mono ?_
              rintro e w' ⟨⟨b, rfl, hbb⟩, rfl⟩
              obtain rfl : b = true := hbb.out.trans Hb.out
              clear hbb
              go_wp2
              go_roundw
              case rel => exact ⟨pos + n, z, true, rest', rfl, rfl, by omega, ⟨HR.out, Hst.out.2⟩, hadv.2, Hk1.out, hnx1⟩
              case measure => rw [Hmu1.out, Hmu.out]; omega
          · obtain ⟨z, hadz, hzsz, Hz⟩ := add_ex Tryz.prog acc e (by omega)
            have HR := Lib.hid (uns_round (Hst.out.1) hacc.out.1 (x := z.data.toList) (l := true) (by rw [Hz.out, unsStep, He.out, Lib.toList_data]; simp))
            go_wp2
            go_roundw
            case rel => exact ⟨pos + n, z, true, rest', rfl, rfl, by omega, ⟨HR.out, Hst.out.2⟩, hadv.2, Hk1.out, hnx1⟩
            case measure => rw [Hmu1.out, Hmu.out]; omega
        · have hrb : ((r : Int) == 10) = false := by simp; omega
          cases ln
          · obtain ⟨z, hadz, hzsz, Hz⟩ := add_ex Tryz.prog acc e (by omega)
            have HR := Lib.hid (uns_round (Hst.out.1) hacc.out.1 (x := z.data.toList) (l := false) (by rw [Hz.out, unsStep, He.out, Lib.toList_data]; simp [hr10]))
            go_wp2
            go_roundw
            case rel => exact ⟨pos + n, z, false, rest', rfl, rfl, by omega, ⟨HR.out, Hst.out.2⟩, hadv.2, Hk1.out, hnx1⟩
            case measure => rw [Hmu1.out, Hmu.out]; omega
          · obtain ⟨y, hadd, hysz, Hy⟩ := add_ex Tryz.prog acc S3 (by show acc.size + 3 ≤ _; omega)
            have hadd' : ∀ w, (Op.stringOp .add acc ⟨#[226, 128, 185]⟩).run Tryz.prog w = .ok (.string y) w := hadd
            have hysz' : y.size ≤ acc.size + 3 := hysz
            obtain ⟨z, hadz, hzsz, Hz⟩ := add_ex Tryz.prog y e (by omega)
            have HR := Lib.hid (uns_round (Hst.out.1) hacc.out.1 (x := z.data.toList) (l := false) (by rw [Hz.out, Hy.out, unsStep, He.out, Lib.toList_data]; simp [hr10, S3, mkS]))
            clear hadd
            go_wp2
            go_roundw
            case rel => exact ⟨pos + n, z, false, rest', rfl, rfl, by omega, ⟨HR.out, Hst.out.2⟩, hadv.2, Hk1.out, hnx1⟩
            case measure => rw [Hmu1.out, Hmu.out]; omega
      · have hnext : ∀ ty, (Instr.next (.pointer (some ⟨w1.heap.size, 0, none⟩)) true ty).run Tryz.prog wr = _ := fun ty => Lib.run_next_end_at wr w1.heap.size s2 pos ty hk hp
        have hfin : unsFin (acc.data.toList, ln) = goal := by
          have h := hacc.out.1
          rw [hacc.out.2.stop hp] at h
          simpa using h
        have Hfin := Lib.hid hfin; clear hfin
        clear hk
        obtain ⟨y, hadd, hysz, Hy⟩ := add_ex Tryz.prog acc E3 (by show acc.size + 3 ≤ _; omega)
        have hadd' : ∀ w, (Op.stringOp .add acc ⟨#[226, 128, 186]⟩).run Tryz.prog w = .ok (.string y) w := hadd
        clear hadd
        cases ln
        · go_wp2
          go_ret
          exact ⟨⟨y, rfl, by rw [Hy.out, ← Hfin.out]; rfl, by have : E3.size = 3 := rfl; omega⟩, hnx⟩
        · go_wp2
          go_ret
          exact ⟨⟨acc, rfl, by rw [← Hfin.out]; rfl, by omega⟩, hnx⟩
end Go.Proofs.YtlmcglaajmjanaaGreatDoor
