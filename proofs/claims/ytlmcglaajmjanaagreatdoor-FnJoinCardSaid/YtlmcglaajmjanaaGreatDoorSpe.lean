/- Walks of the reference's Redact and Strip. -/
import Derived.Test.YtlmcglaajmjanaaGreatDoorSpd
namespace Go.Proofs.YtlmcglaajmjanaaGreatDoor
open Go.RowKit
attribute [local irreducible] Utf8.encode Utf8.decode
/-- What is left of a text's runes, redacted. -/
def redN : Bool → List Nat → List Nat
  | _, [] => []
  | op, r :: rs => if r = 8249 then [8249, 215, 8250] ++ redN true rs else if r = 8250 then redN false rs else if op then redN true rs else r :: redN false rs
def stripN (rs : List Nat) : List Nat := rs.filter fun r => !isM r
def StrQ (l : List UInt8) (n : Nat) (w : World) (e : Ending) (w' : World) : Prop := (∃ r : ByteArray, e = .returned (.string r) ∧ Hid (r.data.toList = l ∧ r.size ≤ n)) ∧ Below w.heap.size w w'
theorem sum_step {r : Nat} {rest rest' : List Nat} {a b x : List UInt8} {g : List UInt8} {f f' : List Nat → List Nat} (hst : rest = r :: rest') (h : a ++ encs (f rest) = g) (hb : b = a ++ x) (hx : encs (f (r :: rest')) = x ++ encs (f' rest')) : b ++ encs (f' rest') = g := by
  rw [← h, hst, hx, hb, List.append_assoc]
def X8 : ByteArray := ⟨#[226, 128, 185, 195, 151, 226, 128, 186]⟩
set_option maxHeartbeats 2000000 in
theorem specRedact_any (s : ByteArray) (w : World) (hs : s.size ≤ 100000) : Calls Tryz.prog 19 #[.string s] w (StrQ (encs (redN false (runesL s.data.toList))) (8 * s.size) w) := by
  rw [runesL_data]
  generalize hg : encs (redN false (runes s)) = g
  have HG := Lib.hid hg; clear hg
  have hI0 := World.iter_heap w s 0
  have hb0 : Below w.heap.size w (w.iter s 0) := (Below.refl _ w).alloc (Nat.le_refl _) _
  go_enter Tryz.func19, Tryz.ntmps19
  go_wp2
  go_loopw [3, 4] (fun a b wr => ∃ (pos : Nat) (acc : ByteArray) (op : Bool) (rest : List Nat), a = .string acc ∧ b = .bool op ∧ acc.size ≤ 8 * pos ∧ Hid (acc.data.toList ++ encs (redN op rest) = g ∧ RunesAt s pos rest ∧ Scs rest) ∧ pos ≤ s.size ∧ wr.heap[w.heap.size]? = some (.stringIter s pos) ∧ Below w.heap.size w wr)
    (fun _ _ wr => s.size - wr.iterPos w.heap.size)
  case atStart => exact ⟨0, ⟨#[]⟩, false, runes s, rfl, rfl, Nat.le_refl _, ⟨HG.out, RunesAt.start s, runes_sc s⟩, Nat.zero_le _, hI0, hb0⟩
  case round =>
    obtain ⟨pos, acc, op, rest, rfl, rfl, hasz, hacc3, hps, hk, hnx⟩ := hrel
    have hacc : Hid (acc.data.toList ++ encs (redN op rest) = g ∧ RunesAt s pos rest) := ⟨hacc3.out.1, hacc3.out.2.1⟩
    clear hI0 hb0
    by_cases hp : pos < s.size
    ·
      obtain ⟨rest', hst⟩ := hacc.out.2.step hp
      have hadv := decode_adv s pos hp
      have hnext : ∀ ty, (Instr.next (.pointer (some ⟨w.heap.size, 0, none⟩)) true ty).run Tryz.prog wr = _ := fun ty => Lib.run_next_any_at wr (w.heap.size) s pos ty hk hp
      have hk1 := Lib.iterAt_heap wr (w.heap.size) s pos (pos + (Utf8.decode s pos).2) hk
      have hnx1 : Below w.heap.size w (wr.iterAt (w.heap.size) s (pos + (Utf8.decode s pos).2)) := Lib.below_iterAt hnx (by omega) s _
      have hmu : wr.iterPos (w.heap.size) = pos := by simp [World.iterPos, hk]
      generalize wr.iterAt (w.heap.size) s (pos + (Utf8.decode s pos).2) = W1 at hnext hk1 hnx1
      generalize (Utf8.decode s pos).1 = r at hnext hst
      generalize (Utf8.decode s pos).2 = n at hadv hst hk1
      have hmu1 : W1.iterPos (w.heap.size) = pos + n := by simp [World.iterPos, hk1]
      have Hst := Lib.hid hst; clear hst
      have Hk1 := Lib.hid hk1; clear hk1
      have Hmu := Lib.hid hmu; clear hmu
      have Hmu1 := Lib.hid hmu1; clear hmu1
      clear hk
      have hel := encode_size r
      obtain ⟨e, he⟩ : ∃ e, Utf8.encode r = e := ⟨_, rfl⟩
      have hconv : ∀ w, (convert 21 9 (.int .i32 r)).run Tryz.prog w = .ok (.string e) w := fun w => by rw [← he]; simp [go_sem]
      rw [he] at hel
      have He := Lib.hid (encL_of he); clear he
      have HSC := Lib.hid (Hst.out.1 ▸ hacc3.out.2.2)
      have hsc := HSC.out.head
      by_cases hrS : r = 8249
      · have hm : e.toList = [226, 128, 185] := by rw [← He.out, hrS]; exact encS
        obtain ⟨z, hadz, hzsz, Hz⟩ := add_ex Tryz.prog acc X8 (by show acc.size + 8 ≤ _; omega)
        have hadz' : ∀ w, (Op.stringOp .add acc ⟨#[226, 128, 185, 195, 151, 226, 128, 186]⟩).run Tryz.prog w = .ok (.string z) w := hadz
        have hzsz' : z.size ≤ acc.size + 8 := hzsz
        have HR := Lib.hid (sum_step (f := redN op) (f' := redN true) (x := mkX) Hst.out.1 hacc.out.1 Hz.out (by rw [hrS]; simp only [redN, if_true]; rw [encs_append, encX]))
        clear hsc hrS hadz
        go_wp2
        go_roundw
        case rel => exact ⟨pos + n, z, true, rest', rfl, rfl, by omega, ⟨HR.out, Hst.out.2, HSC.out.tail⟩, hadv.2, Hk1.out, hnx1⟩
        case measure => rw [Hmu1.out, Hmu.out]; omega
      · have h1 : (e.toList == [226, 128, 185]) = false := by rw [← He.out]; exact (show [226, 128, 185] = encL 8249 from encS.symm) ▸ enc_ne hsc scS hrS
        by_cases hrE : r = 8250
        · have hm : e.toList = [226, 128, 186] := by rw [← He.out, hrE]; exact encE
          have HR := Lib.hid (sum_step (f := redN op) (f' := redN false) (x := []) (b := acc.data.toList) Hst.out.1 hacc.out.1 (by simp) (by rw [hrE]; simp [redN]))
          clear hsc hrS hrE h1
          go_wp2
          go_roundw
          case rel => exact ⟨pos + n, acc, false, rest', rfl, rfl, by omega, ⟨HR.out, Hst.out.2, HSC.out.tail⟩, hadv.2, Hk1.out, hnx1⟩
          case measure => rw [Hmu1.out, Hmu.out]; omega
        · have h2 : (e.toList == [226, 128, 186]) = false := by rw [← He.out]; exact (show [226, 128, 186] = encL 8250 from encE.symm) ▸ enc_ne hsc scE hrE
          cases op with
          | true =>
            have HR := Lib.hid (sum_step (f := redN true) (f' := redN true) (x := []) (b := acc.data.toList) Hst.out.1 hacc.out.1 (by simp) (by simp [redN, hrS, hrE]))
            clear hsc hrS hrE
            go_wp2
            go_roundw
            case rel => exact ⟨pos + n, acc, true, rest', rfl, rfl, by omega, ⟨HR.out, Hst.out.2, HSC.out.tail⟩, hadv.2, Hk1.out, hnx1⟩
            case measure => rw [Hmu1.out, Hmu.out]; omega
          | false =>
            obtain ⟨z, hadz, hzsz, Hz⟩ := add_ex Tryz.prog acc e (by omega)
            have HR := Lib.hid (sum_step (f := redN false) (f' := redN false) (x := e.data.toList) Hst.out.1 hacc.out.1 Hz.out (by simp only [redN, if_neg hrS, if_neg hrE, Bool.false_eq_true, if_false, encs_cons]; rw [He.out, Lib.toList_data]))
            clear hsc hrS hrE
            go_wp2
            go_roundw
            case rel => exact ⟨pos + n, z, false, rest', rfl, rfl, by omega, ⟨HR.out, Hst.out.2, HSC.out.tail⟩, hadv.2, Hk1.out, hnx1⟩
            case measure => rw [Hmu1.out, Hmu.out]; omega
    · have hnext : ∀ ty, (Instr.next (.pointer (some ⟨w.heap.size, 0, none⟩)) true ty).run Tryz.prog wr = _ := fun ty => Lib.run_next_end_at wr w.heap.size s pos ty hk hp
      have hfin : acc.data.toList = g := by
        have h := hacc.out.1
        rw [hacc.out.2.stop hp] at h
        simpa [redN, encs_nil] using h
      have Hfin := Lib.hid hfin; clear hfin
      clear hk
      go_wp2
      go_ret
      exact ⟨⟨acc, rfl, Hfin.out, by omega⟩, hnx⟩
set_option maxHeartbeats 2000000 in
theorem specStrip_any (s : ByteArray) (w : World) (hs : s.size ≤ 100000) : Calls Tryz.prog 26 #[.string s] w (StrQ (encs (stripN (runesL s.data.toList))) (4 * s.size) w) := by
  rw [runesL_data]
  generalize hg : encs (stripN (runes s)) = g
  have HG := Lib.hid hg; clear hg
  have hI0 := World.iter_heap w s 0
  have hb0 : Below w.heap.size w (w.iter s 0) := (Below.refl _ w).alloc (Nat.le_refl _) _
  go_enter Tryz.func26, Tryz.ntmps26
  go_wp2
  go_loopw [3] (fun a wr => ∃ (pos : Nat) (acc : ByteArray) (rest : List Nat), a = .string acc ∧ acc.size ≤ 4 * pos ∧ Hid (acc.data.toList ++ encs (stripN rest) = g ∧ RunesAt s pos rest ∧ Scs rest) ∧ pos ≤ s.size ∧ wr.heap[w.heap.size]? = some (.stringIter s pos) ∧ Below w.heap.size w wr)
    (fun _ wr => s.size - wr.iterPos w.heap.size)
  case atStart => exact ⟨0, ⟨#[]⟩, runes s, rfl, Nat.le_refl _, ⟨HG.out, RunesAt.start s, runes_sc s⟩, Nat.zero_le _, hI0, hb0⟩
  case round =>
    obtain ⟨pos, acc, rest, rfl, hasz, hacc3, hps, hk, hnx⟩ := hrel
    have hacc : Hid (acc.data.toList ++ encs (stripN rest) = g ∧ RunesAt s pos rest) := ⟨hacc3.out.1, hacc3.out.2.1⟩
    clear hI0 hb0
    by_cases hp : pos < s.size
    ·
      obtain ⟨rest', hst⟩ := hacc.out.2.step hp
      have hadv := decode_adv s pos hp
      have hnext : ∀ ty, (Instr.next (.pointer (some ⟨w.heap.size, 0, none⟩)) true ty).run Tryz.prog wr = _ := fun ty => Lib.run_next_any_at wr (w.heap.size) s pos ty hk hp
      have hk1 := Lib.iterAt_heap wr (w.heap.size) s pos (pos + (Utf8.decode s pos).2) hk
      have hnx1 : Below w.heap.size w (wr.iterAt (w.heap.size) s (pos + (Utf8.decode s pos).2)) := Lib.below_iterAt hnx (by omega) s _
      have hmu : wr.iterPos (w.heap.size) = pos := by simp [World.iterPos, hk]
      generalize wr.iterAt (w.heap.size) s (pos + (Utf8.decode s pos).2) = W1 at hnext hk1 hnx1
      generalize (Utf8.decode s pos).1 = r at hnext hst
      generalize (Utf8.decode s pos).2 = n at hadv hst hk1
      have hmu1 : W1.iterPos (w.heap.size) = pos + n := by simp [World.iterPos, hk1]
      have Hst := Lib.hid hst; clear hst
      have Hk1 := Lib.hid hk1; clear hk1
      have Hmu := Lib.hid hmu; clear hmu
      have Hmu1 := Lib.hid hmu1; clear hmu1
      clear hk
      have hel := encode_size r
      obtain ⟨e, he⟩ : ∃ e, Utf8.encode r = e := ⟨_, rfl⟩
      have hconv : ∀ w, (convert 21 9 (.int .i32 r)).run Tryz.prog w = .ok (.string e) w := fun w => by rw [← he]; simp [go_sem]
      rw [he] at hel
      have He := Lib.hid (encL_of he); clear he
      have HSC := Lib.hid (Hst.out.1 ▸ hacc3.out.2.2)
      have hsc := HSC.out.head
      by_cases hrS : r = 8249
      · have hm : e.toList = [226, 128, 185] := by rw [← He.out, hrS]; exact encS
        have HR := Lib.hid (sum_step (f := stripN) (f' := stripN) (x := []) (b := acc.data.toList) Hst.out.1 hacc.out.1 (by simp) (by rw [hrS]; simp [stripN, isM]))
        clear hsc hrS
        go_wp2
        go_roundw
        case rel => exact ⟨pos + n, acc, rest', rfl, by omega, ⟨HR.out, Hst.out.2, HSC.out.tail⟩, hadv.2, Hk1.out, hnx1⟩
        case measure => rw [Hmu1.out, Hmu.out]; omega
      · have h1 : (e.toList == [226, 128, 185]) = false := by rw [← He.out]; exact (show [226, 128, 185] = encL 8249 from encS.symm) ▸ enc_ne hsc scS hrS
        have h1' : (e.toList != [226, 128, 185]) = true := by simp only [bne, h1, Bool.not_false]
        by_cases hrE : r = 8250
        · have hm : e.toList = [226, 128, 186] := by rw [← He.out, hrE]; exact encE
          have HR := Lib.hid (sum_step (f := stripN) (f' := stripN) (x := []) (b := acc.data.toList) Hst.out.1 hacc.out.1 (by simp) (by rw [hrE]; simp [stripN, isM]))
          clear hsc hrS hrE h1 h1'
          go_wp2
          go_roundw
          case rel => exact ⟨pos + n, acc, rest', rfl, by omega, ⟨HR.out, Hst.out.2, HSC.out.tail⟩, hadv.2, Hk1.out, hnx1⟩
          case measure => rw [Hmu1.out, Hmu.out]; omega
        · have h2 : (e.toList == [226, 128, 186]) = false := by rw [← He.out]; exact (show [226, 128, 186] = encL 8250 from encE.symm) ▸ enc_ne hsc scE hrE
          have h2' : (e.toList != [226, 128, 186]) = true := by simp only [bne, h2, Bool.not_false]
          by_cases hrH : r = 8224
          · have hm : e.toList = [226, 128, 160] := by rw [← He.out, hrH]; exact encH
            have HR := Lib.hid (sum_step (f := stripN) (f' := stripN) (x := []) (b := acc.data.toList) Hst.out.1 hacc.out.1 (by simp) (by rw [hrH]; simp [stripN, isM]))
            clear hsc hrS hrE hrH h1 h1' h2 h2'
            go_wp2
            go_roundw
            case rel => exact ⟨pos + n, acc, rest', rfl, by omega, ⟨HR.out, Hst.out.2, HSC.out.tail⟩, hadv.2, Hk1.out, hnx1⟩
            case measure => rw [Hmu1.out, Hmu.out]; omega
          · have h3 : (e.toList == [226, 128, 160]) = false := by rw [← He.out]; exact (show [226, 128, 160] = encL 8224 from encH.symm) ▸ enc_ne hsc scH hrH
            have h3' : (e.toList != [226, 128, 160]) = true := by simp only [bne, h3, Bool.not_false]
            obtain ⟨z, hadz, hzsz, Hz⟩ := add_ex Tryz.prog acc e (by omega)
            have HR := Lib.hid (sum_step (f := stripN) (f' := stripN) (x := e.data.toList) Hst.out.1 hacc.out.1 Hz.out (by simp only [stripN]; rw [List.filter_cons_of_pos (by simp [isM, hrS, hrE, hrH]), encs_cons, He.out, Lib.toList_data]))
            clear hsc hrS hrE hrH
            go_wp2
            go_roundw
            case rel => exact ⟨pos + n, z, rest', rfl, by omega, ⟨HR.out, Hst.out.2, HSC.out.tail⟩, hadv.2, Hk1.out, hnx1⟩
            case measure => rw [Hmu1.out, Hmu.out]; omega
    · have hnext : ∀ ty, (Instr.next (.pointer (some ⟨w.heap.size, 0, none⟩)) true ty).run Tryz.prog wr = _ := fun ty => Lib.run_next_end_at wr w.heap.size s pos ty hk hp
      have hfin : acc.data.toList = g := by
        have h := hacc.out.1
        rw [hacc.out.2.stop hp] at h
        simpa [stripN, encs_nil] using h
      have Hfin := Lib.hid hfin; clear hfin
      clear hk
      go_wp2
      go_ret
      exact ⟨⟨acc, rfl, Hfin.out, by omega⟩, hnx⟩
end Go.Proofs.YtlmcglaajmjanaaGreatDoor
