/- Walks of the reference's functions over texts: IsPlain, IsSafe, IsMarked, Redact, Strip, hasLine. -/
import Derived.Test.YtlmcglaajmjanaaGreatDoorSpc
import Derived.Test.YtlmcglaajmjanaaGreatDoorAut
namespace Go.Proofs.YtlmcglaajmjanaaGreatDoor
open Go.RowKit
attribute [local irreducible] Utf8.encode Utf8.decode
def plainB (l : List UInt8) : Bool := decide (l.length ≤ 80) && (runesL l).all (· != 65533)
theorem plainB_len {l : List UInt8} (h : plainB l = true) : l.length ≤ 80 := by unfold plainB at h; rw [Bool.and_eq_true, decide_eq_true_eq] at h; exact h.1
theorem plainB_encs {l : List UInt8} (h : plainB l = true) : Scs (runesL l) ∧ l = encs (runesL l) := by
  unfold plainB at h
  rw [Bool.and_eq_true] at h
  refine plain_encs fun r hr => ?_
  have := List.all_eq_true.1 h.2 r hr
  simpa using this
def safeB (l : List UInt8) : Bool := plainB l && (escB l == l)
def markB (l : List UInt8) : Bool := plainB l && (mkS_ (runesL l) == 0)
/-- What a walk over a text's runes tells: a Bool. -/
def BoolQ (b : Bool) (w : World) (e : Ending) (w' : World) : Prop := e = .returned (.bool b) ∧ Below w.heap.size w w'
theorem all_step {rest rest' : List Nat} {r : Nat} {g : Bool} (hst : rest = r :: rest') (h : rest.all (· != 65533) = g) : (r = 65533 → g = false) ∧ (r ≠ 65533 → rest'.all (· != 65533) = g) := by
  subst hst
  rw [← h]
  refine ⟨fun h => by simp [h], fun h => by simp [h]⟩
set_option maxHeartbeats 1000000 in
theorem isPlain_any (s : ByteArray) (w : World) (hs : s.size ≤ 9223372036854775807) : Calls Tryz.prog 27 #[.string s] w (BoolQ (plainB s.data.toList) w) := by
  have hlen : s.data.toList.length = s.size := (Lib.size_eq s).symm
  by_cases h80 : s.size ≤ 80
  · have hg : plainB s.data.toList = (runes s).all (· != 65533) := by unfold plainB; rw [hlen, decide_eq_true h80, Bool.true_and, runesL_data]
    generalize plainB s.data.toList = g at hg ⊢
    have HG := Lib.hid hg; clear hg hlen
    have hI0 := World.iter_heap w s 0
    have hb0 : Below w.heap.size w (w.iter s 0) := (Below.refl _ w).alloc (Nat.le_refl _) _
    go_enter Tryz.func27, Tryz.ntmps27
    go_wp2
    go_loopw [4] (fun _ wr => ∃ (pos : Nat) (rest : List Nat), Hid (rest.all (· != 65533) = g ∧ RunesAt s pos rest) ∧ pos ≤ s.size ∧ wr.heap[w.heap.size]? = some (.stringIter s pos) ∧ Below w.heap.size w wr)
      (fun _ wr => s.size - wr.iterPos w.heap.size)
    case atStart => exact ⟨0, runes s, ⟨HG.out.symm, RunesAt.start s⟩, Nat.zero_le _, hI0, hb0⟩
    case round =>
      obtain ⟨pos, rest, hacc, hps, hk, hnx⟩ := hrel
      clear hI0 hb0
      by_cases hp : pos < s.size
      ·
        obtain ⟨rest', hst⟩ := hacc.out.2.step hp
        have hadv := decode_adv s pos hp
        have hnext : ∀ ty, (Instr.next (.pointer (some ⟨w.heap.size, 0, none⟩)) true ty).run Tryz.prog wr = _ := fun ty => Lib.run_next_any_at wr (w.heap.size) s pos ty hk hp
        have hk1 := Lib.iterAt_heap wr (w.heap.size) s pos (pos + (Utf8.decode s pos).2) hk
        have hnx1 : Below w.heap.size w (wr.iterAt (w.heap.size) s (pos + (Utf8.decode s pos).2)) := Lib.below_iterAt hnx (by omega) s _
        have hmu : wr.iterPos (w.heap.size) = pos := by simp [World.iterPos, hk]
        generalize wr.iterAt (w.heap.size) s (pos + (Utf8.decode s pos).2) = W1 at hnext hk1 hnx1
        generalize (Utf8.decode s pos).1 = r at hnext hst
        generalize (Utf8.decode s pos).2 = n at hadv hst hk1
        have hmu1 : W1.iterPos (w.heap.size) = pos + n := by simp [World.iterPos, hk1]
        have Hst := Lib.hid hst; clear hst
        have Hk1 := Lib.hid hk1; clear hk1
        have Hmu := Lib.hid hmu; clear hmu
        have Hmu1 := Lib.hid hmu1; clear hmu1
        clear hk
        have HA := Lib.hid (all_step Hst.out.1 hacc.out.1)
        by_cases hr : (r : Int) = 65533
        · have hg : g = false := HA.out.1 (by omega)
          subst hg
          go_wp2
          go_ret
          exact ⟨rfl, hnx1⟩
        · have hrb : ((r : Int) == 65533) = false := beq_eq_false_iff_ne.2 hr
          have hr2 : r ≠ 65533 := by omega
          have HR := Lib.hid (HA.out.2 hr2)
          clear hr hr2
          go_wp2
          go_roundw
          case rel => exact ⟨pos + n, rest', ⟨HR.out, Hst.out.2⟩, hadv.2, Hk1.out, hnx1⟩
          case measure => rw [Hmu1.out, Hmu.out]; omega
      · have hnext : ∀ ty, (Instr.next (.pointer (some ⟨w.heap.size, 0, none⟩)) true ty).run Tryz.prog wr = _ := fun ty => Lib.run_next_end_at wr w.heap.size s pos ty hk hp
        have hfin : g = true := by
          have h := hacc.out.1
          rw [hacc.out.2.stop hp] at h
          exact h.symm
        subst hfin
        clear hk
        go_wp2
        go_ret
        exact ⟨rfl, hnx⟩
  · have hg : plainB s.data.toList = false := by unfold plainB; rw [hlen, decide_eq_false h80, Bool.false_and]
    rw [hg]
    clear hg hlen
    go_enter Tryz.func27, Tryz.ntmps27
    go_wp2
    go_ret
    exact ⟨rfl, Below.refl _ _⟩
theorem decodeL_any_sc (l : List UInt8) : Sc (Lib.decodeL l).1 := by
  by_cases h : (Lib.decodeL l).1 = 65533
  · rw [h]; unfold Sc; omega
  · exact decodeL_sc l h
theorem runesAt_sc (s : ByteArray) : ∀ (n pos : Nat) (rest : List Nat), s.size - pos ≤ n → RunesAt s pos rest → Scs rest := by
  intro n
  induction n with
  | zero =>
    intro pos rest hn hr
    have := hr.stop (by omega)
    subst this
    exact Scs.nil
  | succ n ih =>
    intro pos rest hn hr
    by_cases hp : pos < s.size
    · obtain ⟨rest', rfl, hr'⟩ := hr.step hp
      have hadv := decode_adv s pos hp
      refine Scs.cons ?_ (ih _ _ (by omega) hr')
      rw [← Lib.decodeL_drop]; exact decodeL_any_sc _
    · have := hr.stop hp
      subst this
      exact Scs.nil
theorem runes_sc (s : ByteArray) : Scs (runes s) := runesAt_sc s _ 0 _ (Nat.le_refl _) (RunesAt.start s)
theorem runesL_sc (l : List UInt8) : Scs (runesL l) := runes_sc _
theorem enc_ne {r m : Nat} (hr : Sc r) (hm : Sc m) (h : r ≠ m) : (encL r == encL m) = false := beq_eq_false_iff_ne.2 fun e => h (encL_inj hr hm e)
theorem str_of {r : ByteArray} {l : List UInt8} (h : r.data.toList = l) : r = ⟨l.toArray⟩ := by rw [← h]
def SafeQ (b : Bool) (w : World) (e : Ending) (w' : World) : Prop := e = .returned (.bool b) ∧ Below w.heap.size w w'
set_option maxHeartbeats 1000000 in
theorem isSafe_any (s : ByteArray) (w : World) (hs : s.size ≤ 9223372036854775807) : Calls Tryz.prog 42 #[.string s] w (BoolQ (safeB s.data.toList) w) := by
  have hlen : s.data.toList.length = s.size := (Lib.size_eq s).symm
  have hp := isPlain_any s w hs
  obtain ⟨g, hg⟩ : ∃ g, safeB s.data.toList = g := ⟨_, rfl⟩
  rw [hg]
  unfold safeB at hg
  cases h : plainB s.data.toList with
  | false =>
    rw [h] at hp hg
    rw [Bool.false_and] at hg
    subst hg
    have HP := Lib.hid hp
    clear hp h hlen
    go_enter Tryz.func42, Tryz.ntmps42
    go_wp2_with fail
    refine HP.out.mono ?_
    rintro e w1 ⟨rfl, hb1⟩
    go_wp2_with fail
    go_ret
    exact ⟨rfl, hb1⟩
  | true =>
    rw [h] at hp hg
    rw [Bool.true_and] at hg
    have h80 := plainB_len h
    rw [hlen] at h80
    have HP := Lib.hid hp
    have HG := Lib.hid hg
    clear hp h hlen hg
    go_enter Tryz.func42, Tryz.ntmps42
    go_wp2_with fail
    refine HP.out.mono ?_
    rintro e w1 ⟨rfl, hb1⟩
    go_wp2_with fail
    refine (escaped_any s w1 (by omega)).mono ?_
    rintro e w2 ⟨⟨r, rfl, hr⟩, hb2⟩
    have hq : (r.toList == s.toList) = g := by rw [Lib.toList_data, Lib.toList_data, hr.out.1]; exact HG.out
    clear hr
    go_wp2_with fail
    go_ret
    exact ⟨rfl, hb1.trans (hb2.mono hb1.size)⟩
def MkAt (op : Bool) (k q : Nat) : Prop := (op = false ∧ q = 0) ∨ (op = true ∧ k = 0 ∧ q = 1) ∨ (op = true ∧ 0 < k ∧ q = 2)
theorem mk_bad {q r : Nat} {rest rest' : List Nat} {g : Bool} (hst : rest = r :: rest') (h : (rest.foldl mkQ q == 0) = g) (hb : mkQ q r = 3) : g = false := by rw [← h, hst, List.foldl_cons, hb, mkQ_bad]; rfl
theorem mk_go {q r q' : Nat} {rest rest' : List Nat} {g : Bool} (hst : rest = r :: rest') (h : (rest.foldl mkQ q == 0) = g) (hb : mkQ q r = q') : (rest'.foldl mkQ q' == 0) = g := by rw [← h, hst, List.foldl_cons, hb]
theorem mk_end {q : Nat} {op : Bool} {k : Nat} {g : Bool} (h : (([] : List Nat).foldl mkQ q == 0) = g) (hm : MkAt op k q) : g = !op := by
  rw [← h]
  rcases hm with ⟨rfl, rfl⟩ | ⟨rfl, _, rfl⟩ | ⟨rfl, _, rfl⟩ <;> rfl
theorem mk_sum (k : Nat) (op : Bool) (r q : Nat) (h1 : r ≠ 8249) (h2 : r ≠ 8250) (h3 : r ≠ 8224) (h4 : op = true → r ≠ 10) (h : MkAt op k q) : ∃ q', mkQ q r = q' ∧ MkAt op (k + 1) q' := by
  rcases h with ⟨rfl, rfl⟩ | ⟨rfl, rfl, rfl⟩ | ⟨rfl, hk, rfl⟩
  · exact ⟨0, by simp [mkQ, h1, h2, h3], .inl ⟨rfl, rfl⟩⟩
  · exact ⟨2, by simp [mkQ, h1, h2, h3, h4 rfl], .inr (.inr ⟨rfl, by omega, rfl⟩)⟩
  · exact ⟨2, by simp [mkQ, h1, h2, h3, h4 rfl], .inr (.inr ⟨rfl, by omega, rfl⟩)⟩
set_option maxHeartbeats 2000000 in
theorem isMarked_any (s : ByteArray) (w : World) (hs : s.size ≤ 9223372036854775807) : Calls Tryz.prog 21 #[.string s] w (BoolQ (markB s.data.toList) w) := by
  have hlen : s.data.toList.length = s.size := (Lib.size_eq s).symm
  have hp := isPlain_any s w hs
  obtain ⟨g, hg⟩ : ∃ g, markB s.data.toList = g := ⟨_, rfl⟩
  rw [hg]
  unfold markB at hg
  cases h : plainB s.data.toList with
  | false =>
    rw [h] at hp hg
    rw [Bool.false_and] at hg
    subst hg
    have HP := Lib.hid hp
    clear hp h hlen
    go_enter Tryz.func21, Tryz.ntmps21
    go_wp2_with fail
    refine HP.out.mono ?_
    rintro e w1 ⟨rfl, hb1⟩
    go_wp2_with fail
    go_ret
    exact ⟨rfl, hb1⟩
  | true =>
    rw [h] at hp hg
    rw [Bool.true_and, runesL_data] at hg
    have h80 := plainB_len h
    rw [hlen] at h80
    have HP := Lib.hid hp
    have HG := Lib.hid hg
    clear hp h hlen hg
    go_enter Tryz.func21, Tryz.ntmps21
    go_wp2_with fail
    refine HP.out.mono ?_
    rintro e w1 ⟨rfl, hb1⟩
    go_wp2_with fail
    have hI0 := World.iter_heap w1 s 0
    have hb0 : Below w.heap.size w (w1.iter s 0) := hb1.alloc hb1.size _
    have hwz := hb1.size
    go_loopw [3, 4] (fun a b wr => ∃ (pos : Nat) (rest : List Nat) (op : Bool) (k q : Nat), a = .bool op ∧ b = .int .i64 k ∧ k ≤ pos ∧ MkAt op k q ∧ Hid ((rest.foldl mkQ q == 0) = g ∧ RunesAt s pos rest ∧ Scs rest) ∧ pos ≤ s.size ∧ wr.heap[w1.heap.size]? = some (.stringIter s pos) ∧ Below w.heap.size w wr)
      (fun _ _ wr => s.size - wr.iterPos w1.heap.size)
    case atStart => exact ⟨0, runes s, false, 0, 0, rfl, rfl, Nat.le_refl _, .inl ⟨rfl, rfl⟩, ⟨HG.out, RunesAt.start s, runes_sc s⟩, Nat.zero_le _, hI0, hb0⟩
    case round =>
      obtain ⟨pos, rest, op, k, q, rfl, rfl, hkp, hm, hacc3, hps, hk, hnx⟩ := hrel
      have hacc : Hid ((rest.foldl mkQ q == 0) = g ∧ RunesAt s pos rest) := ⟨hacc3.out.1, hacc3.out.2.1⟩
      have HM := Lib.hid hm; clear hm
      clear hI0 hb0
      by_cases hp : pos < s.size
      ·
        obtain ⟨rest', hst⟩ := hacc.out.2.step hp
        have hadv := decode_adv s pos hp
        have hnext : ∀ ty, (Instr.next (.pointer (some ⟨w1.heap.size, 0, none⟩)) true ty).run Tryz.prog wr = _ := fun ty => Lib.run_next_any_at wr (w1.heap.size) s pos ty hk hp
        have hk1 := Lib.iterAt_heap wr (w1.heap.size) s pos (pos + (Utf8.decode s pos).2) hk
        have hnx1 : Below w.heap.size w (wr.iterAt (w1.heap.size) s (pos + (Utf8.decode s pos).2)) := Lib.below_iterAt hnx (by omega) s _
        have hmu : wr.iterPos (w1.heap.size) = pos := by simp [World.iterPos, hk]
        generalize wr.iterAt (w1.heap.size) s (pos + (Utf8.decode s pos).2) = W1 at hnext hk1 hnx1
        generalize (Utf8.decode s pos).1 = r at hnext hst
        generalize (Utf8.decode s pos).2 = n at hadv hst hk1
        have hmu1 : W1.iterPos (w1.heap.size) = pos + n := by simp [World.iterPos, hk1]
        have Hst := Lib.hid hst; clear hst
        have Hk1 := Lib.hid hk1; clear hk1
        have Hmu := Lib.hid hmu; clear hmu
        have Hmu1 := Lib.hid hmu1; clear hmu1
        clear hk
        have hel := encode_size r
        obtain ⟨e, he⟩ : ∃ e, Utf8.encode r = e := ⟨_, rfl⟩
        have hconv : ∀ w, (convert 21 9 (.int .i32 r)).run Tryz.prog w = .ok (.string e) w := fun w => by rw [← he]; simp [go_sem]
        rw [he] at hel
        have He := Lib.hid (encL_of he); clear he
        have HSC := Lib.hid (Hst.out.1 ▸ hacc3.out.2.2)
        have hsc := HSC.out.head
        by_cases hrS : r = 8249
        · have hm : e.toList = [226, 128, 185] := by rw [← He.out, hrS]; exact encS
          clear hsc
          cases op with
          | true =>
            have hg : g = false := mk_bad Hst.out.1 hacc.out.1 (by rw [hrS]; rcases HM.out with ⟨h, _⟩ | ⟨_, _, rfl⟩ | ⟨_, _, rfl⟩; cases h; rfl; rfl)
            clear hrS
            subst hg
            go_wp2
            go_ret
            exact ⟨rfl, hnx1⟩
          | false =>
            have HR := Lib.hid (mk_go (q' := 1) Hst.out.1 hacc.out.1 (by rw [hrS]; rcases HM.out with ⟨_, rfl⟩ | ⟨h, _, _⟩ | ⟨h, _, _⟩; rfl; cases h; cases h))
            clear hrS
            go_wp2
            go_roundw
            case rel => exact ⟨pos + n, rest', true, 0, 1, rfl, rfl, by omega, (.inr (.inl ⟨rfl, rfl, rfl⟩)), ⟨HR.out, Hst.out.2, HSC.out.tail⟩, hadv.2, Hk1.out, hnx1⟩
            case measure => rw [Hmu1.out, Hmu.out]; omega
        · have h1 : (e.toList == [226, 128, 185]) = false := by rw [← He.out]; exact (show [226, 128, 185] = encL 8249 from encS.symm) ▸ enc_ne hsc scS hrS
          by_cases hrE : r = 8250
          · have hm : e.toList = [226, 128, 186] := by rw [← He.out, hrE]; exact encE
            clear hsc h1
            cases op with
            | false =>
              have hg : g = false := mk_bad Hst.out.1 hacc.out.1 (by rw [hrE]; rcases HM.out with ⟨_, rfl⟩ | ⟨h, _, _⟩ | ⟨h, _, _⟩; rfl; cases h; cases h)
              clear hrE hrS
              subst hg
              go_wp2
              go_ret
              exact ⟨rfl, hnx1⟩
            | true =>
              by_cases hk0 : k = 0
              · have hkb : ((k : Int) == 0) = true := beq_iff_eq.2 (by omega)
                have hg : g = false := mk_bad Hst.out.1 hacc.out.1 (by rw [hrE]; rcases HM.out with ⟨h, _⟩ | ⟨_, _, rfl⟩ | ⟨_, h, _⟩; cases h; rfl; omega)
                clear hrE hrS hk0
                subst hg
                go_wp2
                go_ret
                exact ⟨rfl, hnx1⟩
              · have hkb : ((k : Int) == 0) = false := beq_eq_false_iff_ne.2 (by omega)
                have HR := Lib.hid (mk_go (q' := 0) Hst.out.1 hacc.out.1 (by rw [hrE]; rcases HM.out with ⟨h, _⟩ | ⟨_, h, _⟩ | ⟨_, _, rfl⟩; cases h; omega; rfl))
                clear hrE hrS hk0
                go_wp2
                go_roundw
                case rel => exact ⟨pos + n, rest', false, k, 0, rfl, rfl, by omega, (.inl ⟨rfl, rfl⟩), ⟨HR.out, Hst.out.2, HSC.out.tail⟩, hadv.2, Hk1.out, hnx1⟩
                case measure => rw [Hmu1.out, Hmu.out]; omega
          · have h2 : (e.toList == [226, 128, 186]) = false := by rw [← He.out]; exact (show [226, 128, 186] = encL 8250 from encE.symm) ▸ enc_ne hsc scE hrE
            by_cases hrH : r = 8224
            · have hm : e.toList = [226, 128, 160] := by rw [← He.out, hrH]; exact encH
              have hg : g = false := mk_bad Hst.out.1 hacc.out.1 (by rw [hrH]; rcases HM.out with ⟨_, rfl⟩ | ⟨_, _, rfl⟩ | ⟨_, _, rfl⟩ <;> rfl)
              clear hrS hrE hrH hsc h1 h2
              subst hg
              go_wp2
              go_ret
              exact ⟨rfl, hnx1⟩
            · have h3 : (e.toList == [226, 128, 160]) = false := by rw [← He.out]; exact (show [226, 128, 160] = encL 8224 from encH.symm) ▸ enc_ne hsc scH hrH
              cases op with
              | false =>
                obtain ⟨q', hq, hmq⟩ := mk_sum k false r q hrS hrE hrH (by intro h; cases h) HM.out
                have HR := Lib.hid (mk_go Hst.out.1 hacc.out.1 hq)
                have HMQ := Lib.hid hmq
                clear hq hmq hrS hrE hrH hsc
                go_wp2
                go_roundw
                case rel => exact ⟨pos + n, rest', false, (k + 1), q', rfl, (by go_num), by omega, HMQ.out, ⟨HR.out, Hst.out.2, HSC.out.tail⟩, hadv.2, Hk1.out, hnx1⟩
                case measure => rw [Hmu1.out, Hmu.out]; omega
              | true =>
                by_cases hr10 : r = 10
                · have h4 : ((r : Int) == 10) = true := beq_iff_eq.2 (by omega)
                  have hg : g = false := mk_bad Hst.out.1 hacc.out.1 (by rw [hr10]; rcases HM.out with ⟨h, _⟩ | ⟨_, _, rfl⟩ | ⟨_, _, rfl⟩; cases h; rfl; rfl)
                  clear hrS hrE hrH hr10 hsc
                  subst hg
                  go_wp2
                  go_ret
                  exact ⟨rfl, hnx1⟩
                · have h4 : ((r : Int) == 10) = false := beq_eq_false_iff_ne.2 (by omega)
                  obtain ⟨q', hq, hmq⟩ := mk_sum k true r q hrS hrE hrH (fun _ => hr10) HM.out
                  have HR := Lib.hid (mk_go Hst.out.1 hacc.out.1 hq)
                  have HMQ := Lib.hid hmq
                  clear hq hmq hrS hrE hrH hr10 hsc
                  go_wp2
                  go_roundw
                  case rel => exact ⟨pos + n, rest', true, (k + 1), q', rfl, (by go_num), by omega, HMQ.out, ⟨HR.out, Hst.out.2, HSC.out.tail⟩, hadv.2, Hk1.out, hnx1⟩
                  case measure => rw [Hmu1.out, Hmu.out]; omega
      · have hnext : ∀ ty, (Instr.next (.pointer (some ⟨w1.heap.size, 0, none⟩)) true ty).run Tryz.prog wr = _ := fun ty => Lib.run_next_end_at wr w1.heap.size s pos ty hk hp
        have hfin : g = !op := by
          have h := hacc.out.1
          rw [hacc.out.2.stop hp] at h
          exact mk_end h HM.out
        subst hfin
        have hnot : ∀ (x : Bool) (w : World), (Op.unary .not (.bool x)).run Tryz.prog w = .ok (.bool (!x)) w := fun _ _ => rfl
        clear hk
        go_wp2
        go_ret
        exact ⟨rfl, hnx⟩
end Go.Proofs.YtlmcglaajmjanaaGreatDoor
