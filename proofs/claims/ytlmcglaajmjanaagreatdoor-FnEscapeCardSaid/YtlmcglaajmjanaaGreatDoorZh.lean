/- Walks of the reference's functions over texts: IsPlain, IsSafe, IsMarked, Redact, Strip, hasLine. -/
/- Walks of the reference's Redact and Strip. -/
/- Lists of arguments in memory; walks of the functions that only look at them. -/
import Derived.Test.YtlmcglaajmjanaaGreatDoorZb
import Derived.Test.YtlmcglaajmjanaaGreatDoorZa
import Derived.Deep.Slices
namespace Go.Proofs.YtlmcglaajmjanaaGreatDoor
open Go.RowKit
attribute [local irreducible] Utf8.encode Utf8.decode
def plainB (l : List UInt8) : Bool := decide (l.length ≤ 80) && (runesL l).all (· != 65533)
theorem plainB_len {l : List UInt8} (h : plainB l = true) : l.length ≤ 80 := by unfold plainB at h; rw [Bool.and_eq_true, decide_eq_true_eq] at h; exact h.1
theorem plainB_encs {l : List UInt8} (h : plainB l = true) : Scs (runesL l) ∧ l = encs (runesL l) := by
  unfold plainB at h
  rw [Bool.and_eq_true] at h
  refine plain_encs fun r hr => ?_
  have := List.all_eq_true.1 h.2 r hr
  simpa using this
def safeB (l : List UInt8) : Bool := plainB l && (escB l == l)
def markB (l : List UInt8) : Bool := plainB l && (mkS_ (runesL l) == 0)
/-- What a walk over a text's runes tells: a Bool. -/
def BoolQ (b : Bool) (w : World) (e : Ending) (w' : World) : Prop := e = .returned (.bool b) ∧ Below w.heap.size w w'
theorem all_step {rest rest' : List Nat} {r : Nat} {g : Bool} (hst : rest = r :: rest') (h : rest.all (· != 65533) = g) : (r = 65533 → g = false) ∧ (r ≠ 65533 → rest'.all (· != 65533) = g) := by
  subst hst
  rw [← h]
  refine ⟨fun h => by simp [h], fun h => by simp [h]⟩
set_option maxHeartbeats 1000000 in
theorem isPlain_any (s : ByteArray) (w : World) (hs : s.size ≤ 9223372036854775807) : Calls Tryz.prog 27 #[.string s] w (BoolQ (plainB s.data.toList) w) := by
  have hlen : s.data.toList.length = s.size := (Lib.size_eq s).symm
  by_cases h80 : s.size ≤ 80
  · have hg : plainB s.data.toList = (runes s).all (· != 65533) := by unfold plainB; rw [hlen, decide_eq_true h80, Bool.true_and, runesL_data]
    generalize plainB s.data.toList = g at hg ⊢
    have HG := Lib.hid hg; clear hg hlen
    have hI0 := World.iter_heap w s 0
    have hb0 : Below w.heap.size w (w.iter s 0) := (Below.refl _ w).alloc (Nat.le_refl _) _
    go_enter Tryz.func27, Tryz.ntmps27
    go_wp2
    go_loopw [4] (fun _ wr => ∃ (pos : Nat) (rest : List Nat), Hid (rest.all (· != 65533) = g ∧ RunesAt s pos rest) ∧ pos ≤ s.size ∧ wr.heap[w.heap.size]? = some (.stringIter s pos) ∧ Below w.heap.size w wr)
      (fun _ wr => s.size - wr.iterPos w.heap.size)
    case atStart => exact ⟨0, runes s, ⟨HG.out.symm, RunesAt.start s⟩, Nat.zero_le _, hI0, hb0⟩
    case round =>
      obtain ⟨pos, rest, hacc, hps, hk, hnx⟩ := hrel
      clear hI0 hb0
      by_cases hp : pos < s.size
      ·
        obtain ⟨rest', hst⟩ := hacc.out.2.step hp
        have hadv := decode_adv s pos hp
        have hnext : ∀ ty, (Instr.next (.pointer (some ⟨w.heap.size, 0, none⟩)) true ty).run Tryz.prog wr = _ := fun ty => Lib.run_next_any_at wr (w.heap.size) s pos ty hk hp
        have hk1 := Lib.iterAt_heap wr (w.heap.size) s pos (pos + (Utf8.decode s pos).2) hk
        have hnx1 : Below w.heap.size w (wr.iterAt (w.heap.size) s (pos + (Utf8.decode s pos).2)) := Lib.below_iterAt hnx (by omega) s _
        have hmu : wr.iterPos (w.heap.size) = pos := by simp [World.iterPos, hk]
        generalize wr.iterAt (w.heap.size) s (pos + (Utf8.decode s pos).2) = W1 at hnext hk1 hnx1
        generalize (Utf8.decode s pos).1 = r at hnext hst
        generalize (Utf8.decode s pos).2 = n at hadv hst hk1
        have hmu1 : W1.iterPos (w.heap.size) = pos + n := by simp [World.iterPos, hk1]
        have Hst := Lib.hid hst; clear hst
        have Hk1 := Lib.hid hk1; clear hk1
        have Hmu := Lib.hid hmu; clear hmu
        have Hmu1 := Lib.hid hmu1; clear hmu1
        clear hk
        have HA := Lib.hid (all_step Hst.out.1 hacc.out.1)
        by_cases hr : (r : Int) = 65533
        · have hg : g = false := HA.out.1 (by omega)
          subst hg
          go_wp2
          go_ret
          exact ⟨rfl, hnx1⟩
        · have hrb : ((r : Int) == 65533) = false := beq_eq_false_iff_ne.2 hr
          have hr2 : r ≠ 65533 := by omega
          have HR := Lib.hid (HA.out.2 hr2)
          clear hr hr2
          go_wp2
          go_roundw
          case rel => exact ⟨pos + n, rest', ⟨HR.out, Hst.out.2⟩, hadv.2, Hk1.out, hnx1⟩
          case measure => rw [Hmu1.out, Hmu.out]; omega
      · have hnext : ∀ ty, (Instr.next (.pointer (some ⟨w.heap.size, 0, none⟩)) true ty).run Tryz.prog wr = _ := fun ty => Lib.run_next_end_at wr w.heap.size s pos ty hk hp
        have hfin : g = true := by
          have h := hacc.out.1
          rw [hacc.out.2.stop hp] at h
          exact h.symm
        subst hfin
        clear hk
        go_wp2
        go_ret
        exact ⟨rfl, hnx⟩
  · have hg : plainB s.data.toList = false := by unfold plainB; rw [hlen, decide_eq_false h80, Bool.false_and]
    rw [hg]
    clear hg hlen
    go_enter Tryz.func27, Tryz.ntmps27
    go_wp2
    go_ret
    exact ⟨rfl, Below.refl _ _⟩
theorem decodeL_any_sc (l : List UInt8) : Sc (Lib.decodeL l).1 := by
  by_cases h : (Lib.decodeL l).1 = 65533
  · rw [h]; unfold Sc; omega
  · exact decodeL_sc l h
theorem runesAt_sc (s : ByteArray) : ∀ (n pos : Nat) (rest : List Nat), s.size - pos ≤ n → RunesAt s pos rest → Scs rest := by
  intro n
  induction n with
  | zero =>
    intro pos rest hn hr
    have := hr.stop (by omega)
    subst this
    exact Scs.nil
  | succ n ih =>
    intro pos rest hn hr
    by_cases hp : pos < s.size
    · obtain ⟨rest', rfl, hr'⟩ := hr.step hp
      have hadv := decode_adv s pos hp
      refine Scs.cons ?_ (ih _ _ (by omega) hr')
      rw [← Lib.decodeL_drop]; exact decodeL_any_sc _
    · have := hr.stop hp
      subst this
      exact Scs.nil
theorem runes_sc (s : ByteArray) : Scs (runes s) := runesAt_sc s _ 0 _ (Nat.le_refl _) (RunesAt.start s)
theorem runesL_sc (l : List UInt8) : Scs (runesL l) := runes_sc _
theorem enc_ne {r m : Nat} (hr : Sc r) (hm : Sc m) (h : r ≠ m) : (encL r == encL m) = false := beq_eq_false_iff_ne.2 fun e => h (encL_inj hr hm e)
theorem str_of {r : ByteArray} {l : List UInt8} (h : r.data.toList = l) : r = ⟨l.toArray⟩ := by rw [← h]
def SafeQ (b : Bool) (w : World) (e : Ending) (w' : World) : Prop := e = .returned (.bool b) ∧ Below w.heap.size w w'
set_option maxHeartbeats 1000000 in
theorem isSafe_any (s : ByteArray) (w : World) (hs : s.size ≤ 9223372036854775807) : Calls Tryz.prog 42 #[.string s] w (BoolQ (safeB s.data.toList) w) := by
  have hlen : s.data.toList.length = s.size := (Lib.size_eq s).symm
  have hp := isPlain_any s w hs
  obtain ⟨g, hg⟩ : ∃ g, safeB s.data.toList = g := ⟨_, rfl⟩
  rw [hg]
  unfold safeB at hg
  cases h : plainB s.data.toList with
  | false =>
    rw [h] at hp hg
    rw [Bool.false_and] at hg
    subst hg
    have HP := Lib.hid hp
    clear hp h hlen
    go_enter Tryz.func42, Tryz.ntmps42
    go_wp2_with fail
    refine HP.out.mono ?_
    rintro e w1 ⟨rfl, hb1⟩
    go_wp2_with fail
    go_ret
    exact ⟨rfl, hb1⟩
  | true =>
    rw [h] at hp hg
    rw [Bool.true_and] at hg
    have h80 := plainB_len h
    rw [hlen] at h80
    have HP := Lib.hid hp
    have HG := Lib.hid hg
    clear hp h hlen hg
    go_enter Tryz.func42, Tryz.ntmps42
    go_wp2_with fail
    refine HP.out.mono ?_
    rintro e w1 ⟨rfl, hb1⟩
    go_wp2_with fail
    refine (escaped_any s w1 (by omega)).mono ?_
    rintro e w2 ⟨⟨r, rfl, hr⟩, hb2⟩
    have hq : (r.toList == s.toList) = g := by rw [Lib.toList_data, Lib.toList_data, hr.out.1]; exact HG.out
    clear hr
    go_wp2_with fail
    go_ret
    exact ⟨rfl, hb1.trans (hb2.mono hb1.size)⟩
def MkAt (op : Bool) (k q : Nat) : Prop := (op = false ∧ q = 0) ∨ (op = true ∧ k = 0 ∧ q = 1) ∨ (op = true ∧ 0 < k ∧ q = 2)
theorem mk_bad {q r : Nat} {rest rest' : List Nat} {g : Bool} (hst : rest = r :: rest') (h : (rest.foldl mkQ q == 0) = g) (hb : mkQ q r = 3) : g = false := by rw [← h, hst, List.foldl_cons, hb, mkQ_bad]; rfl
theorem mk_go {q r q' : Nat} {rest rest' : List Nat} {g : Bool} (hst : rest = r :: rest') (h : (rest.foldl mkQ q == 0) = g) (hb : mkQ q r = q') : (rest'.foldl mkQ q' == 0) = g := by rw [← h, hst, List.foldl_cons, hb]
theorem mk_end {q : Nat} {op : Bool} {k : Nat} {g : Bool} (h : (([] : List Nat).foldl mkQ q == 0) = g) (hm : MkAt op k q) : g = !op := by
  rw [← h]
  rcases hm with ⟨rfl, rfl⟩ | ⟨rfl, _, rfl⟩ | ⟨rfl, _, rfl⟩ <;> rfl
theorem mk_sum (k : Nat) (op : Bool) (r q : Nat) (h1 : r ≠ 8249) (h2 : r ≠ 8250) (h3 : r ≠ 8224) (h4 : op = true → r ≠ 10) (h : MkAt op k q) : ∃ q', mkQ q r = q' ∧ MkAt op (k + 1) q' := by
  rcases h with ⟨rfl, rfl⟩ | ⟨rfl, rfl, rfl⟩ | ⟨rfl, hk, rfl⟩
  · exact ⟨0, by simp [mkQ, h1, h2, h3], .inl ⟨rfl, rfl⟩⟩
  · exact ⟨2, by simp [mkQ, h1, h2, h3, h4 rfl], .inr (.inr ⟨rfl, by omega, rfl⟩)⟩
  · exact ⟨2, by simp [mkQ, h1, h2, h3, h4 rfl], .inr (.inr ⟨rfl, by omega, rfl⟩)⟩
set_option maxHeartbeats 2000000 in
theorem isMarked_any (s : ByteArray) (w : World) (hs : s.size ≤ 9223372036854775807) : Calls Tryz.prog 21 #[.string s] w (BoolQ (markB s.data.toList) w) := by
  have hlen : s.data.toList.length = s.size := (Lib.size_eq s).symm
  have hp := isPlain_any s w hs
  obtain ⟨g, hg⟩ : ∃ g, markB s.data.toList = g := ⟨_, rfl⟩
  rw [hg]
  unfold markB at hg
  cases h : plainB s.data.toList with
  | false =>
    rw [h] at hp hg
    rw [Bool.false_and] at hg
    subst hg
    have HP := Lib.hid hp
    clear hp h hlen
    go_enter Tryz.func21, Tryz.ntmps21
    go_wp2_with fail
    refine HP.out.mono ?_
    rintro e w1 ⟨rfl, hb1⟩
    go_wp2_with fail
    go_ret
    exact ⟨rfl, hb1⟩
  | true =>
    rw [h] at hp hg
    rw [Bool.true_and, runesL_data] at hg
    have h80 := plainB_len h
    rw [hlen] at h80
    have HP := Lib.hid hp
    have HG := Lib.hid hg
    clear hp h hlen hg
    go_enter Tryz.func21, Tryz.ntmps21
    go_wp2_with fail
    refine HP.out.mono ?_
    rintro e w1 ⟨rfl, hb1⟩
    go_wp2_with fail
    have hI0 := World.iter_heap w1 s 0
    have hb0 : Below w.heap.size w (w1.iter s 0) := hb1.alloc hb1.size _
    have hwz := hb1.size
    go_loopw [3, 4] (fun a b wr => ∃ (pos : Nat) (rest : List Nat) (op : Bool) (k q : Nat), a = .bool op ∧ b = .int .i64 k ∧ k ≤ pos ∧ MkAt op k q ∧ Hid ((rest.foldl mkQ q == 0) = g ∧ RunesAt s pos rest ∧ Scs rest) ∧ pos ≤ s.size ∧ wr.heap[w1.heap.size]? = some (.stringIter s pos) ∧ Below w.heap.size w wr)
      (fun _ _ wr => s.size - wr.iterPos w1.heap.size)
    case atStart => exact ⟨0, runes s, false, 0, 0, rfl, rfl, Nat.le_refl _, .inl ⟨rfl, rfl⟩, ⟨HG.out, RunesAt.start s, runes_sc s⟩, Nat.zero_le _, hI0, hb0⟩
    case round =>
      obtain ⟨pos, rest, op, k, q, rfl, rfl, hkp, hm, hacc3, hps, hk, hnx⟩ := hrel
      have hacc : Hid ((rest.foldl mkQ q == 0) = g ∧ RunesAt s pos rest) := ⟨hacc3.out.1, hacc3.out.2.1⟩
      have HM := Lib.hid hm; clear hm
      clear hI0 hb0
      by_cases hp : pos < s.size
      ·
        obtain ⟨rest', hst⟩ := hacc.out.2.step hp
        have hadv := decode_adv s pos hp
        have hnext : ∀ ty, (Instr.next (.pointer (some ⟨w1.heap.size, 0, none⟩)) true ty).run Tryz.prog wr = _ := fun ty => Lib.run_next_any_at wr (w1.heap.size) s pos ty hk hp
        have hk1 := Lib.iterAt_heap wr (w1.heap.size) s pos (pos + (Utf8.decode s pos).2) hk
        have hnx1 : Below w.heap.size w (wr.iterAt (w1.heap.size) s (pos + (Utf8.decode s pos).2)) := Lib.below_iterAt hnx (by omega) s _
        have hmu : wr.iterPos (w1.heap.size) = pos := by simp [World.iterPos, hk]
        generalize wr.iterAt (w1.heap.size) s (pos + (Utf8.decode s pos).2) = W1 at hnext hk1 hnx1
        generalize (Utf8.decode s pos).1 = r at hnext hst
        generalize (Utf8.decode s pos).2 = n at hadv hst hk1
        have hmu1 : W1.iterPos (w1.heap.size) = pos + n := by simp [World.iterPos, hk1]
        have Hst := Lib.hid hst; clear hst
        have Hk1 := Lib.hid hk1; clear hk1
        have Hmu := Lib.hid hmu; clear hmu
        have Hmu1 := Lib.hid hmu1; clear hmu1
        clear hk
        have hel := encode_size r
        obtain ⟨e, he⟩ : ∃ e, Utf8.encode r = e := ⟨_, rfl⟩
        have hconv : ∀ w, (convert 21 9 (.int .i32 r)).run Tryz.prog w = .ok (.string e) w := fun w => by rw [← he]; simp [go_sem]
        rw [he] at hel
        have He := Lib.hid (encL_of he); clear he
        have HSC := Lib.hid (Hst.out.1 ▸ hacc3.out.2.2)
        have hsc := HSC.out.head
        by_cases hrS : r = 8249
        · have hm : e.toList = [226, 128, 185] := by rw [← He.out, hrS]; exact encS
          clear hsc
          cases op with
          | true =>
            have hg : g = false := mk_bad Hst.out.1 hacc.out.1 (by rw [hrS]; rcases HM.out with ⟨h, _⟩ | ⟨_, _, rfl⟩ | ⟨_, _, rfl⟩; cases h; rfl; rfl)
            clear hrS
            subst hg
            go_wp2
            go_ret
            exact ⟨rfl, hnx1⟩
          | false =>
            have HR := Lib.hid (mk_go (q' := 1) Hst.out.1 hacc.out.1 (by rw [hrS]; rcases HM.out with ⟨_, rfl⟩ | ⟨h, _, _⟩ | ⟨h, _, _⟩; rfl; cases h; cases h))
            clear hrS
            go_wp2
            go_roundw
            case rel => exact ⟨pos + n, rest', true, 0, 1, rfl, rfl, by omega, (.inr (.inl ⟨rfl, rfl, rfl⟩)), ⟨HR.out, Hst.out.2, HSC.out.tail⟩, hadv.2, Hk1.out, hnx1⟩
            case measure => rw [Hmu1.out, Hmu.out]; omega
        · have h1 : (e.toList == [226, 128, 185]) = false := by rw [← He.out]; exact (show [226, 128, 185] = encL 8249 from encS.symm) ▸ enc_ne hsc scS hrS
          by_cases hrE : r = 8250
          · have hm : e.toList = [226, 128, 186] := by rw [← He.out, hrE]; exact encE
            clear hsc h1
            cases op with
            | false =>
              have hg : g = false := mk_bad Hst.out.1 hacc.out.1 (by rw [hrE]; rcases HM.out with ⟨_, rfl⟩ | ⟨h, _, _⟩ | ⟨h, _, _⟩; rfl; cases h; cases h)
              clear hrE hrS
              subst hg
              go_wp2
              go_ret
              exact ⟨rfl, hnx1⟩
            | true =>
              by_cases hk0 : k = 0
              · have hkb : ((k : Int) == 0) = true := beq_iff_eq.2 (by omega)
                have hg : g = false := mk_bad Hst.out.1 hacc.out.1 (by rw [hrE]; rcases HM.out with ⟨h, _⟩ | ⟨_, _, rfl⟩ | ⟨_, h, _⟩; cases h; rfl; omega)
                clear hrE hrS hk0
                subst hg
                go_wp2
                go_ret
                exact ⟨rfl, hnx1⟩
              · have hkb : ((k : Int) == 0) = false := beq_eq_false_iff_ne.2 (by omega)
                have HR := Lib.hid (mk_go (q' := 0) Hst.out.1 hacc.out.1 (by rw [hrE]; rcases HM.out with ⟨h, _⟩ | ⟨_, h, _⟩ | ⟨_, _, rfl⟩; cases h; omega; rfl))
                clear hrE hrS hk0
                go_wp2
                go_roundw
                case rel => exact ⟨pos + n, rest', false, k, 0, rfl, rfl, by omega, (.inl ⟨rfl, rfl⟩), ⟨HR.out, Hst.out.2, HSC.out.tail⟩, hadv.2, Hk1.out, hnx1⟩
                case measure => rw [Hmu1.out, Hmu.out]; omega
          · have h2 : (e.toList == [226, 128, 186]) = false := by rw [← He.out]; exact (show [226, 128, 186] = encL 8250 from encE.symm) ▸ enc_ne hsc scE hrE
            by_cases hrH : r = 8224
            · have hm : e.toList = [226, 128, 160] := by rw [← He.out, hrH]; exact encH
              have hg : g = false := mk_bad Hst.out.1 hacc.out.1 (by rw [hrH]; rcases HM.out with ⟨_, rfl⟩ | ⟨_, _, rfl⟩ | ⟨_, _, rfl⟩ <;> rfl)
              clear hrS hrE hrH hsc h1 h2
              subst hg
              go_wp2
              go_ret
              exact ⟨rfl, hnx1⟩
            · have h3 : (e.toList == [226, 128, 160]) = false := by rw [← He.out]; exact (show [226, 128, 160] = encL 8224 from encH.symm) ▸ enc_ne hsc scH hrH
              cases op with
              | false =>
                obtain ⟨q', hq, hmq⟩ := mk_sum k false r q hrS hrE hrH (by intro h; cases h) HM.out
                have HR := Lib.hid (mk_go Hst.out.1 hacc.out.1 hq)
                have HMQ := Lib.hid hmq
                clear hq hmq hrS hrE hrH hsc
                go_wp2
                go_roundw
                case rel => exact ⟨pos + n, rest', false, (k + 1), q', rfl, (by go_num), by omega, HMQ.out, ⟨HR.out, Hst.out.2, HSC.out.tail⟩, hadv.2, Hk1.out, hnx1⟩
                case measure => rw [Hmu1.out, Hmu.out]; omega
              | true =>
                by_cases hr10 : r = 10
                · have h4 : ((r : Int) == 10) = true := beq_iff_eq.2 (by omega)
                  have hg : g = false := mk_bad Hst.out.1 hacc.out.1 (by rw [hr10]; rcases HM.out with ⟨h, _⟩ | ⟨_, _, rfl⟩ | ⟨_, _, rfl⟩; cases h; rfl; rfl)
                  clear hrS hrE hrH hr10 hsc
                  subst hg
                  go_wp2
                  go_ret
                  exact ⟨rfl, hnx1⟩
                · have h4 : ((r : Int) == 10) = false := beq_eq_false_iff_ne.2 (by omega)
                  obtain ⟨q', hq, hmq⟩ := mk_sum k true r q hrS hrE hrH (fun _ => hr10) HM.out
                  have HR := Lib.hid (mk_go Hst.out.1 hacc.out.1 hq)
                  have HMQ := Lib.hid hmq
                  clear hq hmq hrS hrE hrH hr10 hsc
                  go_wp2
                  go_roundw
                  case rel => exact ⟨pos + n, rest', true, (k + 1), q', rfl, (by go_num), by omega, HMQ.out, ⟨HR.out, Hst.out.2, HSC.out.tail⟩, hadv.2, Hk1.out, hnx1⟩
                  case measure => rw [Hmu1.out, Hmu.out]; omega
      · have hnext : ∀ ty, (Instr.next (.pointer (some ⟨w1.heap.size, 0, none⟩)) true ty).run Tryz.prog wr = _ := fun ty => Lib.run_next_end_at wr w1.heap.size s pos ty hk hp
        have hfin : g = !op := by
          have h := hacc.out.1
          rw [hacc.out.2.stop hp] at h
          exact mk_end h HM.out
        subst hfin
        have hnot : ∀ (x : Bool) (w : World), (Op.unary .not (.bool x)).run Tryz.prog w = .ok (.bool (!x)) w := fun _ _ => rfl
        clear hk
        go_wp2
        go_ret
        exact ⟨rfl, hnx⟩
end Go.Proofs.YtlmcglaajmjanaaGreatDoor

namespace Go.Proofs.YtlmcglaajmjanaaGreatDoor
open Go.RowKit
attribute [local irreducible] Utf8.encode Utf8.decode
/-- What is left of a text's runes, redacted. -/
def redN : Bool → List Nat → List Nat
  | _, [] => []
  | op, r :: rs => if r = 8249 then [8249, 215, 8250] ++ redN true rs else if r = 8250 then redN false rs else if op then redN true rs else r :: redN false rs
def stripN (rs : List Nat) : List Nat := rs.filter fun r => !isM r
def StrQ (l : List UInt8) (n : Nat) (w : World) (e : Ending) (w' : World) : Prop := (∃ r : ByteArray, e = .returned (.string r) ∧ Hid (r.data.toList = l ∧ r.size ≤ n)) ∧ Below w.heap.size w w'
theorem sum_step {r : Nat} {rest rest' : List Nat} {a b x : List UInt8} {g : List UInt8} {f f' : List Nat → List Nat} (hst : rest = r :: rest') (h : a ++ encs (f rest) = g) (hb : b = a ++ x) (hx : encs (f (r :: rest')) = x ++ encs (f' rest')) : b ++ encs (f' rest') = g := by
  rw [← h, hst, hx, hb, List.append_assoc]
def X8 : ByteArray := ⟨#[226, 128, 185, 195, 151, 226, 128, 186]⟩
set_option maxHeartbeats 2000000 in
theorem specRedact_any (s : ByteArray) (w : World) (hs : s.size ≤ 100000) : Calls Tryz.prog 19 #[.string s] w (StrQ (encs (redN false (runesL s.data.toList))) (8 * s.size) w) := by
  rw [runesL_data]
  generalize hg : encs (redN false (runes s)) = g
  have HG := Lib.hid hg; clear hg
  have hI0 := World.iter_heap w s 0
  have hb0 : Below w.heap.size w (w.iter s 0) := (Below.refl _ w).alloc (Nat.le_refl _) _
  go_enter Tryz.func19, Tryz.ntmps19
  go_wp2
  go_loopw [3, 4] (fun a b wr => ∃ (pos : Nat) (acc : ByteArray) (op : Bool) (rest : List Nat), a = .string acc ∧ b = .bool op ∧ acc.size ≤ 8 * pos ∧ Hid (acc.data.toList ++ encs (redN op rest) = g ∧ RunesAt s pos rest ∧ Scs rest) ∧ pos ≤ s.size ∧ wr.heap[w.heap.size]? = some (.stringIter s pos) ∧ Below w.heap.size w wr)
    (fun _ _ wr => s.size - wr.iterPos w.heap.size)
  case atStart => exact ⟨0, ⟨#[]⟩, false, runes s, rfl, rfl, Nat.le_refl _, ⟨HG.out, RunesAt.start s, runes_sc s⟩, Nat.zero_le _, hI0, hb0⟩
  case round =>
    obtain ⟨pos, acc, op, rest, rfl, rfl, hasz, hacc3, hps, hk, hnx⟩ := hrel
    have hacc : Hid (acc.data.toList ++ encs (redN op rest) = g ∧ RunesAt s pos rest) := ⟨hacc3.out.1, hacc3.out.2.1⟩
    clear hI0 hb0
    by_cases hp : pos < s.size
    ·
      obtain ⟨rest', hst⟩ := hacc.out.2.step hp
      have hadv := decode_adv s pos hp
      have hnext : ∀ ty, (Instr.next (.pointer (some ⟨w.heap.size, 0, none⟩)) true ty).run Tryz.prog wr = _ := fun ty => Lib.run_next_any_at wr (w.heap.size) s pos ty hk hp
      have hk1 := Lib.iterAt_heap wr (w.heap.size) s pos (pos + (Utf8.decode s pos).2) hk
      have hnx1 : Below w.heap.size w (wr.iterAt (w.heap.size) s (pos + (Utf8.decode s pos).2)) := Lib.below_iterAt hnx (by omega) s _
      have hmu : wr.iterPos (w.heap.size) = pos := by simp [World.iterPos, hk]
      generalize wr.iterAt (w.heap.size) s (pos + (Utf8.decode s pos).2) = W1 at hnext hk1 hnx1
      generalize (Utf8.decode s pos).1 = r at hnext hst
      generalize (Utf8.decode s pos).2 = n at hadv hst hk1
      have hmu1 : W1.iterPos (w.heap.size) = pos + n := by simp [World.iterPos, hk1]
      have Hst := Lib.hid hst; clear hst
      have Hk1 := Lib.hid hk1; clear hk1
      have Hmu := Lib.hid hmu; clear hmu
      have Hmu1 := Lib.hid hmu1; clear hmu1
      clear hk
      have hel := encode_size r
      obtain ⟨e, he⟩ : ∃ e, Utf8.encode r = e := ⟨_, rfl⟩
      have hconv : ∀ w, (convert 21 9 (.int .i32 r)).run Tryz.prog w = .ok (.string e) w := fun w => by rw [← he]; simp [go_sem]
      rw [he] at hel
      have He := Lib.hid (encL_of he); clear he
      have HSC := Lib.hid (Hst.out.1 ▸ hacc3.out.2.2)
      have hsc := HSC.out.head
      by_cases hrS : r = 8249
      · have hm : e.toList = [226, 128, 185] := by rw [← He.out, hrS]; exact encS
        obtain ⟨z, hadz, hzsz, Hz⟩ := add_ex Tryz.prog acc X8 (by show acc.size + 8 ≤ _; omega)
        have hadz' : ∀ w, (Op.stringOp .add acc ⟨#[226, 128, 185, 195, 151, 226, 128, 186]⟩).run Tryz.prog w = .ok (.string z) w := hadz
        have hzsz' : z.size ≤ acc.size + 8 := hzsz
        have HR := Lib.hid (sum_step (f := redN op) (f' := redN true) (x := mkX) Hst.out.1 hacc.out.1 Hz.out (by rw [hrS]; simp only [redN, if_true]; rw [encs_append, encX]))
        clear hsc hrS hadz
        go_wp2
        go_roundw
        case rel => exact ⟨pos + n, z, true, rest', rfl, rfl, by omega, ⟨HR.out, Hst.out.2, HSC.out.tail⟩, hadv.2, Hk1.out, hnx1⟩
        case measure => rw [Hmu1.out, Hmu.out]; omega
      · have h1 : (e.toList == [226, 128, 185]) = false := by rw [← He.out]; exact (show [226, 128, 185] = encL 8249 from encS.symm) ▸ enc_ne hsc scS hrS
        by_cases hrE : r = 8250
        · have hm : e.toList = [226, 128, 186] := by rw [← He.out, hrE]; exact encE
          have HR := Lib.hid (sum_step (f := redN op) (f' := redN false) (x := []) (b := acc.data.toList) Hst.out.1 hacc.out.1 (by simp) (by rw [hrE]; simp [redN]))
          clear hsc hrS hrE h1
          go_wp2
          go_roundw
          case rel => exact ⟨pos + n, acc, false, rest', rfl, rfl, by omega, ⟨HR.out, Hst.out.2, HSC.out.tail⟩, hadv.2, Hk1.out, hnx1⟩
          case measure => rw [Hmu1.out, Hmu.out]; omega
        · have h2 : (e.toList == [226, 128, 186]) = false := by rw [← He.out]; exact (show [226, 128, 186] = encL 8250 from encE.symm) ▸ enc_ne hsc scE hrE
          cases op with
          | true =>
            have HR := Lib.hid (sum_step (f := redN true) (f' := redN true) (x := []) (b := acc.data.toList) Hst.out.1 hacc.out.1 (by simp) (by simp [redN, hrS, hrE]))
            clear hsc hrS hrE
            go_wp2
            go_roundw
            case rel => exact ⟨pos + n, acc, true, rest', rfl, rfl, by omega, ⟨HR.out, Hst.out.2, HSC.out.tail⟩, hadv.2, Hk1.out, hnx1⟩
            case measure => rw [Hmu1.out, Hmu.out]; omega
          | false =>
            obtain ⟨z, hadz, hzsz, Hz⟩ := add_ex Tryz.prog acc e (by omega)
            have HR := Lib.hid (sum_step (f := redN false) (f' := redN false) (x := e.data.toList) Hst.out.1 hacc.out.1 Hz.out (by simp only [redN, if_neg hrS, if_neg hrE, Bool.false_eq_true, if_false, encs_cons]; rw [He.out, Lib.toList_data]))
            clear hsc hrS hrE
            go_wp2
            go_roundw
            case rel => exact ⟨pos + n, z, false, rest', rfl, rfl, by omega, ⟨HR.out, Hst.out.2, HSC.out.tail⟩, hadv.2, Hk1.out, hnx1⟩
            case measure => rw [Hmu1.out, Hmu.out]; omega
    · have hnext : ∀ ty, (Instr.next (.pointer (some ⟨w.heap.size, 0, none⟩)) true ty).run Tryz.prog wr = _ := fun ty => Lib.run_next_end_at wr w.heap.size s pos ty hk hp
      have hfin : acc.data.toList = g := by
        have h := hacc.out.1
        rw [hacc.out.2.stop hp] at h
        simpa [redN, encs_nil] using h
      have Hfin := Lib.hid hfin; clear hfin
      clear hk
      go_wp2
      go_ret
      exact ⟨⟨acc, rfl, Hfin.out, by omega⟩, hnx⟩
set_option maxHeartbeats 2000000 in
theorem specStrip_any (s : ByteArray) (w : World) (hs : s.size ≤ 100000) : Calls Tryz.prog 26 #[.string s] w (StrQ (encs (stripN (runesL s.data.toList))) (4 * s.size) w) := by
  rw [runesL_data]
  generalize hg : encs (stripN (runes s)) = g
  have HG := Lib.hid hg; clear hg
  have hI0 := World.iter_heap w s 0
  have hb0 : Below w.heap.size w (w.iter s 0) := (Below.refl _ w).alloc (Nat.le_refl _) _
  go_enter Tryz.func26, Tryz.ntmps26
  go_wp2
  go_loopw [3] (fun a wr => ∃ (pos : Nat) (acc : ByteArray) (rest : List Nat), a = .string acc ∧ acc.size ≤ 4 * pos ∧ Hid (acc.data.toList ++ encs (stripN rest) = g ∧ RunesAt s pos rest ∧ Scs rest) ∧ pos ≤ s.size ∧ wr.heap[w.heap.size]? = some (.stringIter s pos) ∧ Below w.heap.size w wr)
    (fun _ wr => s.size - wr.iterPos w.heap.size)
  case atStart => exact ⟨0, ⟨#[]⟩, runes s, rfl, Nat.le_refl _, ⟨HG.out, RunesAt.start s, runes_sc s⟩, Nat.zero_le _, hI0, hb0⟩
  case round =>
    obtain ⟨pos, acc, rest, rfl, hasz, hacc3, hps, hk, hnx⟩ := hrel
    have hacc : Hid (acc.data.toList ++ encs (stripN rest) = g ∧ RunesAt s pos rest) := ⟨hacc3.out.1, hacc3.out.2.1⟩
    clear hI0 hb0
    by_cases hp : pos < s.size
    ·
      obtain ⟨rest', hst⟩ := hacc.out.2.step hp
      have hadv := decode_adv s pos hp
      have hnext : ∀ ty, (Instr.next (.pointer (some ⟨w.heap.size, 0, none⟩)) true ty).run Tryz.prog wr = _ := fun ty => Lib.run_next_any_at wr (w.heap.size) s pos ty hk hp
      have hk1 := Lib.iterAt_heap wr (w.heap.size) s pos (pos + (Utf8.decode s pos).2) hk
      have hnx1 : Below w.heap.size w (wr.iterAt (w.heap.size) s (pos + (Utf8.decode s pos).2)) := Lib.below_iterAt hnx (by omega) s _
      have hmu : wr.iterPos (w.heap.size) = pos := by simp [World.iterPos, hk]
      generalize wr.iterAt (w.heap.size) s (pos + (Utf8.decode s pos).2) = W1 at hnext hk1 hnx1
      generalize (Utf8.decode s pos).1 = r at hnext hst
      generalize (Utf8.decode s pos).2 = n at hadv hst hk1
      have hmu1 : W1.iterPos (w.heap.size) = pos + n := by simp [World.iterPos, hk1]
      have Hst := Lib.hid hst; clear hst
      have Hk1 := Lib.hid hk1; clear hk1
      have Hmu := Lib.hid hmu; clear hmu
      have Hmu1 := Lib.hid hmu1; clear hmu1
      clear hk
      have hel := encode_size r
      obtain ⟨e, he⟩ : ∃ e, Utf8.encode r = e := ⟨_, rfl⟩
      have hconv : ∀ w, (convert 21 9 (.int .i32 r)).run Tryz.prog w = .ok (.string e) w := fun w => by rw [← he]; simp [go_sem]
      rw [he] at hel
      have He := Lib.hid (encL_of he); clear he
      have HSC := Lib.hid (Hst.out.1 ▸ hacc3.out.2.2)
      have hsc := HSC.out.head
      by_cases hrS : r = 8249
      · have hm : e.toList = [226, 128, 185] := by rw [← He.out, hrS]; exact encS
        have HR := Lib.hid (sum_step (f := stripN) (f' := stripN) (x := []) (b := acc.data.toList) Hst.out.1 hacc.out.1 (by simp) (by rw [hrS]; simp [stripN, isM]))
        clear hsc hrS
        go_wp2
        go_roundw
        case rel => exact ⟨pos + n, acc, rest', rfl, by omega, ⟨HR.out, Hst.out.2, HSC.out.tail⟩, hadv.2, Hk1.out, hnx1⟩
        case measure => rw [Hmu1.out, Hmu.out]; omega
      · have h1 : (e.toList == [226, 128, 185]) = false := by rw [← He.out]; exact (show [226, 128, 185] = encL 8249 from encS.symm) ▸ enc_ne hsc scS hrS
        have h1' : (e.toList != [226, 128, 185]) = true := by simp only [bne, h1, Bool.not_false]
        by_cases hrE : r = 8250
        · have hm : e.toList = [226, 128, 186] := by rw [← He.out, hrE]; exact encE
          have HR := Lib.hid (sum_step (f := stripN) (f' := stripN) (x := []) (b := acc.data.toList) Hst.out.1 hacc.out.1 (by simp) (by rw [hrE]; simp [stripN, isM]))
          clear hsc hrS hrE h1 h1'
          go_wp2
          go_roundw
          case rel => exact ⟨pos + n, acc, rest', rfl, by omega, ⟨HR.out, Hst.out.2, HSC.out.tail⟩, hadv.2, Hk1.out, hnx1⟩
          case measure => rw [Hmu1.out, Hmu.out]; omega
        · have h2 : (e.toList == [226, 128, 186]) = false := by rw [← He.out]; exact (show [226, 128, 186] = encL 8250 from encE.symm) ▸ enc_ne hsc scE hrE
          have h2' : (e.toList != [226, 128, 186]) = true := by simp only [bne, h2, Bool.not_false]
          by_cases hrH : r = 8224
          · have hm : e.toList = [226, 128, 160] := by rw [← He.out, hrH]; exact encH
            have HR := Lib.hid (sum_step (f := stripN) (f' := stripN) (x := []) (b := acc.data.toList) Hst.out.1 hacc.out.1 (by simp) (by rw [hrH]; simp [stripN, isM]))
            clear hsc hrS hrE hrH h1 h1' h2 h2'
            go_wp2
            go_roundw
            case rel => exact ⟨pos + n, acc, rest', rfl, by omega, ⟨HR.out, Hst.out.2, HSC.out.tail⟩, hadv.2, Hk1.out, hnx1⟩
            case measure => rw [Hmu1.out, Hmu.out]; omega
          · have h3 : (e.toList == [226, 128, 160]) = false := by rw [← He.out]; exact (show [226, 128, 160] = encL 8224 from encH.symm) ▸ enc_ne hsc scH hrH
            have h3' : (e.toList != [226, 128, 160]) = true := by simp only [bne, h3, Bool.not_false]
            obtain ⟨z, hadz, hzsz, Hz⟩ := add_ex Tryz.prog acc e (by omega)
            have HR := Lib.hid (sum_step (f := stripN) (f' := stripN) (x := e.data.toList) Hst.out.1 hacc.out.1 Hz.out (by simp only [stripN]; rw [List.filter_cons_of_pos (by simp [isM, hrS, hrE, hrH]), encs_cons, He.out, Lib.toList_data]))
            clear hsc hrS hrE hrH
            go_wp2
            go_roundw
            case rel => exact ⟨pos + n, z, rest', rfl, by omega, ⟨HR.out, Hst.out.2, HSC.out.tail⟩, hadv.2, Hk1.out, hnx1⟩
            case measure => rw [Hmu1.out, Hmu.out]; omega
    · have hnext : ∀ ty, (Instr.next (.pointer (some ⟨w.heap.size, 0, none⟩)) true ty).run Tryz.prog wr = _ := fun ty => Lib.run_next_end_at wr w.heap.size s pos ty hk hp
      have hfin : acc.data.toList = g := by
        have h := hacc.out.1
        rw [hacc.out.2.stop hp] at h
        simpa [stripN, encs_nil] using h
      have Hfin := Lib.hid hfin; clear hfin
      clear hk
      go_wp2
      go_ret
      exact ⟨⟨acc, rfl, Hfin.out, by omega⟩, hnx⟩
end Go.Proofs.YtlmcglaajmjanaaGreatDoor

namespace Go.Proofs.YtlmcglaajmjanaaGreatDoor
open Go.RowKit
structure AArg where
  kind : Int
  text : ByteArray
  n : Int
def AArg.val (a : AArg) : Value := .agg #[.int .i64 a.kind, .string a.text, .int .i64 a.n]
/-- v is a slice of arguments that reads l in w. -/
def ArgsAt (w : World) (v : Value) (l : List AArg) : Prop :=
  ∃ (p : Option Addr) (a : Addr) (c : Nat), v = .slice p l.length c ∧ l.length ≤ c ∧ c ≤ 9223372036854775807 ∧ (l = [] ∨ p = some a) ∧
    ∀ j (h : j < l.length), w.cell? (a.add (3 * j)) = some (.int .i64 (l[j]'h).kind) ∧ w.cell? (a.add (3 * j + 1)) = some (.string (l[j]'h).text) ∧ w.cell? (a.add (3 * j + 2)) = some (.int .i64 (l[j]'h).n)
theorem und_args : Tryz.prog.underlying 22 = some (.slice (Tryz.prog.elem 22)) := by
  have e : Tryz.prog.elem 22 = 47 := by kernel_rfl
  rw [e]; exact Tryz.underlying22
theorem elem_args : Tryz.prog.elem 22 = 47 := by kernel_rfl
theorem sizeOf_arg (w : World) : (sizeOf 47).run Tryz.prog w = .ok 3 w := by kernel_rfl
theorem ArgsAt.mono {w w' : World} {v : Value} {l : List AArg} (h : ArgsAt w v l) (hk : ∀ a x, w.cell? a = some x → w'.cell? a = some x) : ArgsAt w' v l := by
  obtain ⟨p, a, c, hv, hc, hm, hp, hx⟩ := h
  exact ⟨p, a, c, hv, hc, hm, hp, fun j hj => ⟨hk _ _ (hx j hj).1, hk _ _ (hx j hj).2.1, hk _ _ (hx j hj).2.2⟩⟩
theorem ArgsAt.below {w w' : World} {v : Value} {l : List AArg} (h : ArgsAt w v l) (hb : Below w.heap.size w w') : ArgsAt w' v l :=
  h.mono fun a x hx => by rw [hb.cell (World.block_lt_of_cell? w _ hx)]; exact hx
theorem ArgsAt.len {w : World} {v : Value} {l : List AArg} (h : ArgsAt w v l) (ty : TypeId) : ∀ w', (Builtin.len_ #[22] ty #[v]).run Tryz.prog w' = .ok (.int .i64 l.length) w' := by
  obtain ⟨p, a, c, rfl, hc, hm, hp, hx⟩ := h
  intro w'
  exact run_len_slice w' _ _ _ _ _ und_args
theorem ArgsAt.le {w : World} {v : Value} {l : List AArg} (h : ArgsAt w v l) : l.length ≤ 9223372036854775807 := by
  obtain ⟨p, a, c, rfl, hc, hm, hp, hx⟩ := h
  omega
theorem ArgsAt.cells {W : World} {a : Addr} {n c : Nat} {l : List AArg} (h : ArgsAt W (.slice (some a) n c) l) (j : Nat) (hj : j < l.length) :
    W.cell? ((a.add (j * 3)).add 0) = some (.int .i64 (l[j]'hj).kind) ∧ W.cell? ((a.add (j * 3)).add 1) = some (.string (l[j]'hj).text) ∧ W.cell? ((a.add (j * 3)).add 2) = some (.int .i64 (l[j]'hj).n) := by
  obtain ⟨p, a2, c2, hv, _, _, hp, hx⟩ := h
  have hl : l ≠ [] := by intro hn; rw [hn] at hj; simp at hj
  rcases hp with hp | hp
  · exact absurd hp hl
  injection hv with e1 _ _
  rw [hp] at e1
  injection e1 with e1
  subst e1
  rw [Go.Deep.add_add, Go.Deep.add_add, Go.Deep.add_add, Nat.mul_comm j 3]
  exact hx j hj
theorem ArgsAt.some_ {W : World} {v : Value} {l : List AArg} (h : ArgsAt W v l) (hl : l ≠ []) : ∃ a c, v = .slice (some a) l.length c := by
  obtain ⟨p, a2, c2, hv, _, _, hp, hx⟩ := h
  rcases hp with hp | hp
  · exact absurd hp hl
  · exact ⟨a2, c2, by rw [hv, hp]⟩
theorem ArgsAt.at_ {w : World} {v : Value} {l : List AArg} (h : ArgsAt w v l) (i : Nat) (h1 : i < l.length) :
    ∃ b o : Nat, (∀ w', (Instr.indexAt 22 v (.int .i64 i)).run Tryz.prog w' = .ok (.pointer (some ⟨b, o, none⟩)) w') ∧
      ∀ W, ArgsAt W v l → W.cell? ⟨b, o, none⟩ = some (.int .i64 (l[i]'h1).kind) ∧ W.cell? ⟨b, o + 1, none⟩ = some (.string (l[i]'h1).text) ∧ W.cell? ⟨b, o + 2, none⟩ = some (.int .i64 (l[i]'h1).n) := by
  obtain ⟨a, c, rfl⟩ := h.some_ (by intro hn; rw [hn] at h1; simp at h1)
  have hsp : (a.add (i * 3)).spot = none := by
    have := World.cell?_spot (h.cells i h1).1
    rwa [show (a.add (i * 3)).add 0 = a.add (i * 3) from Go.Deep.add_add a (i * 3) 0] at this
  obtain ⟨b, o, sp⟩ : ∃ b o, a.add (i * 3) = ⟨b, o, none⟩ := ⟨_, _, by rw [← hsp]⟩
  refine ⟨b, o, fun w' => ?_, fun W hW => ?_⟩
  · have h3 : ¬ l.length ≤ i := by omega
    simp [Instr.indexAt, asIntOf, run_underlying und_args, elem_args, h3, sp]
  · obtain ⟨g0, g1, g2⟩ := hW.cells i h1
    rw [show (a.add (i * 3)).add 0 = a.add (i * 3) from Go.Deep.add_add a (i * 3) 0] at g0
    rw [sp] at g0 g1 g2
    rw [add_plain] at g1 g2
    exact ⟨g0, g1, g2⟩
theorem zzFits2_any (k : Int) (t : ByteArray) (n : Int) (w : World) (ht : t.size ≤ 9223372036854775807) :
    Calls Tryz.prog 41 #[.agg #[.int .i64 k, .string t, .int .i64 n]] w (BoolQ (decide (t.size ≤ 2147483647)) w) := by
  by_cases h : t.size ≤ 2147483647
  · rw [decide_eq_true h]
    go_enter Tryz.func41, Tryz.ntmps41
    go_wp2
    go_ret
    exact ⟨rfl, (Below.refl _ _).alloc (Nat.le_refl _) _⟩
  · rw [decide_eq_false h]
    go_enter Tryz.func41, Tryz.ntmps41
    go_wp2
    go_ret
    exact ⟨rfl, (Below.refl _ _).alloc (Nat.le_refl _) _⟩
def fitsB (l : List AArg) : Bool := decide (l.length ≤ 2147483647) && l.all fun a => decide (a.text.size ≤ 2147483647)
theorem all_drop {l : List AArg} {f : AArg → Bool} {k : Nat} {g : Bool} (hk : k < l.length) (h : (l.drop k).all f = g) : (f (l[k]'hk) = false → g = false) ∧ (f (l[k]'hk) = true → (l.drop (k + 1)).all f = g) := by
  rw [List.drop_eq_getElem_cons hk, List.all_cons] at h
  refine ⟨fun hf => by rw [← h, hf]; rfl, fun hf => by rw [← h, hf, Bool.true_and]⟩
def TextOk (l : List AArg) : Prop := ∀ a ∈ l, a.text.size ≤ 9223372036854775807
set_option maxHeartbeats 1000000 in
theorem zzFits1_any (v : Value) (l : List AArg) (w : World) (hA : ArgsAt w v l) (ht : TextOk l) : Calls Tryz.prog 13 #[v] w (BoolQ (fitsB l) w) := by
  have hlen := fun ty => hA.len ty
  have hle := hA.le
  have HA := Lib.hid hA; clear hA
  have HT := Lib.hid ht; clear ht
  by_cases h : l.length ≤ 2147483647
  · have hg : fitsB l = (l.drop 0).all fun a => decide (a.text.size ≤ 2147483647) := by unfold fitsB; rw [decide_eq_true h, Bool.true_and]; rfl
    generalize fitsB l = g at hg ⊢
    have HG := Lib.hid hg; clear hg
    go_enter Tryz.func13, Tryz.ntmps13
    go_wp2
    go_loopw [10] (fun i wr => ∃ k : Nat, i = .int .i64 k ∧ k ≤ l.length ∧ Hid (((l.drop k).all fun a => decide (a.text.size ≤ 2147483647)) = g) ∧ Below w.heap.size w wr)
      (fun i _ => l.length - (intOf i).toNat)
    case atStart => exact ⟨0, rfl, Nat.zero_le _, HG.out.symm, Below.refl _ _⟩
    case round =>
      obtain ⟨k, rfl, hk, hacc, hnx⟩ := hrel
      by_cases hlt : k < l.length
      ·
        obtain ⟨qb, qo, hix, hld0⟩ := HA.out.at_ k hlt
        obtain ⟨c0, c1, c2⟩ := hld0 wr (HA.out.below hnx)
        clear hld0
        obtain ⟨kd, tx, nn, hx⟩ : ∃ kd tx nn, l[k]'hlt = ⟨kd, tx, nn⟩ := ⟨_, _, _, rfl⟩
        rw [hx] at c0 c1 c2
        dsimp only at c0 c1 c2
        have HX := Lib.hid hx; clear hx
        have hwz := hnx.size
        have HS := Lib.hid (all_drop hlt hacc.out)
        have htx : tx.size ≤ 9223372036854775807 := by have := HT.out _ (List.getElem_mem hlt); rw [HX.out] at this; exact this
        cases hb : decide (tx.size ≤ 2147483647) with
        | false =>
          have hg : g = false := HS.out.1 (by rw [HX.out]; exact hb)
          subst hg
          have HB := Lib.hid hb; clear hb
          go_wp2_with fail
          refine (zzFits2_any _ _ _ _ htx).mono ?_
          rw [HB.out]
          rintro e w2 ⟨rfl, hb2⟩
          go_wp2_with fail
          go_ret
          exact ⟨rfl, (hnx.alloc hwz _).trans (hb2.mono (by simp; omega))⟩
        | true =>
          have HR := Lib.hid (HS.out.2 (by rw [HX.out]; exact hb))
          have HB := Lib.hid hb; clear hb
          go_wp2_with fail
          refine (zzFits2_any _ _ _ _ htx).mono ?_
          rw [HB.out]
          rintro e w2 ⟨rfl, hb2⟩
          go_wp2_with fail
          go_roundw
          case rel => exact ⟨k + 1, by go_num, by omega, HR.out, (hnx.alloc hwz _).trans (hb2.mono (by simp; omega))⟩
          case measure => simp [intOf]; omega
      · have hfin : g = true := by
          have h := hacc.out
          rw [List.drop_of_length_le (by omega)] at h
          exact h.symm
        subst hfin
        go_wp2
        go_ret
        exact ⟨rfl, hnx⟩
  · have hg : fitsB l = false := by unfold fitsB; rw [decide_eq_false h, Bool.false_and]
    rw [hg]
    go_enter Tryz.func13, Tryz.ntmps13
    go_wp2
    go_ret
    exact ⟨rfl, Below.refl _ _⟩
end Go.Proofs.YtlmcglaajmjanaaGreatDoor
