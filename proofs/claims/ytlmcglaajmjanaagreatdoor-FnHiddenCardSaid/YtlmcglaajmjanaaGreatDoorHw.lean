/- Walks: spec.hasLine, spec.Alike, laws.fit. -/
import Derived.Test.YtlmcglaajmjanaaGreatDoorHp
import Derived.Test.YtlmcglaajmjanaaGreatDoorZn
namespace Go.Proofs.YtlmcglaajmjanaaGreatDoor
open Go.RowKit
attribute [local irreducible] Utf8.encode Utf8.decode
def LineQ (s : ByteArray) (w : World) (e : Ending) (w' : World) : Prop := ∃ b : Bool, e = .returned (.bool b) ∧ Hid (b = false → (10 : UInt8) ∉ s.data.toList) ∧ w = w'
theorem hasLine_any (s : ByteArray) (w : World) (hs : s.size ≤ 9223372036854775807) : Calls Tryz.prog 66 #[.string s] w (LineQ s w) := by
  go_enter Tryz.func66, Tryz.ntmps66
  go_wp2_with fail
  go_loopw [3] (fun jv wx => ∃ j : Nat, jv = .int .i64 j ∧ j ≤ s.size ∧ Hid ((10 : UInt8) ∉ s.data.toList.take j) ∧ w = wx)
    (fun jv _ => s.size - (intOf jv).toNat)
  case atStart => exact ⟨0, rfl, Nat.zero_le _, (by first | (show True; trivial) | (show ¬ _; simp)), by trivial⟩
  case round =>
    obtain ⟨j, rfl, hj, hno, rfl⟩ := hrel
    by_cases hjl : j < s.size
    · have hix := idx_run s j hjl
      obtain ⟨c, hc⟩ : ∃ c, s.data.toList.getD j 0 = c := ⟨_, rfl⟩
      simp only [hc] at hix
      by_cases h10 : c = 10
      · have t10 : ((c.toNat : Int) == 10) = true := by rw [h10]; rfl
        clear h10 hc
        go_wp2_with fail
        go_ret
        exact ⟨true, rfl, fun h => (by cases h), rfl⟩
      · have t10 : ((c.toNat : Int) == 10) = false := u8_int (y := 10) h10
        have hjl' : j < s.data.toList.length := by rw [← Lib.size_eq]; exact hjl
        have HN : Hid ((10 : UInt8) ∉ s.data.toList.take (j + 1)) := take_no hno.out hjl' (by rw [hc]; exact h10)
        clear h10 hc hjl'
        go_wp2_with fail
        go_roundw
        case rel => exact ⟨j + 1, by go_num, by omega, HN.out, by trivial⟩
        case measure => simp [intOf]; omega
    · have HN : Hid ((10 : UInt8) ∉ s.data.toList) := by
        have := hno.out
        rwa [List.take_of_length_le (by rw [← Lib.size_eq]; omega)] at this
      go_wp2_with fail
      go_ret
      exact ⟨false, rfl, fun _ => HN.out, rfl⟩
def fitB (a b : ByteArray) : Bool := decide (a.size ≤ 400) && decide (b.size ≤ 400)
theorem fit_any (a b : ByteArray) (w : World) : Calls Tryz.prog 40 #[.string a, .string b] w fun e w' => e = .returned (.bool (fitB a b)) ∧ w = w' := by
  unfold fitB
  by_cases h : a.size ≤ 400
  · rw [decide_eq_true h, Bool.true_and]
    cases hd : decide (b.size ≤ 400) with
    | true =>
      have hd2 : decide ((b.size : Int) ≤ 400) = true := by simp at hd ⊢; omega
      have hd1 : decide ((a.size : Int) ≤ 400) = true := by simp; omega
      have hb : b.size ≤ 400 := by simpa using hd
      clear hd
      go_enter Tryz.func40, Tryz.ntmps40
      go_wp2_with fail
      go_ret
      exact ⟨rfl, rfl⟩
    | false =>
      have hd2 : decide ((b.size : Int) ≤ 400) = false := by simp at hd ⊢; omega
      have hd1 : decide ((a.size : Int) ≤ 400) = true := by simp; omega
      have hb : ¬ b.size ≤ 400 := by simpa using hd
      clear hd
      go_enter Tryz.func40, Tryz.ntmps40
      go_wp2_with fail
      go_ret
      exact ⟨rfl, rfl⟩
  · rw [decide_eq_false h, Bool.false_and]
    have hd1 : decide ((a.size : Int) ≤ 400) = false := by simp; omega
    go_enter Tryz.func40, Tryz.ntmps40
    go_wp2_with fail
    go_ret
    exact ⟨rfl, rfl⟩
def AlkQ (l m : List AArg) (w : World) (e : Ending) (w' : World) : Prop := ∃ b : Bool, e = .returned (.bool b) ∧ Hid (b = true → Alks l m) ∧ Below w.heap.size w w'
theorem alks_take {l m : List AArg} {k : Nat} (hl : k < l.length) (hm : k < m.length) (h : Alks (l.take k) (m.take k)) (ha : Alk (l[k]'hl) (m[k]'hm)) : Alks (l.take (k + 1)) (m.take (k + 1)) := by
  rw [List.take_succ_eq_append_getElem hl, List.take_succ_eq_append_getElem hm]
  exact h.snoc ha
theorem nonempty_of {s : ByteArray} (h : s.toList.isEmpty = false) : s.data.toList ≠ [] := by
  rw [Lib.toList_data] at h
  intro e
  rw [e] at h
  cases h
set_option maxHeartbeats 4000000 in
set_option maxRecDepth 100000 in
theorem alike_any (v1 v2 : Value) (l m : List AArg) (w : World) (hA : ArgsAt w v1 l) (hM : ArgsAt w v2 m) (htl : TextOk l) (htm : TextOk m) (hl : l.length ≤ 10) :
    Calls Tryz.prog 39 #[v1, v2] w (AlkQ l m w) := by
  have hlen := fun ty => hA.len ty
  have hmen := fun ty => hM.len ty
  have HA := Lib.hid hA; clear hA
  have HM := Lib.hid hM; clear hM
  have HTL := Lib.hid htl; clear htl
  have HTM := Lib.hid htm; clear htm
  by_cases hlm : l.length = m.length
  · have HLM := Lib.hid hlm
    rw [← hlm] at hmen
    have hml : m.length ≤ 10 := by omega
    clear hlm
    go_enter Tryz.func39, Tryz.ntmps39
    go_wp2_with fail
    go_loopw [15] (fun i wr => ∃ k : Nat, i = .int .i64 k ∧ k ≤ l.length ∧ Hid (Alks (l.take k) (m.take k)) ∧ Below w.heap.size w wr)
      (fun i _ => l.length - (intOf i).toNat)
    case atStart => exact ⟨0, rfl, Nat.zero_le _, trivial, Below.refl _ _⟩
    case round =>
      obtain ⟨k, rfl, hk, hst, hnx⟩ := hrel
      by_cases hlt : k < l.length
      · have hlt2 : k < m.length := by have := HLM.out; omega
        obtain ⟨qb, qo, hix, hld0⟩ := HA.out.at_ k hlt
        obtain ⟨c0, c1, c2⟩ := hld0 wr (HA.out.below hnx)
        clear hld0
        obtain ⟨qb2, qo2, hix2, hld2⟩ := HM.out.at_ k hlt2
        have htx := HTL.out _ (List.getElem_mem hlt)
        have htx2 := HTM.out _ (List.getElem_mem hlt2)
        have HST : Hid (Alk (l[k]'hlt) (m[k]'hlt2) → Alks (l.take (k + 1)) (m.take (k + 1))) := alks_take hlt hlt2 hst.out
        obtain ⟨kd, tx, nn, hx⟩ : ∃ kd tx nn, l[k]'hlt = ⟨kd, tx, nn⟩ := ⟨_, _, _, rfl⟩
        obtain ⟨kd2, tx2, nn2, hx2⟩ : ∃ kd tx nn, m[k]'hlt2 = ⟨kd, tx, nn⟩ := ⟨_, _, _, rfl⟩
        rw [hx] at c0 c1 c2 htx HST
        rw [hx2] at hld2 htx2 HST
        dsimp only at c0 c1 c2 htx htx2
        clear hx hx2
        have hwz := hnx.size
        have hb1 : Below w.heap.size w (wr.alloc (.cells #[.int .i64 kd, .string tx, .int .i64 nn] 47)) := hnx.alloc hwz _
        obtain ⟨e0, e1, e2⟩ := hld2 _ (HM.out.below hb1)
        obtain ⟨g0, g1, g2⟩ := hld2 wr (HM.out.below hnx)
        dsimp only at e0 e1 e2 g0 g1 g2
        clear hld2
        have HL1 := Lib.hid (fun w => hasLine_any tx w htx)
        have HL2 := Lib.hid (fun w => hasLine_any tx2 w htx2)
        have HB2 : Hid (Below w.heap.size w ((wr.alloc (.cells #[.int .i64 kd, .string tx, .int .i64 nn] 47)).alloc (.cells #[.int .i64 kd2, .string tx2, .int .i64 nn2] 47))) := hb1.alloc (Nat.le_trans hwz (by simp)) _
        clear hb1
        by_cases hkk : kd = kd2
        · subst hkk
          by_cases h0 : kd = 0
          · subst h0
            cases h1 : tx.toList.isEmpty with
            | true =>
              go_wp2_with fail
              go_ret
              exact ⟨false, rfl, fun h => (by cases h), HB2.out⟩
            | false =>
              cases h2 : tx2.toList.isEmpty with
              | true =>
                go_wp2_with fail
                go_ret
                exact ⟨false, rfl, fun h => (by cases h), HB2.out⟩
              | false =>
                have HE := Lib.hid (And.intro h1 h2)
                go_wp2_with fail
                refine (HL1.out _).mono ?_
                rintro e w2 ⟨b, rfl, hb1, rfl⟩
                cases b with
                | true =>
                  go_wp2_with fail
                  go_ret
                  exact ⟨false, rfl, fun h => (by cases h), HB2.out⟩
                | false =>
                  have HN1 := Lib.hid (hb1.out rfl); clear hb1
                  go_wp2_with fail
                  refine (HL2.out _).mono ?_
                  rintro e w2 ⟨b, rfl, hb1, rfl⟩
                  cases b with
                  | true =>
                    go_wp2_with fail
                    go_ret
                    exact ⟨false, rfl, fun h => (by cases h), HB2.out⟩
                  | false =>
                    have HN2 := Lib.hid (hb1.out rfl); clear hb1
                    have HAL := Lib.hid (HST.out ⟨rfl, fun _ => ⟨nonempty_of HE.out.1, nonempty_of HE.out.2, HN1.out, HN2.out⟩, fun h => by dsimp only at h; omega, fun h => by dsimp only at h; omega⟩)
                    clear h1 h2
                    go_wp2_with fail
                    go_roundw
                    case rel => exact ⟨k + 1, by go_num, by omega, HAL.out, HB2.out⟩
                    case measure => simp [intOf]; omega
          · have t0 : (kd == 0) = false := beq_eq_false_iff_ne.2 h0
            by_cases h5 : kd = 5
            · subst h5
              clear h0 t0
              cases h1 : tx.toList.isEmpty with
              | true =>
                go_wp2_with fail
                go_ret
                exact ⟨false, rfl, fun h => (by cases h), HB2.out⟩
              | false =>
                cases h2 : tx2.toList.isEmpty with
                | true =>
                  go_wp2_with fail
                  go_ret
                  exact ⟨false, rfl, fun h => (by cases h), HB2.out⟩
                | false =>
                  have HE := Lib.hid (And.intro h1 h2)
                  go_wp2_with fail
                  refine (HL1.out _).mono ?_
                  rintro e w2 ⟨b, rfl, hb1, rfl⟩
                  cases b with
                  | true =>
                    go_wp2_with fail
                    go_ret
                    exact ⟨false, rfl, fun h => (by cases h), HB2.out⟩
                  | false =>
                    have HN1 := Lib.hid (hb1.out rfl); clear hb1
                    go_wp2_with fail
                    refine (HL2.out _).mono ?_
                    rintro e w2 ⟨b, rfl, hb1, rfl⟩
                    cases b with
                    | true =>
                      go_wp2_with fail
                      go_ret
                      exact ⟨false, rfl, fun h => (by cases h), HB2.out⟩
                    | false =>
                      have HN2 := Lib.hid (hb1.out rfl); clear hb1
                      have HAL := Lib.hid (HST.out ⟨rfl, fun _ => ⟨nonempty_of HE.out.1, nonempty_of HE.out.2, HN1.out, HN2.out⟩, fun h => by dsimp only at h; omega, fun h => by dsimp only at h; omega⟩)
                      clear h1 h2
                      go_wp2_with fail
                      go_roundw
                      case rel => exact ⟨k + 1, by go_num, by omega, HAL.out, HB2.out⟩
                      case measure => simp [intOf]; omega
            · have t5 : (kd == 5) = false := beq_eq_false_iff_ne.2 h5
              by_cases h6 : kd = 6
              · subst h6
                clear h0 t0 h5 t5
                cases h1 : tx.toList.isEmpty with
                | true =>
                  go_wp2_with fail
                  go_ret
                  exact ⟨false, rfl, fun h => (by cases h), HB2.out⟩
                | false =>
                  cases h2 : tx2.toList.isEmpty with
                  | true =>
                    go_wp2_with fail
                    go_ret
                    exact ⟨false, rfl, fun h => (by cases h), HB2.out⟩
                  | false =>
                    have HE := Lib.hid (And.intro h1 h2)
                    go_wp2_with fail
                    refine (HL1.out _).mono ?_
                    rintro e w2 ⟨b, rfl, hb1, rfl⟩
                    cases b with
                    | true =>
                      go_wp2_with fail
                      go_ret
                      exact ⟨false, rfl, fun h => (by cases h), HB2.out⟩
                    | false =>
                      have HN1 := Lib.hid (hb1.out rfl); clear hb1
                      go_wp2_with fail
                      refine (HL2.out _).mono ?_
                      rintro e w2 ⟨b, rfl, hb1, rfl⟩
                      cases b with
                      | true =>
                        go_wp2_with fail
                        go_ret
                        exact ⟨false, rfl, fun h => (by cases h), HB2.out⟩
                      | false =>
                        have HN2 := Lib.hid (hb1.out rfl); clear hb1
                        have HAL := Lib.hid (HST.out ⟨rfl, fun _ => ⟨nonempty_of HE.out.1, nonempty_of HE.out.2, HN1.out, HN2.out⟩, fun h => by dsimp only at h; omega, fun h => by dsimp only at h; omega⟩)
                        clear h1 h2
                        go_wp2_with fail
                        go_roundw
                        case rel => exact ⟨k + 1, by go_num, by omega, HAL.out, HB2.out⟩
                        case measure => simp [intOf]; omega
              · have t6 : (kd == 6) = false := beq_eq_false_iff_ne.2 h6
                by_cases h7 : kd = 7
                · subst h7
                  clear h0 t0 h5 t5 h6 t6
                  cases h1 : nn == 10 with
                  | true =>
                    go_wp2_with fail
                    go_ret
                    exact ⟨false, rfl, fun h => (by cases h), HB2.out⟩
                  | false =>
                    cases h2 : nn2 == 10 with
                    | true =>
                      go_wp2_with fail
                      go_ret
                      exact ⟨false, rfl, fun h => (by cases h), HB2.out⟩
                    | false =>
                      have HAL := Lib.hid (HST.out ⟨rfl, fun h => by dsimp only at h; omega, fun _ => ⟨beq_eq_false_iff_ne.1 h1, beq_eq_false_iff_ne.1 h2⟩, fun h => by dsimp only at h; omega⟩)
                      go_wp2_with fail
                      go_roundw
                      case rel => exact ⟨k + 1, by go_num, by omega, HAL.out, HB2.out⟩
                      case measure => simp [intOf]; omega
                · have t7 : (kd == 7) = false := beq_eq_false_iff_ne.2 h7
                  by_cases h9 : kd = 9
                  · subst h9
                    clear h0 t0 h5 t5 h6 t6 h7 t7
                    cases h1 : nn == 10 with
                    | true =>
                      go_wp2_with fail
                      go_ret
                      exact ⟨false, rfl, fun h => (by cases h), HB2.out⟩
                    | false =>
                      cases h2 : nn2 == 10 with
                      | true =>
                        go_wp2_with fail
                        go_ret
                        exact ⟨false, rfl, fun h => (by cases h), HB2.out⟩
                      | false =>
                        have HAL := Lib.hid (HST.out ⟨rfl, fun h => by dsimp only at h; omega, fun _ => ⟨beq_eq_false_iff_ne.1 h1, beq_eq_false_iff_ne.1 h2⟩, fun h => by dsimp only at h; omega⟩)
                        go_wp2_with fail
                        go_roundw
                        case rel => exact ⟨k + 1, by go_num, by omega, HAL.out, HB2.out⟩
                        case measure => simp [intOf]; omega
                  · have t9 : (kd == 9) = false := beq_eq_false_iff_ne.2 h9
                    by_cases h2 : kd = 2
                    · subst h2
                      clear h0 t0 h5 t5 h6 t6 h7 t7 h9 t9
                      have HAL := Lib.hid (HST.out ⟨rfl, fun h => by dsimp only at h; omega, fun h => by dsimp only at h; omega, fun h => by dsimp only at h; omega⟩)
                      go_wp2_with fail
                      go_roundw
                      case rel => exact ⟨k + 1, by go_num, by omega, HAL.out, HB2.out⟩
                      case measure => simp [intOf]; omega
                    · have t2 : (kd == 2) = false := beq_eq_false_iff_ne.2 h2
                      have t2' : (kd != 2) = true := by simp only [bne, t2, Bool.not_false]
                      cases hs : tx.toList == tx2.toList with
                      | false =>
                        have hs' : (tx.toList != tx2.toList) = true := by simp only [bne, hs, Bool.not_false]
                        clear h0 h5 h6 h7 h9 h2
                        go_wp2_with fail
                        go_ret
                        exact ⟨false, rfl, fun h => (by cases h), HB2.out⟩
                      | true =>
                        have hs' : (tx.toList != tx2.toList) = false := by simp only [bne, hs, Bool.not_true]
                        cases hn : nn == nn2 with
                        | false =>
                          have hn' : (nn != nn2) = true := by simp only [bne, hn, Bool.not_false]
                          clear h0 h5 h6 h7 h9 h2
                          go_wp2_with fail
                          go_ret
                          exact ⟨false, rfl, fun h => (by cases h), HB2.out⟩
                        | true =>
                          have hn' : (nn != nn2) = false := by simp only [bne, hn, Bool.not_true]
                          have HAL := Lib.hid (HST.out ⟨rfl, fun h => by dsimp only at h; omega, fun h => by dsimp only at h; omega, fun _ => ⟨by have := eq_of_beq hs; rwa [Lib.toList_data, Lib.toList_data] at this, eq_of_beq hn⟩⟩)
                          clear h0 h5 h6 h7 h9 h2
                          go_wp2_with fail
                          go_roundw
                          case rel => exact ⟨k + 1, by go_num, by omega, HAL.out, HB2.out⟩
                          case measure => simp [intOf]; omega
        · have tk : (kd == kd2) = false := beq_eq_false_iff_ne.2 hkk
          have tk' : (kd != kd2) = true := by simp only [bne, tk, Bool.not_false]
          clear hkk
          go_wp2_with fail
          go_ret
          exact ⟨false, rfl, fun h => (by cases h), HB2.out⟩
      · have hfin : Hid (Alks l m) := by
          have h := hst.out
          rw [List.take_of_length_le (by omega), List.take_of_length_le (by have := HLM.out; omega)] at h
          exact h
        go_wp2_with fail
        go_ret
        exact ⟨true, rfl, fun _ => hfin.out, hnx⟩
  · have t1 : ((l.length : Int) == (m.length : Int)) = false := beq_eq_false_iff_ne.2 (by omega)
    have t1' : ((l.length : Int) != (m.length : Int)) = true := by simp only [bne, t1, Bool.not_false]
    go_enter Tryz.func39, Tryz.ntmps39
    go_wp2_with fail
    go_ret
    exact ⟨false, rfl, fun h => (by cases h), Below.refl _ _⟩
end Go.Proofs.YtlmcglaajmjanaaGreatDoor
