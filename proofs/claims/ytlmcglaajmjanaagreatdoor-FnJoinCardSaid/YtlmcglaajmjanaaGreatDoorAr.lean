/- Walks of the reference: AreArgs; of the laws: printed, built. -/
import Derived.Test.YtlmcglaajmjanaaGreatDoorSq
namespace Go.Proofs.YtlmcglaajmjanaaGreatDoor
open Go.RowKit
attribute [local irreducible] Utf8.encode Utf8.decode
/-- v is a slice of ints that reads ks. -/
def IntsAt (w : World) (v : Value) (ks : List Int) : Prop :=
  ∃ (b c : Nat), v = .slice (some ⟨b, 0, none⟩) ks.length c ∧ ks.length ≤ c ∧ c ≤ 1000 ∧ ∀ j (h : j < ks.length), w.cell? ⟨b, j, none⟩ = some (.int .i64 (ks[j]'h))
theorem und_ints : Tryz.prog.underlying 25 = some (.slice (Tryz.prog.elem 25)) := by
  have e : Tryz.prog.elem 25 = 3 := by kernel_rfl
  rw [e]; exact Tryz.underlying25
theorem elem_ints : Tryz.prog.elem 25 = 3 := by kernel_rfl
theorem IntsAt.below {w w' : World} {v : Value} {ks : List Int} (h : IntsAt w v ks) (hb : Below w.heap.size w w') : IntsAt w' v ks := by
  obtain ⟨b, c, hv, hc, hm, hx⟩ := h
  exact ⟨b, c, hv, hc, hm, fun j hj => by rw [hb.cell (World.block_lt_of_cell? w _ (hx j hj))]; exact hx j hj⟩
theorem IntsAt.len {w : World} {v : Value} {ks : List Int} (h : IntsAt w v ks) (ty : TypeId) : ∀ w', (Builtin.len_ #[25] ty #[v]).run Tryz.prog w' = .ok (.int .i64 ks.length) w' := by
  obtain ⟨b, c, rfl, hc, hm, hx⟩ := h
  intro w'
  exact run_len_slice w' _ _ _ _ _ und_ints
theorem IntsAt.at_ {w : World} {v : Value} {ks : List Int} (h : IntsAt w v ks) (i : Nat) (h1 : i < ks.length) :
    ∃ a : Addr, (∀ w', (Instr.indexAt 25 v (.int .i64 i)).run Tryz.prog w' = .ok (.pointer (some a)) w') ∧ ∀ W, IntsAt W v ks → W.cell? a = some (.int .i64 (ks[i]'h1)) := by
  obtain ⟨b, c, rfl, hc, hm, hx⟩ := h
  refine ⟨⟨b, i, none⟩, fun w' => ?_, ?_⟩
  · have h3 : ¬ ks.length ≤ i := by omega
    simp [Instr.indexAt, asIntOf, run_underlying und_ints, elem_ints, h3, add_plain]
  · rintro W ⟨b2, c2, hv, hc2, hm2, hx2⟩
    injection hv with e1 e2 e3
    injection e1 with e1
    injection e1 with e1 _ _
    subst e1
    exact hx2 i h1
def IntsQ (ks : List Int) (w : World) (e : Ending) (w' : World) : Prop := ∃ v, e = .returned v ∧ Hid (IntsAt w' v ks) ∧ Below w.heap.size w w'
def prKinds : List Int := [0, 1, 2, 3, 4, 5]
def buKinds : List Int := [0, 1, 3, 4, 5, 6, 7, 8, 9, 10]
theorem ints_new (w : World) (ks : List Int) (h : ks.length ≤ 1000) : IntsAt (w.alloc (.cells (ks.map fun k => Value.int .i64 k).toArray 3)) (.slice (some ⟨w.heap.size, 0, none⟩) ks.length ks.length) ks :=
  ⟨w.heap.size, ks.length, rfl, Nat.le_refl _, h, fun j hj => by rw [cell_new]; simp [hj]⟩
theorem printed_any (w : World) : Calls Tryz.prog 15 #[] w (IntsQ prKinds w) := by
  go_enter Tryz.func15, Tryz.ntmps15
  go_wp2
  go_ret
  exact ⟨_, rfl, ints_new w prKinds (by decide), (Below.refl _ _).alloc (Nat.le_refl _) _⟩
theorem built_any (w : World) : Calls Tryz.prog 36 #[] w (IntsQ buKinds w) := by
  go_enter Tryz.func36, Tryz.ntmps36
  go_wp2
  go_ret
  exact ⟨_, rfl, ints_new w buKinds (by decide), (Below.refl _ _).alloc (Nat.le_refl _) _⟩
def numBad (a : AArg) : Bool := decide (7 ≤ a.kind) && (decide (a.n < 0) || decide (127 < a.n))
def argB (ks : List Int) (a : AArg) : Bool :=
  ks.any (fun k => a.kind == k) && plainB a.text.data.toList && !(a.kind == 1 && !safeB a.text.data.toList) && !(a.kind == 4 && !markB a.text.data.toList) && !numBad a
def areB (ks : List Int) (l : List AArg) : Bool := decide (l.length ≤ 10) && l.all (argB ks)
theorem any_take {ks : List Int} {kd : Int} {j : Nat} (hj : j < ks.length) : (ks.take (j + 1)).any (fun k => kd == k) = ((ks.take j).any (fun k => kd == k) || kd == ks[j]'hj) := by
  rw [List.take_succ_eq_append_getElem hj, List.any_append]; simp
set_option maxHeartbeats 4000000 in
set_option maxRecDepth 100000 in
theorem areArgs_any (v kv : Value) (l : List AArg) (ks : List Int) (w : World) (hA : ArgsAt w v l) (hK : IntsAt w kv ks) (hks : ks.length ≤ 20) (ht : TextOk l) :
    Calls Tryz.prog 14 #[v, kv] w (BoolQ (areB ks l) w) := by
  have hlen := fun ty => hA.len ty
  have hklen := fun ty => hK.len ty
  have hle := hA.le
  have HA := Lib.hid hA; clear hA
  have HK := Lib.hid hK; clear hK
  have HT := Lib.hid ht; clear ht
  by_cases h10 : l.length ≤ 10
  · have hg : areB ks l = (l.drop 0).all (argB ks) := by unfold areB; rw [decide_eq_true h10, Bool.true_and]; rfl
    generalize areB ks l = g at hg ⊢
    have HG := Lib.hid hg; clear hg
    go_enter Tryz.func14, Tryz.ntmps14
    go_wp2_with fail
    go_loopw [15] (fun i wr => ∃ k : Nat, i = .int .i64 k ∧ k ≤ l.length ∧ Hid ((l.drop k).all (argB ks) = g) ∧ Below w.heap.size w wr)
      (fun i _ => l.length - (intOf i).toNat)
    case atStart => exact ⟨0, rfl, Nat.zero_le _, HG.out.symm, Below.refl _ _⟩
    case round =>
      obtain ⟨k, rfl, hk, hacc, hnx⟩ := hrel
      by_cases hlt : k < l.length
      ·
        obtain ⟨qb, qo, hix, hld0⟩ := HA.out.at_ k hlt
        obtain ⟨c0, c1, c2⟩ := hld0 wr (HA.out.below hnx)
        clear hld0
        obtain ⟨kd, tx, nn, hx⟩ : ∃ kd tx nn, l[k]'hlt = ⟨kd, tx, nn⟩ := ⟨_, _, _, rfl⟩
        rw [hx] at c0 c1 c2
        dsimp only at c0 c1 c2
        have HX := Lib.hid hx; clear hx
        have hwz := hnx.size
        have HS := Lib.hid (all_drop hlt hacc.out)
        rw [HX.out] at HS
        have htx : tx.size ≤ 9223372036854775807 := by have := HT.out _ (List.getElem_mem hlt); rw [HX.out] at this; exact this
        have HB1 := Lib.hid (hnx.alloc (o := .cells #[.int .i64 kd, .string tx, .int .i64 nn] 47) hwz)
        go_wp2_with fail
        go_loop [7, 21] (fun kn jv => ∃ j : Nat, j ≤ ks.length ∧ jv = .int .i64 j ∧ kn = .bool ((ks.take j).any fun k => kd == k)) (fun _ jv => ks.length - (intOf jv).toNat)
        case atStart => exact ⟨0, Nat.zero_le _, rfl, rfl⟩
        case round =>
          obtain ⟨j, hj, rfl, rfl⟩ := hrel
          by_cases hjl : j < ks.length
          · obtain ⟨ka, hkx, hkc⟩ := HK.out.at_ j hjl
            have hkc := hkc _ (HK.out.below HB1.out)
            have HTK := Lib.hid (any_take (kd := kd) hjl)
            obtain ⟨kj, hkj⟩ : ∃ kj, ks[j]'hjl = kj := ⟨_, rfl⟩
            rw [hkj] at hkc HTK
            clear hkj
            obtain ⟨kn, hkn⟩ : ∃ kn, ((ks.take j).any fun k => kd == k) = kn := ⟨_, rfl⟩
            rw [hkn] at HTK ⊢
            clear hkn
            cases kn with
            | true =>
              have HTK : Hid (((ks.take (j + 1)).any fun k => kd == k) = true) := HTK.out
              go_wp2_with fail
              go_round
              case rel => exact ⟨j + 1, by omega, by go_num, by rw [HTK.out]⟩
              case measure => simp [intOf]; omega
            | false =>
              have HTK : Hid (((ks.take (j + 1)).any fun k => kd == k) = (kd == kj)) := by show _ = _; rw [HTK.out, Bool.false_or]
              go_wp2_with fail
              go_round
              case rel => exact ⟨j + 1, by omega, by go_num, by rw [HTK.out]⟩
              case measure => simp [intOf]; omega
          · obtain rfl : j = ks.length := by omega
            rw [List.take_length]
            have HARG : Hid (argB ks ⟨kd, tx, nn⟩ = (ks.any (fun k => kd == k) && plainB tx.data.toList && !(kd == 1 && !safeB tx.data.toList) && !(kd == 4 && !markB tx.data.toList) && !numBad ⟨kd, tx, nn⟩)) := rfl
            have HPL := Lib.hid (fun w => isPlain_any tx w htx)
            have HSF := Lib.hid (fun w => isSafe_any tx w htx)
            have HMK := Lib.hid (fun w => isMarked_any tx w htx)
            generalize plainB tx.data.toList = pl at HARG HPL
            generalize safeB tx.data.toList = sf at HARG HSF
            generalize markB tx.data.toList = mk at HARG HMK
            generalize ks.any (fun k => kd == k) = kn at HARG ⊢
            cases kn with
            | false =>
              have hg : g = false := HS.out.1 (by rw [HARG.out]; rfl)
              subst hg
              go_wp2_with fail
              go_ret
              exact ⟨rfl, HB1.out⟩
            | true =>
              cases pl with
              | false =>
                have hg : g = false := HS.out.1 (by rw [HARG.out]; rfl)
                subst hg
                go_wp2_with fail
                refine (HPL.out _).mono ?_
                rintro e w2 ⟨rfl, hb2⟩
                go_wp2_with fail
                go_ret
                exact ⟨rfl, HB1.out.trans (hb2.mono HB1.out.size)⟩
              | true =>
                go_wp2_with fail
                refine (HPL.out _).mono ?_
                rintro e w2 ⟨rfl, hb2⟩
                have r0 : w2.cell? ⟨wr.heap.size, 0, none⟩ = some (.int .i64 kd) := (hb2.cell (p := ⟨wr.heap.size, 0, none⟩) (by simp)).trans (cell_new _ _ _ _)
                have r1 : w2.cell? ⟨wr.heap.size, 1, none⟩ = some (.string tx) := (hb2.cell (p := ⟨wr.heap.size, 1, none⟩) (by simp)).trans (cell_new _ _ _ _)
                have r2 : w2.cell? ⟨wr.heap.size, 2, none⟩ = some (.int .i64 nn) := (hb2.cell (p := ⟨wr.heap.size, 2, none⟩) (by simp)).trans (cell_new _ _ _ _)
                have HB2 := Lib.hid (HB1.out.trans (hb2.mono HB1.out.size))
                have HBR := Lib.hid hb2; clear hb2
                by_cases k1 : kd = 1
                · subst k1
                  cases sf with
                  | false =>
                    have hg : g = false := HS.out.1 (by rw [HARG.out]; rfl)
                    subst hg
                    go_wp2_with fail
                    refine (HSF.out _).mono ?_
                    rintro e w3 ⟨rfl, hb3⟩
                    go_wp2_with fail
                    go_ret
                    exact ⟨rfl, HB2.out.trans (hb3.mono HB2.out.size)⟩
                  | true =>
                    have HR := Lib.hid (HS.out.2 (by rw [HARG.out]; rfl))
                    clear r0 r1 r2
                    have r0 : w2.cell? ⟨wr.heap.size, 0, none⟩ = some (.int .i64 1) := (HBR.out.cell (p := ⟨wr.heap.size, 0, none⟩) (by simp)).trans (cell_new _ _ _ _)
                    have r1 : w2.cell? ⟨wr.heap.size, 1, none⟩ = some (.string tx) := (HBR.out.cell (p := ⟨wr.heap.size, 1, none⟩) (by simp)).trans (cell_new _ _ _ _)
                    go_wp2_with fail
                    refine (HSF.out _).mono ?_
                    rintro e w3 ⟨rfl, hb3⟩
                    have r3 : w3.cell? ⟨wr.heap.size, 0, none⟩ = some (.int .i64 1) := (hb3.cell (p := ⟨wr.heap.size, 0, none⟩) (World.block_lt_of_cell? _ _ r0)).trans r0
                    have HB3 := Lib.hid (HB2.out.trans (hb3.mono HB2.out.size)); clear hb3
                    go_wp2_with fail
                    go_roundw
                    case rel => exact ⟨k + 1, by go_num, by omega, HR.out, HB3.out⟩
                    case measure => simp [intOf]; omega
                · have k1b : (kd == 1) = false := beq_eq_false_iff_ne.2 k1
                  by_cases k4 : kd = 4
                  · subst k4
                    clear k1
                    cases mk with
                    | false =>
                      have hg : g = false := HS.out.1 (by rw [HARG.out]; rfl)
                      subst hg
                      go_wp2_with fail
                      refine (HMK.out _).mono ?_
                      rintro e w3 ⟨rfl, hb3⟩
                      go_wp2_with fail
                      go_ret
                      exact ⟨rfl, HB2.out.trans (hb3.mono HB2.out.size)⟩
                    | true =>
                      have HR := Lib.hid (HS.out.2 (by rw [HARG.out]; rfl))
                      go_wp2_with fail
                      refine (HMK.out _).mono ?_
                      rintro e w3 ⟨rfl, hb3⟩
                      have r3 : w3.cell? ⟨wr.heap.size, 0, none⟩ = some (.int .i64 4) := (hb3.cell (p := ⟨wr.heap.size, 0, none⟩) (World.block_lt_of_cell? _ _ r0)).trans r0
                      have HB3 := Lib.hid (HB2.out.trans (hb3.mono HB2.out.size)); clear hb3
                      go_wp2_with fail
                      go_roundw
                      case rel => exact ⟨k + 1, by go_num, by omega, HR.out, HB3.out⟩
                      case measure => simp [intOf]; omega
                  · have k4b : (kd == 4) = false := beq_eq_false_iff_ne.2 k4
                    have HARG : Hid (argB ks ⟨kd, tx, nn⟩ = !(decide (7 ≤ kd) && (decide (nn < 0) || decide (127 < nn)))) := by show _ = _; rw [HARG.out, k1b, k4b]; rfl
                    clear k1 k4
                    by_cases k7 : 7 ≤ kd
                    · have d7 : decide (7 ≤ kd) = true := decide_eq_true k7
                      by_cases n0 : nn < 0
                      · have d0 : decide (nn < 0) = true := decide_eq_true n0
                        have hg : g = false := HS.out.1 (by rw [HARG.out, d7, d0]; rfl)
                        subst hg
                        clear k7 n0
                        go_wp2_with fail
                        go_ret
                        exact ⟨rfl, HB2.out⟩
                      · have d0 : decide (nn < 0) = false := decide_eq_false n0
                        by_cases n1 : 127 < nn
                        · have d1 : decide (127 < nn) = true := decide_eq_true n1
                          have hg : g = false := HS.out.1 (by rw [HARG.out, d7, d0, d1]; rfl)
                          subst hg
                          clear k7 n0 n1
                          go_wp2_with fail
                          go_ret
                          exact ⟨rfl, HB2.out⟩
                        · have d1 : decide (127 < nn) = false := decide_eq_false n1
                          have HR := Lib.hid (HS.out.2 (by rw [HARG.out, d7, d0, d1]; rfl))
                          clear k7 n0 n1
                          go_wp2_with fail
                          go_roundw
                          case rel => exact ⟨k + 1, by go_num, by omega, HR.out, HB2.out⟩
                          case measure => simp [intOf]; omega
                    · have d7 : decide (7 ≤ kd) = false := decide_eq_false k7
                      have HR := Lib.hid (HS.out.2 (by rw [HARG.out, d7]; rfl))
                      clear k7
                      go_wp2_with fail
                      go_roundw
                      case rel => exact ⟨k + 1, by go_num, by omega, HR.out, HB2.out⟩
                      case measure => simp [intOf]; omega
      · have hfin : g = true := by
          have h := hacc.out
          rw [List.drop_of_length_le (by omega)] at h
          exact h.symm
        subst hfin
        go_wp2_with fail
        go_ret
        exact ⟨rfl, hnx⟩
  · have hg : areB ks l = false := by unfold areB; rw [decide_eq_false h10, Bool.false_and]
    rw [hg]
    clear hg
    go_enter Tryz.func14, Tryz.ntmps14
    go_wp2_with fail
    go_ret
    exact ⟨rfl, Below.refl _ _⟩
end Go.Proofs.YtlmcglaajmjanaaGreatDoor
