/- Walk of spec.Sprintf: texts, and an argument put between each two of them. -/
/- Walk of spec.Format. -/
/- Walk of impl.formatOk at a format that spec.Format makes. -/
import Derived.Test.YtlmcglaajmjanaaGreatDoorZk
import Derived.Test.YtlmcglaajmjanaaGreatDoorZl
import Derived.Test.YtlmcglaajmjanaaGreatDoorZm
import Derived.Test.YtlmcglaajmjanaaGreatDoorZh
import Derived.Test.YtlmcglaajmjanaaGreatDoorZj
import Derived.Test.YtlmcglaajmjanaaGreatDoorShelf
import Derived.Lib.MapLaws
namespace Go.Proofs.YtlmcglaajmjanaaGreatDoor
open Go.RowKit
attribute [local irreducible] Utf8.encode Utf8.decode
/-- A safe text of a format. -/
structure Saf (s : ByteArray) : Prop where
  tx : Txt s (runes s)
  pc : Pce (runes s)
def putF (l : List AArg) : List (List Nat → List Nat) := l.map fun a o => putN o a
theorem sf_last {ss : List ByteArray} {l : List AArg} {g o : List Nat} {k : Nat} (h : fmtN o ((ss.drop k).map runes) (putF (l.drop k)) = g) (hk : k < ss.length) (hl : ¬ k < l.length) (hlen : ss.length = l.length + 1) : fmtN (o ++ runes (ss[k]'hk)) ((ss.drop (k + 1)).map runes) (putF (l.drop (k + 1))) = g := by
  rw [List.drop_eq_getElem_cons hk, List.drop_of_length_le (show l.length ≤ k by omega)] at h
  rw [List.drop_of_length_le (show ss.length ≤ k + 1 by omega)]
  exact h
theorem sf_more {ss : List ByteArray} {l : List AArg} {g o : List Nat} {k : Nat} (h : fmtN o ((ss.drop k).map runes) (putF (l.drop k)) = g) (hk : k < ss.length) (hl : k < l.length) : fmtN (putN (o ++ runes (ss[k]'hk)) (l[k]'hl)) ((ss.drop (k + 1)).map runes) (putF (l.drop (k + 1))) = g := by
  rw [List.drop_eq_getElem_cons hk, List.drop_eq_getElem_cons hl] at h
  exact h
set_option maxHeartbeats 2000000 in
theorem specSprintf_any (v1 v2 : Value) (ss : List ByteArray) (l : List AArg) (w : World) (hv : IfAt (· < w.heap.size) w v1 (ss.map .string)) (hA : ArgsAt w v2 l) (hlen : ss.length = l.length + 1) (hl : l.length ≤ 10) (hss : ∀ s ∈ ss, Saf s) (hok : ∀ a ∈ l, a.Ok) :
    Calls Tryz.prog 35 #[v1, v2] w (SprQ w (encs (fmtN [] (ss.map runes) (putF l)))) := by
  have hl1 := fun ty => hv.lenS ty
  rw [List.length_map] at hl1
  have hl2 := fun ty => hA.len ty
  have HV := Lib.hid hv; clear hv
  have HA := Lib.hid hA; clear hA
  have HS := Lib.hid hss; clear hss
  have HO := Lib.hid hok; clear hok
  have HLen := Lib.hid hlen
  generalize hg : fmtN [] (ss.map runes) (putF l) = g
  have HG := Lib.hid hg; clear hg
  have hsl : ss.length ≤ 11 := by omega
  clear hlen
  go_enter Tryz.func35, Tryz.ntmps35
  go_wp2_with fail
  go_loopw [10, 5] (fun i ov wr => ∃ (k : Nat) (acc : ByteArray) (o : List Nat), i = .int .i64 k ∧ ov = .string acc ∧ k ≤ ss.length ∧ Hid (acc.data.toList = encs o ∧ fmtN o ((ss.drop k).map runes) (putF (l.drop k)) = g ∧ GoodT o (510 * k)) ∧ Below w.heap.size w wr)
    (fun i _ _ => ss.length - (intOf i).toNat)
  case atStart => exact ⟨0, ⟨#[]⟩, [], rfl, rfl, Nat.zero_le _, ⟨rfl, HG.out, GoodT.nil⟩, Below.refl _ _⟩
  case round =>
    obtain ⟨k, acc, o, rfl, rfl, hk, hst, hnx⟩ := hrel
    by_cases hlt : k < ss.length
    · obtain ⟨qa, hix, hcell⟩ := HV.out.atS k (by rw [List.length_map]; exact hlt)
      have hc := hcell wr (HV.out.kp (Kp.of_below (fun _ h => h) hnx))
      rw [List.getElem_map] at hc
      clear hcell
      have HX := Lib.hid (HS.out _ (List.getElem_mem hlt))
      have hasz : acc.size ≤ 6000 := by have := str_size hst.out.1; have := hst.out.2.2.le; omega
      have hxz := HX.out.tx.le
      by_cases hla : k < l.length
      · have hd : decide ((k : Int) < (l.length : Int)) = true := by simp; omega
        obtain ⟨qb, qo, hix2, hld⟩ := HA.out.at_ k hla
        obtain ⟨c0, c1, c2⟩ := hld wr (HA.out.below hnx)
        clear hld
        have HST := Lib.hid (sf_more hst.out.2.1 hlt hla)
        have HOK := Lib.hid (HO.out _ (List.getElem_mem hla))
        obtain ⟨kd, tx, nn, hy⟩ : ∃ kd tx nn, l[k]'hla = ⟨kd, tx, nn⟩ := ⟨_, _, _, rfl⟩
        rw [hy] at c0 c1 c2 HST HOK
        dsimp only at c0 c1 c2
        clear hy
        obtain ⟨x, hx⟩ : ∃ x, ss[k]'hlt = x := ⟨_, rfl⟩
        rw [hx] at hc HX hxz HST
        clear hx
        obtain ⟨z, hadz, hzsz, Hz⟩ := add_ex Tryz.prog acc x (by omega)
        have HZ : Hid (z.data.toList = encs (o ++ runes x)) := by show _ = _; rw [Hz.out, hst.out.1, HX.out.tx.en, encs_append]
        have HGZ := Lib.hid (hst.out.2.2.piece HX.out.pc)
        clear Hz
        go_wp2_with fail
        refine (specPut_any z (o ++ runes x) ⟨kd, tx, nn⟩ _ HZ.out (HGZ.out.mono (by omega)) HOK.out).mono ?_
        rintro e w4 ⟨y, rfl, hy, hb4⟩
        have HN := Lib.hid (hnx.trans (hb4.mono hnx.size)); clear hb4
        go_wp2_with fail
        go_roundw
        case rel => exact ⟨k + 1, y, _, by go_num, rfl, by omega, ⟨hy.out, HST.out, (HGZ.out.put HOK.out).mono (by omega)⟩, HN.out⟩
        case measure => simp [intOf]; omega
      · have hd : decide ((k : Int) < (l.length : Int)) = false := by simp; omega
        have HST := Lib.hid (sf_last hst.out.2.1 hlt hla HLen.out)
        obtain ⟨x, hx⟩ : ∃ x, ss[k]'hlt = x := ⟨_, rfl⟩
        rw [hx] at hc HX hxz HST
        clear hx
        obtain ⟨z, hadz, hzsz, Hz⟩ := add_ex Tryz.prog acc x (by omega)
        have HZ : Hid (z.data.toList = encs (o ++ runes x)) := by show _ = _; rw [Hz.out, hst.out.1, HX.out.tx.en, encs_append]
        have HGZ := Lib.hid (hst.out.2.2.piece HX.out.pc)
        clear Hz
        go_wp2_with fail
        go_roundw
        case rel => exact ⟨k + 1, z, _, by go_num, rfl, by omega, ⟨HZ.out, HST.out, HGZ.out.mono (by omega)⟩, hnx⟩
        case measure => simp [intOf]; omega
    · have hfin : acc.data.toList = encs g := by
        have h := hst.out.2.1
        rw [List.drop_of_length_le (show ss.length ≤ k by omega)] at h
        rw [hst.out.1]; congr 1
      have HF := Lib.hid hfin; clear hfin
      go_wp2_with fail
      go_ret
      exact ⟨acc, rfl, HF.out, hnx⟩
end Go.Proofs.YtlmcglaajmjanaaGreatDoor

namespace Go.Proofs.YtlmcglaajmjanaaGreatDoor
open Go.RowKit
attribute [local irreducible] Utf8.encode Utf8.decode
def vb (short : Bool) (a : AArg) : UInt8 := if short then (if a.kind = 2 ∨ a.kind = 3 then 100 else 115) else 118
structure PieceOk (s : ByteArray) : Prop where
  saf : Saf s
  ns : (42 : UInt8) ∉ s.data.toList
  nb : (91 : UInt8) ∉ s.data.toList
  sz : s.size ≤ 20
def fmtS (ss : List ByteArray) (vs : List UInt8) : List UInt8 := fmtB (ss.map fun s => s.data.toList) vs
def FmtOk (ss : List ByteArray) (l : List AArg) (short : Bool) (f : ByteArray) : Prop := ss.length = l.length + 1 ∧ l.length ≤ 10 ∧ (∀ s ∈ ss, PieceOk s) ∧ f.data.toList = fmtS ss (l.map (vb short)) ∧ f.size ≤ 300
def FmtQ (ss : List ByteArray) (l : List AArg) (short : Bool) (w : World) (e : Ending) (w' : World) : Prop := ∃ (f : ByteArray) (b : Bool), e = .returned (.tuple #[.string f, .bool b]) ∧ Hid (b = true → FmtOk ss l short f) ∧ Below w.heap.size w w'
theorem fs_more {ss : List ByteArray} {vs : List UInt8} {a G : List UInt8} {k : Nat} (h : a ++ fmtS (ss.drop k) (vs.drop k) = G) (hk : k < ss.length) (hv : k < vs.length) : (a ++ (ss[k]'hk).data.toList ++ [37, vs[k]'hv]) ++ fmtS (ss.drop (k + 1)) (vs.drop (k + 1)) = G := by
  rw [List.drop_eq_getElem_cons hk, List.drop_eq_getElem_cons hv] at h
  rw [← h]
  simp only [fmtS, List.map_cons, fmtB, List.append_assoc, List.cons_append, List.nil_append]
theorem fs_last {ss : List ByteArray} {vs : List UInt8} {a G : List UInt8} {k : Nat} (h : a ++ fmtS (ss.drop k) (vs.drop k) = G) (hk : k < ss.length) (hv : ¬ k < vs.length) (hl : ss.length = vs.length + 1) : (a ++ (ss[k]'hk).data.toList) ++ fmtS (ss.drop (k + 1)) (vs.drop (k + 1)) = G := by
  rw [List.drop_eq_getElem_cons hk, List.drop_of_length_le (show vs.length ≤ k by omega)] at h
  rw [← h, List.drop_of_length_le (show ss.length ≤ k + 1 by omega)]
  simp only [fmtS, List.map_cons, List.map_nil, fmtB, List.append_nil]
theorem saf_of {s : ByteArray} (h : safeB s.data.toList = true) (h37 : (37 : UInt8) ∉ s.data.toList) (hz : s.size ≤ 20) : Saf s := by
  have hp := safe_noM h
  have ht := plain_txt hp.1
  exact ⟨ht, ⟨ht.sc, hp.2, by rw [← ht.en]; exact h37, by rw [← ht.en, ← Lib.size_eq]; omega⟩⟩
theorem take_no {x : List UInt8} {k : Nat} {c : UInt8} (h : c ∉ x.take k) (hk : k < x.length) (hc : x.getD k 0 ≠ c) : c ∉ x.take (k + 1) := by
  rw [List.take_succ_eq_append_getElem hk]
  intro hm
  rcases List.mem_append.1 hm with hm | hm
  · exact h hm
  · apply hc
    rw [List.getD, List.getElem?_eq_getElem hk]
    exact (List.mem_singleton.1 hm).symm
def NoC (x : List UInt8) : Prop := (37 : UInt8) ∉ x ∧ (42 : UInt8) ∉ x ∧ (91 : UInt8) ∉ x
theorem u8_int {x y : UInt8} (h : x ≠ y) : ((x.toNat : Int) == (y.toNat : Int)) = false := beq_eq_false_iff_ne.2 fun e => h (UInt8.toNat_inj.1 (by omega))
theorem ok_take {ss : List ByteArray} {k : Nat} (hk : k < ss.length) {x : ByteArray} (hx : ss[k]'hk = x) (h : ∀ s ∈ ss.take k, PieceOk s) (hm : PieceOk x) : ∀ s ∈ ss.take (k + 1), PieceOk s := by
  rw [List.take_succ_eq_append_getElem hk]
  intro s hs
  rcases List.mem_append.1 hs with hs | hs
  · exact h s hs
  · rw [List.mem_singleton.1 hs, hx]; exact hm
set_option maxHeartbeats 8000000 in
set_option maxRecDepth 100000 in
theorem specFormat_any (v1 v2 : Value) (ss : List ByteArray) (l : List AArg) (short : Bool) (w : World) (hv : IfAt (· < w.heap.size) w v1 (ss.map .string)) (hss : ∀ x ∈ ss, x.size ≤ 9223372036854775807) (hA : ArgsAt w v2 l) (hlf : l.length ≤ 2147483647) :
    Calls Tryz.prog 33 #[v1, v2, .bool short] w (FmtQ ss l short w) := by
  have hl1 := fun ty => hv.lenS ty
  rw [List.length_map] at hl1
  have hl2 := fun ty => hA.len ty
  have HV := Lib.hid hv; clear hv
  have HA := Lib.hid hA; clear hA
  have HS := Lib.hid hss; clear hss
  by_cases hle : ss.length = l.length + 1
  · have e1 : ((ss.length : Int) == (l.length : Int) + 1) = true := beq_iff_eq.2 (by omega)
    have e2 : ((ss.length : Int) != (l.length : Int) + 1) = false := by simp only [bne, e1, Bool.not_true]
    have HLen := Lib.hid hle
    by_cases h10 : l.length ≤ 10
    · have d10 : decide ((10 : Int) < (l.length : Int)) = false := by simp; omega
      have hsl : ss.length ≤ 11 := by omega
      obtain ⟨G, hG⟩ : ∃ G, fmtS ss (l.map (vb short)) = G := ⟨_, rfl⟩
      have HG := Lib.hid hG; clear hG
      clear hle
      go_enter Tryz.func33, Tryz.ntmps33
      go_wp2_with fail
      go_loopw [25, 8] (fun i ov wr => ∃ (k : Nat) (acc : ByteArray), i = .int .i64 k ∧ ov = .string acc ∧ k ≤ ss.length ∧ acc.size ≤ 22 * k ∧ Hid (acc.data.toList ++ fmtS (ss.drop k) ((l.map (vb short)).drop k) = G) ∧ Hid (∀ s ∈ ss.take k, PieceOk s) ∧ Below w.heap.size w wr)
        (fun i _ _ => ss.length - (intOf i).toNat)
      case atStart => exact ⟨0, ⟨#[]⟩, rfl, rfl, Nat.zero_le _, by decide, HG.out, (fun s hs => by cases hs), Below.refl _ _⟩
      case round =>
        obtain ⟨k, acc, rfl, rfl, hk, hasz, hst, hmd, hnx⟩ := hrel
        by_cases hlt : k < ss.length
        · obtain ⟨qa, hix, hcell⟩ := HV.out.atS k (by rw [List.length_map]; exact hlt)
          have hc := hcell wr (HV.out.kp (Kp.of_below (fun _ h => h) hnx))
          rw [List.getElem_map] at hc
          clear hcell
          have hxs := HS.out _ (List.getElem_mem hlt)
          obtain ⟨x, hx⟩ : ∃ x, ss[k]'hlt = x := ⟨_, rfl⟩
          rw [hx] at hc hxs
          have HX := Lib.hid hx; clear hx
          by_cases hz : x.size ≤ 20
          · have d20 : decide ((20 : Int) < (x.size : Int)) = false := by simp; omega
            go_wp2_with fail
            clear hc hix
            go_loopw [11] (fun jv wx => ∃ j : Nat, jv = .int .i64 j ∧ j ≤ x.size ∧ Hid (NoC (x.data.toList.take j)) ∧ Below w.heap.size w wx)
              (fun jv _ => x.size - (intOf jv).toNat)
            case atStart => exact ⟨0, rfl, Nat.zero_le _, ⟨by simp, by simp, by simp⟩, hnx⟩
            case round =>
              obtain ⟨j, rfl, hj, hno, hnx⟩ := hrel
              by_cases hjl : j < x.size
              · have hix := idx_run x j hjl
                obtain ⟨c, hc⟩ : ∃ c, x.data.toList.getD j 0 = c := ⟨_, rfl⟩
                simp only [hc] at hix
                have HC := Lib.hid hc; clear hc
                by_cases h37 : c = 37
                · have t37 : ((c.toNat : Int) == 37) = true := by rw [h37]; rfl
                  clear h37
                  go_wp2_with fail
                  go_ret2
                  exact ⟨_, false, rfl, fun h => (by cases h), hnx⟩
                · have t37 : ((c.toNat : Int) == 37) = false := u8_int (y := 37) h37
                  by_cases h42 : c = 42
                  · have t42 : ((c.toNat : Int) == 42) = true := by rw [h42]; rfl
                    clear h37 h42
                    go_wp2_with fail
                    go_ret2
                    exact ⟨_, false, rfl, fun h => (by cases h), hnx⟩
                  · have t42 : ((c.toNat : Int) == 42) = false := u8_int (y := 42) h42
                    by_cases h91 : c = 91
                    · have t91 : ((c.toNat : Int) == 91) = true := by rw [h91]; rfl
                      clear h37 h42 h91
                      go_wp2_with fail
                      go_ret2
                      exact ⟨_, false, rfl, fun h => (by cases h), hnx⟩
                    · have t91 : ((c.toNat : Int) == 91) = false := u8_int (y := 91) h91
                      have hjl' : j < x.data.toList.length := by rw [← Lib.size_eq]; exact hjl
                      have HN : Hid (NoC (x.data.toList.take (j + 1))) := ⟨take_no hno.out.1 hjl' (by rw [HC.out]; exact h37), take_no hno.out.2.1 hjl' (by rw [HC.out]; exact h42), take_no hno.out.2.2 hjl' (by rw [HC.out]; exact h91)⟩
                      clear h37 h42 h91 hjl'
                      go_wp2_with fail
                      go_roundw
                      case rel => exact ⟨j + 1, by go_num, by omega, HN.out, hnx⟩
                      case measure => simp [intOf]; omega
              · have HNC : Hid (NoC x.data.toList) := by
                  have := hno.out
                  rwa [List.take_of_length_le (by rw [← Lib.size_eq]; omega)] at this
                clear hno
                cases hsf : safeB x.data.toList with
                | false =>
                  have HSF : Hid (∀ wx, Calls Tryz.prog 42 #[.string x] wx (BoolQ false wx)) := fun wx => by rw [← hsf]; exact isSafe_any x wx hxs
                  clear hsf
                  go_wp2_with fail
                  refine (HSF.out _).mono ?_
                  rintro e w4 ⟨rfl, hb4⟩
                  have hb := hnx.trans (hb4.mono hnx.size)
                  clear hb4
                  go_wp2_with fail
                  go_ret2
                  exact ⟨_, false, rfl, fun h => (by cases h), hb⟩
                | true =>
                  have HSF : Hid (∀ wx, Calls Tryz.prog 42 #[.string x] wx (BoolQ true wx)) := fun wx => by rw [← hsf]; exact isSafe_any x wx hxs
                  have HMD := Lib.hid (ok_take hlt HX.out hmd.out ⟨saf_of hsf HNC.out.1 hz, HNC.out.2.1, HNC.out.2.2, hz⟩)
                  clear hsf
                  obtain ⟨z, hadz, hzsz, Hz⟩ := add_ex Tryz.prog acc x (by omega)
                  by_cases hla : k < l.length
                  · have dla : decide ((l.length : Int) ≤ (k : Int)) = false := by simp; omega
                    obtain ⟨qb, qo, hix2, hld⟩ := HA.out.at_ k hla
                    have HST : Hid ((acc.data.toList ++ x.data.toList ++ [37, vb short (l[k]'hla)]) ++ fmtS (ss.drop (k + 1)) ((l.map (vb short)).drop (k + 1)) = G) := by
                      have := fs_more hst.out hlt (by rw [List.length_map]; exact hla)
                      rw [List.getElem_map, HX.out] at this
                      exact this
                    obtain ⟨kd, hkd⟩ : ∃ kd, (l[k]'hla).kind = kd := ⟨_, rfl⟩
                    have HVB : Hid (vb short (l[k]'hla) = if short then (if kd = 2 ∨ kd = 3 then 100 else 115) else 118) := by show _ = _; rw [← hkd]; rfl
                    have HC0 : Hid (∀ W, ArgsAt W v2 l → W.cell? ⟨qb, qo, none⟩ = some (.int .i64 kd)) := fun W hW => by rw [← hkd]; exact (hld W hW).1
                    clear hld hkd
                    go_wp2_with fail
                    refine (HSF.out _).mono ?_
                    rintro e w4 ⟨rfl, hb4⟩
                    have hb := hnx.trans (hb4.mono hnx.size)
                    clear hb4
                    have c0 := HC0.out w4 (HA.out.below hb)
                    cases short with
                    | false =>
                      obtain ⟨y, hady, hysz, Hy⟩ := add_ex Tryz.prog z ⟨#[37, 118]⟩ (by show z.size + 2 ≤ _; omega)
                      have hysz' : y.size ≤ z.size + 2 := hysz
                      have HZ : Hid (y.data.toList ++ fmtS (ss.drop (k + 1)) ((l.map (vb false)).drop (k + 1)) = G) := by
                        have g1 : y.data.toList = (acc.data.toList ++ x.data.toList) ++ [37, 118] := Hy.out.trans (congrArg (· ++ [37, 118]) Hz.out)
                        have g2 := HST.out
                        have g3 : vb false (l[k]'hla) = 118 := HVB.out.trans rfl
                        rw [g3] at g2
                        show _ = _
                        rw [g1]; exact g2
                      clear Hy Hz hysz HST HVB
                      go_wp2_with fail
                      go_roundw
                      case rel => exact ⟨k + 1, y, by go_num, rfl, by omega, by omega, HZ.out, HMD.out, hb⟩
                      case measure => simp [intOf]; omega
                    | true =>
                      by_cases h2 : kd = 2
                      · have t2 : (kd == 2) = true := beq_iff_eq.2 h2
                        obtain ⟨y, hady, hysz, Hy⟩ := add_ex Tryz.prog z ⟨#[37, 100]⟩ (by show z.size + 2 ≤ _; omega)
                        have hysz' : y.size ≤ z.size + 2 := hysz
                        have HZ : Hid (y.data.toList ++ fmtS (ss.drop (k + 1)) ((l.map (vb true)).drop (k + 1)) = G) := by
                          have g1 : y.data.toList = (acc.data.toList ++ x.data.toList) ++ [37, 100] := Hy.out.trans (congrArg (· ++ [37, 100]) Hz.out)
                          have g2 := HST.out
                          have g3 : vb true (l[k]'hla) = 100 := HVB.out.trans (by rw [if_pos rfl, if_pos (.inl h2)])
                          rw [g3] at g2
                          show _ = _
                          rw [g1]; exact g2
                        clear Hy Hz hysz HST HVB
                        go_wp2_with fail
                        go_roundw
                        case rel => exact ⟨k + 1, y, by go_num, rfl, by omega, by omega, HZ.out, HMD.out, hb⟩
                        case measure => simp [intOf]; omega
                      · have t2 : (kd == 2) = false := beq_eq_false_iff_ne.2 h2
                        by_cases h3 : kd = 3
                        · have t3 : (kd == 3) = true := beq_iff_eq.2 h3
                          obtain ⟨y, hady, hysz, Hy⟩ := add_ex Tryz.prog z ⟨#[37, 100]⟩ (by show z.size + 2 ≤ _; omega)
                          have hysz' : y.size ≤ z.size + 2 := hysz
                          have HZ : Hid (y.data.toList ++ fmtS (ss.drop (k + 1)) ((l.map (vb true)).drop (k + 1)) = G) := by
                            have g1 : y.data.toList = (acc.data.toList ++ x.data.toList) ++ [37, 100] := Hy.out.trans (congrArg (· ++ [37, 100]) Hz.out)
                            have g2 := HST.out
                            have g3 : vb true (l[k]'hla) = 100 := HVB.out.trans (by rw [if_pos rfl, if_pos (.inr h3)])
                            rw [g3] at g2
                            show _ = _
                            rw [g1]; exact g2
                          clear Hy Hz hysz HST HVB
                          go_wp2_with fail
                          go_roundw
                          case rel => exact ⟨k + 1, y, by go_num, rfl, by omega, by omega, HZ.out, HMD.out, hb⟩
                          case measure => simp [intOf]; omega
                        · have t3 : (kd == 3) = false := beq_eq_false_iff_ne.2 h3
                          obtain ⟨y, hady, hysz, Hy⟩ := add_ex Tryz.prog z ⟨#[37, 115]⟩ (by show z.size + 2 ≤ _; omega)
                          have hysz' : y.size ≤ z.size + 2 := hysz
                          have HZ : Hid (y.data.toList ++ fmtS (ss.drop (k + 1)) ((l.map (vb true)).drop (k + 1)) = G) := by
                            have g1 : y.data.toList = (acc.data.toList ++ x.data.toList) ++ [37, 115] := Hy.out.trans (congrArg (· ++ [37, 115]) Hz.out)
                            have g2 := HST.out
                            have g3 : vb true (l[k]'hla) = 115 := HVB.out.trans (by rw [if_pos rfl, if_neg (by omega)])
                            rw [g3] at g2
                            show _ = _
                            rw [g1]; exact g2
                          clear Hy Hz hysz HST HVB
                          go_wp2_with fail
                          go_roundw
                          case rel => exact ⟨k + 1, y, by go_num, rfl, by omega, by omega, HZ.out, HMD.out, hb⟩
                          case measure => simp [intOf]; omega
                  · have dla : decide ((l.length : Int) ≤ (k : Int)) = true := by simp; omega
                    have HST : Hid (z.data.toList ++ fmtS (ss.drop (k + 1)) ((l.map (vb short)).drop (k + 1)) = G) := by
                      have := fs_last hst.out hlt (by rw [List.length_map]; exact hla) (by rw [List.length_map]; exact HLen.out)
                      rw [HX.out] at this
                      show _ = _
                      rw [Hz.out]; exact this
                    clear Hz
                    go_wp2_with fail
                    refine (HSF.out _).mono ?_
                    rintro e w4 ⟨rfl, hb4⟩
                    have hb := hnx.trans (hb4.mono hnx.size)
                    clear hb4
                    go_wp2_with fail
                    go_roundw
                    case rel => exact ⟨k + 1, z, by go_num, rfl, by omega, by omega, HST.out, HMD.out, hb⟩
                    case measure => simp [intOf]; omega
          · have d20 : decide ((20 : Int) < (x.size : Int)) = true := by simp; omega
            go_wp2_with fail
            go_ret2
            exact ⟨_, false, rfl, fun h => (by cases h), hnx⟩
        · have hkl : k = ss.length := by omega
          have hfin : acc.data.toList = G := by
            have h := hst.out
            rw [List.drop_of_length_le (show ss.length ≤ k by omega)] at h
            simpa [fmtS, fmtB] using h
          have HF := Lib.hid hfin; clear hfin
          have hmd2 : Hid (∀ s ∈ ss, PieceOk s) := fun s hs => hmd.out s (by rw [hkl, List.take_length]; exact hs)
          clear hkl
          go_wp2_with fail
          go_ret2
          exact ⟨acc, true, rfl, fun _ => ⟨HLen.out, h10, hmd2.out, by rw [HG.out]; exact HF.out, by omega⟩, hnx⟩
    · have d10 : decide ((10 : Int) < (l.length : Int)) = true := by simp; omega
      clear hle
      go_enter Tryz.func33, Tryz.ntmps33
      go_wp2_with fail
      go_ret2
      exact ⟨_, false, rfl, fun h => (by cases h), Below.refl _ _⟩
  · have e1 : ((ss.length : Int) == (l.length : Int) + 1) = false := beq_eq_false_iff_ne.2 (by omega)
    have e2 : ((ss.length : Int) != (l.length : Int) + 1) = true := by simp only [bne, e1, Bool.not_false]
    clear hle
    go_enter Tryz.func33, Tryz.ntmps33
    go_wp2_with fail
    go_ret2
    exact ⟨_, false, rfl, fun h => (by cases h), Below.refl _ _⟩
end Go.Proofs.YtlmcglaajmjanaaGreatDoor

namespace Go.Proofs.YtlmcglaajmjanaaGreatDoor
open Go.RowKit
attribute [local irreducible] Utf8.encode Utf8.decode
def VOk (v : UInt8) : Prop := v = 118 ∨ v = 115 ∨ v = 100
def PctOk (f : List UInt8) : Prop := ∀ i : Nat, f[i]? = some 37 → ∃ v, f[i + 1]? = some v ∧ VOk v
theorem PctOk.nil : PctOk [] := fun i h => by simp at h
theorem PctOk.cons {b : UInt8} {f : List UInt8} (hb : b ≠ 37) (h : PctOk f) : PctOk (b :: f) := by
  intro i hi
  cases i with
  | zero => simp at hi; exact absurd hi hb
  | succ i => simpa using h i (by simpa using hi)
theorem PctOk.pct {v : UInt8} {f : List UInt8} (hv : VOk v) (h : PctOk f) : PctOk (37 :: v :: f) := by
  intro i hi
  cases i with
  | zero => exact ⟨v, by simp, hv⟩
  | succ i =>
    cases i with
    | zero => simp at hi; subst hi; rcases hv with h | h | h <;> cases h
    | succ i => simpa using h i (by simpa using hi)
theorem PctOk.append : ∀ {x f : List UInt8}, (37 : UInt8) ∉ x → PctOk f → PctOk (x ++ f) := by
  intro x
  induction x with
  | nil => intro f _ h; exact h
  | cons b x ih =>
    intro f hx h
    exact (ih (fun hm => hx (List.mem_cons_of_mem _ hm)) h).cons fun e => hx (e ▸ List.mem_cons_self ..)
theorem fmtB_pct : ∀ (ps : List (List UInt8)) (vs : List UInt8), (∀ x ∈ ps, (37 : UInt8) ∉ x) → (∀ v ∈ vs, VOk v) → PctOk (fmtB ps vs) := by
  intro ps
  induction ps with
  | nil => intro vs _ _; exact PctOk.nil
  | cons x ps ih =>
    intro vs hx hv
    cases vs with
    | nil => have := PctOk.append (hx x (List.mem_cons_self ..)) PctOk.nil; rwa [List.append_nil] at this
    | cons v vs => exact PctOk.append (hx x (List.mem_cons_self ..)) ((ih vs (fun y hy => hx y (List.mem_cons_of_mem _ hy)) (fun y hy => hv y (List.mem_cons_of_mem _ hy))).pct (hv v (List.mem_cons_self ..)))
theorem fmtB_no {c : UInt8} (h37 : c ≠ 37) : ∀ (ps : List (List UInt8)) (vs : List UInt8), (∀ x ∈ ps, c ∉ x) → c ∉ vs → c ∉ fmtB ps vs := by
  intro ps
  induction ps with
  | nil => intro vs _ _ h; cases h
  | cons x ps ih =>
    intro vs hx hv h
    cases vs with
    | nil => exact hx x (List.mem_cons_self ..) h
    | cons v vs =>
      rcases List.mem_append.1 h with h | h
      · exact hx x (List.mem_cons_self ..) h
      · rcases List.mem_cons.1 h with h | h
        · exact h37 h
        · rcases List.mem_cons.1 h with h | h
          · exact hv (h ▸ List.mem_cons_self ..)
          · exact ih vs (fun y hy => hx y (List.mem_cons_of_mem _ hy)) (fun hm => hv (List.mem_cons_of_mem _ hm)) h
theorem idx_absent {c : UInt8} : ∀ l : List UInt8, c ∉ l → Lib.indexByte l c = -1 := by
  intro l
  induction l with
  | nil => intro _; rfl
  | cons b l ih =>
    intro h
    have hb : (b == c) = false := by
      rw [beq_eq_false_iff_ne]; rintro rfl; exact h (List.mem_cons_self ..)
    simp only [Lib.indexByte]
    rw [hb, ih fun hm => h (List.mem_cons_of_mem _ hm)]
    simp
theorem vb_ok (short : Bool) (a : AArg) : VOk (vb short a) := by
  unfold vb VOk
  split
  · split
    · exact .inr (.inr rfl)
    · exact .inr (.inl rfl)
  · exact .inl rfl
structure FOk (f : List UInt8) : Prop where
  pct : PctOk f
  ns : (42 : UInt8) ∉ f
  nb : (91 : UInt8) ∉ f
theorem FmtOk.fok {ss : List ByteArray} {l : List AArg} {short : Bool} {f : ByteArray} (h : FmtOk ss l short f) : FOk f.data.toList := by
  obtain ⟨h1, h2, h3, h4, h5⟩ := h
  rw [h4]
  have hv : ∀ v ∈ l.map (vb short), VOk v := fun v hv => by
    obtain ⟨a, _, rfl⟩ := List.mem_map.1 hv
    exact vb_ok short a
  have hno : ∀ c : UInt8, c ≠ 118 → c ≠ 115 → c ≠ 100 → c ∉ l.map (vb short) := fun c a1 a2 a3 hm => by
    rcases hv c hm with h | h | h
    · exact a1 h
    · exact a2 h
    · exact a3 h
  refine ⟨fmtB_pct _ _ (fun x hx => ?_) hv, fmtB_no (by decide) _ _ (fun x hx => ?_) (hno _ (by decide) (by decide) (by decide)), fmtB_no (by decide) _ _ (fun x hx => ?_) (hno _ (by decide) (by decide) (by decide))⟩
  all_goals
    obtain ⟨s, hs, rfl⟩ := List.mem_map.1 hx
  · have := (h3 s hs).saf
    rw [this.tx.en]; exact this.pc.np
  · exact (h3 s hs).ns
  · exact (h3 s hs).nb
theorem fok1_any (k : Int) (s : ByteArray) (n : Int) (w : World) (h : k ≠ 6) : Calls Tryz.prog 84 #[.agg #[.int .i64 k, .string s, .int .i64 n]] w (ValQ (.bool false) w) := by
  have t : (k == 6) = false := beq_eq_false_iff_ne.2 h
  go_enter Tryz.func84, Tryz.ntmps84
  go_wp2_with fail
  go_ret
  exact ⟨rfl, (Below.refl _ w).alloc (Nat.le_refl _) _⟩
theorem indexFunc_no2 (v : Value) (l : List AArg) (w : World) (hA : ArgsAt w v l) (hl : l.length ≤ 20) (ht : ∀ a ∈ l, a.kind ≠ 6) :
    Calls Tryz.prog 99 #[v, .func (.func 84) #[] #[]] w (ValQ (.int .i64 (-1)) w) := by
  have hlen := fun ty => hA.len ty
  have HA := Lib.hid hA; clear hA
  have HT := Lib.hid ht; clear ht
  go_enter Tryz.func99, Tryz.ntmps99
  go_wp2_with fail
  go_loopw [8] (fun i wr => ∃ k : Nat, i = .int .i64 k ∧ k ≤ l.length ∧ Below w.heap.size w wr)
    (fun i _ => l.length - (intOf i).toNat)
  case atStart => exact ⟨0, rfl, Nat.zero_le _, Below.refl _ _⟩
  case round =>
    obtain ⟨k, rfl, hk, hnx⟩ := hrel
    by_cases hlt : k < l.length
    · obtain ⟨qb, qo, hix, hld0⟩ := HA.out.at_ k hlt
      obtain ⟨c0, c1, c2⟩ := hld0 wr (HA.out.below hnx)
      clear hld0
      have htk := HT.out _ (List.getElem_mem hlt)
      obtain ⟨x, hx⟩ : ∃ x, l[k]'hlt = x := ⟨_, rfl⟩
      rw [hx] at c0 c1 c2 htk
      clear hx
      have hwz := hnx.size
      obtain ⟨kd, tx, nn⟩ := x
      dsimp only at c0 c1 c2 htk
      have HV := Lib.hid (fok1_any kd tx nn wr htk)
      clear htk
      go_wp2_with fail
      refine HV.out.mono ?_
      rintro e w2 ⟨rfl, hb2⟩
      go_wp2_with fail
      go_roundw
      case rel => exact ⟨k + 1, by go_num, by omega, hnx.trans (hb2.mono hwz)⟩
      case measure => simp [intOf]; omega
    · go_wp2_with fail
      go_ret
      exact ⟨rfl, hnx⟩
theorem contains_no2 (v : Value) (l : List AArg) (w : World) (hA : ArgsAt w v l) (hl : l.length ≤ 20) (ht : ∀ a ∈ l, a.kind ≠ 6) :
    Calls Tryz.prog 71 #[v, .func (.func 84) #[] #[]] w (ValQ (.bool false) w) := by
  have HI := Lib.hid (indexFunc_no2 v l w hA hl ht)
  clear hA ht
  go_enter Tryz.func71, Tryz.ntmps71
  go_wp2_with fail
  refine HI.out.mono ?_
  rintro e w2 ⟨rfl, hb2⟩
  go_wp2_with fail
  go_ret
  exact ⟨rfl, hb2⟩
set_option maxHeartbeats 4000000 in
set_option maxRecDepth 100000 in
theorem formatOk_any (f : ByteArray) (v : Value) (l : List AArg) (w : World) (hA : ArgsAt w v l) (hl : l.length ≤ 20) (ht : ∀ a ∈ l, a.kind ≠ 6) (hf : FOk f.data.toList) (hz : f.size ≤ 400) : Calls Tryz.prog 60 #[.string f, v] w (ValQ (.bool true) w) := by
  have d400 : decide ((400 : Int) < (f.size : Int)) = false := by simp; omega
  have HI42 : Hid (∀ w, Calls Tryz.prog 80 #[.string f, .int .u8 42] w fun e w' => e = .returned (.int .i64 (-1)) ∧ w' = w) := fun w => by
    have := Tryz.strings_IndexByte f 42 w
    rwa [show (42 : Int).toNat.toUInt8 = 42 by decide, idx_absent _ hf.ns] at this
  have HI91 : Hid (∀ w, Calls Tryz.prog 80 #[.string f, .int .u8 91] w fun e w' => e = .returned (.int .i64 (-1)) ∧ w' = w) := fun w => by
    have := Tryz.strings_IndexByte f 91 w
    rwa [show (91 : Int).toNat.toUInt8 = 91 by decide, idx_absent _ hf.nb] at this
  have HC := Lib.hid (contains_no2 v l w hA hl ht)
  have HF := Lib.hid hf.pct
  clear hA ht hf
  go_enter Tryz.func60, Tryz.ntmps60
  go_wp2_with fail
  refine (HI42.out _).mono ?_
  rintro e w1 ⟨rfl, rfl⟩
  go_wp2_with fail
  refine (HI91.out _).mono ?_
  rintro e w1 ⟨rfl, rfl⟩
  go_wp2_with fail
  refine HC.out.mono ?_
  rintro e w2 ⟨rfl, hb⟩
  go_wp2_with fail
  go_loopw [6] (fun iv wr => ∃ i : Nat, iv = .int .i64 i ∧ i ≤ f.size ∧ Below w1.heap.size w1 wr)
    (fun iv _ => f.size - (intOf iv).toNat)
  case atStart => exact ⟨0, rfl, Nat.zero_le _, hb⟩
  case round =>
    obtain ⟨i, rfl, hi, hnx⟩ := hrel
    by_cases hlt : i < f.size
    · have hix := idx_run f i hlt
      have hli : i < f.data.toList.length := by rw [← Lib.size_eq]; exact hlt
      obtain ⟨c, hc⟩ : ∃ c, f.data.toList.getD i 0 = c := ⟨_, rfl⟩
      simp only [hc] at hix
      by_cases h37 : c = 37
      · obtain ⟨vv, hv1, hv2⟩ := HF.out i (by rw [List.getElem?_eq_getElem hli]; rw [List.getD, List.getElem?_eq_getElem hli] at hc; rw [← h37, ← hc]; rfl)
        have hlt1 : i + 1 < f.size := by
          have := (List.getElem?_eq_some_iff.1 hv1).1
          rwa [← Lib.size_eq] at this
        have hi2 := idx_run f (i + 1) hlt1
        have hgd : f.data.toList.getD (i + 1) 0 = vv := by rw [List.getD, hv1]; rfl
        simp only [hgd] at hi2
        rw [show ((i + 1 : Nat) : Int) = (i : Int) + 1 by omega] at hi2
        have HV2 := Lib.hid hi2
        have d1 : decide ((i : Int) + 1 < (f.size : Int)) = true := by simp; omega
        have hix37 : ∀ w, (Instr.index 9 (.string f) (.int .i64 (i : Int))).run Tryz.prog w = .ok (.int .u8 37) w := by rw [h37] at hix; exact hix
        clear hi2 hgd hv1 hc h37 hli hix
        rcases hv2 with rfl | rfl | rfl
        ·
          have HS1 : Hid (∀ w, Calls Tryz.prog 80 #[.string ⟨#[35, 43, 45, 32, 46, 48, 49, 50, 51, 52, 53, 54, 55, 56, 57]⟩, .int .u8 118] w fun e w' => e = .returned (.int .i64 (-1)) ∧ w' = w) := fun w => Tryz.strings_IndexByte ⟨#[35, 43, 45, 32, 46, 48, 49, 50, 51, 52, 53, 54, 55, 56, 57]⟩ 118 w
          have HS2 : Hid (∀ w, Calls Tryz.prog 80 #[.string ⟨#[112, 84, 119]⟩, .int .u8 118] w fun e w' => e = .returned (.int .i64 (-1)) ∧ w' = w) := fun w => Tryz.strings_IndexByte ⟨#[112, 84, 119]⟩ 118 w
          have hix2 : ∀ w, (Instr.index 9 (.string f) (.int .i64 ((i : Int) + 1))).run Tryz.prog w = .ok (.int .u8 118) w := HV2.out
          go_wp2_with fail
          refine wp_loop_rounds 1 ?_
          rw [rounds_succ]
          go_wp2_with fail
          refine (HS1.out _).mono ?_
          rintro e w3 ⟨rfl, rfl⟩
          go_wp2_with fail
          refine (HS2.out _).mono ?_
          rintro e w4 ⟨rfl, rfl⟩
          go_wp2_with fail
          go_roundw
          case rel => exact ⟨i + 2, by go_num, by omega, hnx⟩
          case measure => simp [intOf]; omega
        ·
          have HS1 : Hid (∀ w, Calls Tryz.prog 80 #[.string ⟨#[35, 43, 45, 32, 46, 48, 49, 50, 51, 52, 53, 54, 55, 56, 57]⟩, .int .u8 115] w fun e w' => e = .returned (.int .i64 (-1)) ∧ w' = w) := fun w => Tryz.strings_IndexByte ⟨#[35, 43, 45, 32, 46, 48, 49, 50, 51, 52, 53, 54, 55, 56, 57]⟩ 115 w
          have HS2 : Hid (∀ w, Calls Tryz.prog 80 #[.string ⟨#[112, 84, 119]⟩, .int .u8 115] w fun e w' => e = .returned (.int .i64 (-1)) ∧ w' = w) := fun w => Tryz.strings_IndexByte ⟨#[112, 84, 119]⟩ 115 w
          have hix2 : ∀ w, (Instr.index 9 (.string f) (.int .i64 ((i : Int) + 1))).run Tryz.prog w = .ok (.int .u8 115) w := HV2.out
          go_wp2_with fail
          refine wp_loop_rounds 1 ?_
          rw [rounds_succ]
          go_wp2_with fail
          refine (HS1.out _).mono ?_
          rintro e w3 ⟨rfl, rfl⟩
          go_wp2_with fail
          refine (HS2.out _).mono ?_
          rintro e w4 ⟨rfl, rfl⟩
          go_wp2_with fail
          go_roundw
          case rel => exact ⟨i + 2, by go_num, by omega, hnx⟩
          case measure => simp [intOf]; omega
        ·
          have HS1 : Hid (∀ w, Calls Tryz.prog 80 #[.string ⟨#[35, 43, 45, 32, 46, 48, 49, 50, 51, 52, 53, 54, 55, 56, 57]⟩, .int .u8 100] w fun e w' => e = .returned (.int .i64 (-1)) ∧ w' = w) := fun w => Tryz.strings_IndexByte ⟨#[35, 43, 45, 32, 46, 48, 49, 50, 51, 52, 53, 54, 55, 56, 57]⟩ 100 w
          have HS2 : Hid (∀ w, Calls Tryz.prog 80 #[.string ⟨#[112, 84, 119]⟩, .int .u8 100] w fun e w' => e = .returned (.int .i64 (-1)) ∧ w' = w) := fun w => Tryz.strings_IndexByte ⟨#[112, 84, 119]⟩ 100 w
          have hix2 : ∀ w, (Instr.index 9 (.string f) (.int .i64 ((i : Int) + 1))).run Tryz.prog w = .ok (.int .u8 100) w := HV2.out
          go_wp2_with fail
          refine wp_loop_rounds 1 ?_
          rw [rounds_succ]
          go_wp2_with fail
          refine (HS1.out _).mono ?_
          rintro e w3 ⟨rfl, rfl⟩
          go_wp2_with fail
          refine (HS2.out _).mono ?_
          rintro e w4 ⟨rfl, rfl⟩
          go_wp2_with fail
          go_roundw
          case rel => exact ⟨i + 2, by go_num, by omega, hnx⟩
          case measure => simp [intOf]; omega
      · have t37 : ((c.toNat : Int) == 37) = false := u8_int (y := 37) h37
        have t37' : ((c.toNat : Int) != 37) = true := by simp only [bne, t37, Bool.not_false]
        clear hc h37 hli
        go_wp2_with fail
        go_roundw
        case rel => exact ⟨i + 1, by go_num, by omega, hnx⟩
        case measure => simp [intOf]; omega
    · go_wp2_with fail
      go_ret
      exact ⟨rfl, hnx⟩
end Go.Proofs.YtlmcglaajmjanaaGreatDoor
