/- Walk of the law FnJoin. -/
import Derived.Test.YtlmcglaajmjanaaGreatDoorZk
import Derived.Test.YtlmcglaajmjanaaGreatDoorJd
import Derived.Test.YtlmcglaajmjanaaGreatDoorZh
namespace Go.Proofs.YtlmcglaajmjanaaGreatDoor
open Go.RowKit
attribute [local irreducible] Utf8.encode Utf8.decode
def FitQ (w : World) (e : Ending) (w' : World) : Prop := ∃ b : Bool, e = .returned (.bool b) ∧ w = w'
section
variable {K : Nat → Prop}
set_option maxHeartbeats 1000000 in
theorem zzFits3_any (v : Value) (ss : List ByteArray) (w : World) (hv : IfAt K w v (ss.map .string)) : Calls Tryz.prog 23 #[v] w (FitQ w) := by
  have hlen := fun ty => hv.lenS ty
  rw [List.length_map] at hlen
  have HV := Lib.hid hv; clear hv
  by_cases h : ss.length ≤ 2147483647
  · have d1 : decide ((2147483647 : Int) < (ss.length : Int)) = false := by simp; omega
    go_enter Tryz.func23, Tryz.ntmps23
    go_wp2_with fail
    go_loopw [10] (fun i wr => ∃ k : Nat, i = .int .i64 k ∧ k ≤ ss.length ∧ w = wr)
      (fun i _ => ss.length - (intOf i).toNat)
    case atStart => exact ⟨0, rfl, Nat.zero_le _, by trivial⟩
    case round =>
      obtain ⟨k, rfl, hk, rfl⟩ := hrel
      by_cases hlt : k < ss.length
      · obtain ⟨qa, hix, hcell⟩ := HV.out.atS k (by rw [List.length_map]; exact hlt)
        have hc := hcell _ HV.out
        rw [List.getElem_map] at hc
        clear hcell
        obtain ⟨x, hx⟩ : ∃ x, ss[k]'hlt = x := ⟨_, rfl⟩
        rw [hx] at hc
        clear hx
        cases hd : decide ((2147483647 : Int) < (x.size : Int)) with
        | false =>
          go_wp2_with fail
          go_roundw
          case rel => exact ⟨k + 1, by go_num, by omega, by trivial⟩
          case measure => simp [intOf]; omega
        | true =>
          go_wp2_with fail
          go_ret
          exact ⟨false, rfl, rfl⟩
      · go_wp2_with fail
        go_ret
        exact ⟨true, rfl, rfl⟩
  · have d1 : decide ((2147483647 : Int) < (ss.length : Int)) = true := by simp; omega
    go_enter Tryz.func23, Tryz.ntmps23
    go_wp2_with fail
    go_ret
    exact ⟨false, rfl, rfl⟩
end
theorem take_marked {ss : List ByteArray} {k : Nat} (hk : k < ss.length) {x : ByteArray} (hx : ss[k]'hk = x) (h : ∀ s ∈ ss.take k, markB s.data.toList = true) (hm : markB x.data.toList = true) : ∀ s ∈ ss.take (k + 1), markB s.data.toList = true := by
  rw [List.take_succ_eq_append_getElem hk]
  intro s hs
  rcases List.mem_append.1 hs with hs | hs
  · exact h s hs
  · rw [List.mem_singleton.1 hs, hx]; exact hm
set_option maxHeartbeats 4000000 in
set_option maxRecDepth 100000 in
theorem fnJoin_any (s : ByteArray) (v : Value) (ss : List ByteArray) (w : World) (hs : s.size ≤ 9223372036854775807) (hv : IfAt (· < w.heap.size) w v (ss.map .string)) (hss : ∀ x ∈ ss, x.size ≤ 9223372036854775807) (hT : TabW w) : Calls Tryz.prog 6 #[.string s, v] w (ValQ (.bool true) w) := by
  have hlen := fun ty => hv.lenS ty
  rw [List.length_map] at hlen
  have HV := Lib.hid hv; clear hv
  have HS := Lib.hid hss; clear hss
  have HTab := Lib.hid hT; clear hT
  by_cases hz : s.size ≤ 2147483647
  · have d1 : decide ((2147483647 : Int) < (s.size : Int)) = false := by simp; omega
    have HP := Lib.hid (isMarked_any s w hs)
    cases hp : markB s.data.toList with
    | false =>
      rw [hp] at HP
      clear hp
      go_enter Tryz.func6, Tryz.ntmps6
      go_wp2_with fail
      refine (zzFits3_any v ss _ HV.out).mono ?_
      rintro e w1 ⟨b, rfl, rfl⟩
      cases b
      · go_wp2_with fail
        go_ret
        exact ⟨rfl, Below.refl _ _⟩
      go_wp2_with fail
      refine HP.out.mono ?_
      rintro e w2 ⟨rfl, hb⟩
      go_wp2_with fail
      go_ret
      exact ⟨rfl, hb⟩
    | true =>
      rw [hp] at HP
      by_cases h20 : s.size ≤ 20
      · have d2 : decide ((20 : Int) < (s.size : Int)) = false := by simp; omega
        by_cases h10 : ss.length ≤ 10
        · have d3 : decide ((10 : Int) < (ss.length : Int)) = false := by simp; omega
          obtain ⟨hpl, hmk⟩ := mark_mk hp
          have hbt := plain_txt hpl
          have HB := Lib.hid (And.intro hbt hmk)
          have HBE := Lib.hid hbt.en
          clear hp hpl hmk hbt
          obtain ⟨rb, hrb⟩ : ∃ rb, runes s = rb := ⟨_, rfl⟩
          rw [hrb] at HBE
          have HRB := Lib.hid hrb; clear hrb
          obtain ⟨g, hg⟩ : ∃ g, jn rb true [] ss = g := ⟨_, rfl⟩
          have HG := Lib.hid hg; clear hg
          go_enter Tryz.func6, Tryz.ntmps6
          go_wp2_with fail
          refine (zzFits3_any v ss _ HV.out).mono ?_
          rintro e w1 ⟨b, rfl, rfl⟩
          cases b
          · go_wp2_with fail
            go_ret
            exact ⟨rfl, Below.refl _ _⟩
          go_wp2_with fail
          refine HP.out.mono ?_
          rintro e w2 ⟨rfl, hb⟩
          go_wp2_with fail
          go_loopw [31, 5] (fun i av wr => ∃ (k : Nat) (acc : ByteArray) (o : List Nat), i = .int .i64 k ∧ av = .string acc ∧ k ≤ ss.length ∧ acc.size ≤ 100 * k ∧ Hid (acc.data.toList = encs o ∧ jn rb (k == 0) o (ss.drop k) = g) ∧ Hid (∀ x ∈ ss.take k, markB x.data.toList = true) ∧ Below w.heap.size w wr)
            (fun i _ _ => ss.length - (intOf i).toNat)
          case atStart => exact ⟨0, ⟨#[]⟩, [], rfl, rfl, Nat.zero_le _, by decide, ⟨rfl, HG.out⟩, (fun x hx => by cases hx), hb⟩
          case round =>
            obtain ⟨k, acc, o, rfl, rfl, hk, hasz, hst, hmd, hnx⟩ := hrel
            by_cases hlt : k < ss.length
            · obtain ⟨qa, hix, hcell⟩ := HV.out.atS k (by rw [List.length_map]; exact hlt)
              have hc := hcell wr (HV.out.kp (Kp.of_below (fun _ h => h) hnx))
              rw [List.getElem_map] at hc
              clear hcell
              have hxs := HS.out _ (List.getElem_mem hlt)
              have HST := Lib.hid (jn_step hlt hst.out.2)
              obtain ⟨x, hx⟩ : ∃ x, ss[k]'hlt = x := ⟨_, rfl⟩
              rw [hx] at hc hxs HST
              have HX := Lib.hid hx; clear hx
              have HPX := Lib.hid (isMarked_any x wr hxs)
              cases hpx : markB x.data.toList with
              | false =>
                rw [hpx] at HPX
                clear hpx
                go_wp2_with fail
                refine HPX.out.mono ?_
                rintro e w4 ⟨rfl, hb4⟩
                have hb := hnx.trans (hb4.mono hnx.size)
                clear hb4
                go_wp2_with fail
                go_ret
                exact ⟨rfl, hb⟩
              | true =>
                rw [hpx] at HPX
                have hxt := plain_txt (mark_mk hpx).1
                have hx8 := plainB_len (mark_mk hpx).1
                rw [← Lib.size_eq] at hx8
                have HXE := Lib.hid hxt.en
                have HMD := Lib.hid (take_marked hlt HX.out hmd.out hpx)
                clear hxt hpx
                by_cases hk0 : k = 0
                · have d0 : decide (0 < k) = false := by simp; omega
                  have HST : Hid (jn rb false (o ++ runes x) (ss.drop (k + 1)) = g) := by have := HST.out; rw [show (k == 0) = true by simp [hk0]] at this; exact this
                  clear hk0
                  obtain ⟨z, hadz, hzsz, Hz⟩ := add_ex Tryz.prog acc x (by omega)
                  have HZ : Hid (z.data.toList = encs (o ++ runes x)) := by show _ = _; rw [Hz.out, hst.out.1, HXE.out, encs_append]
                  clear Hz
                  go_wp2_with fail
                  refine HPX.out.mono ?_
                  rintro e w4 ⟨rfl, hb4⟩
                  have HBW := Lib.hid (hnx.trans (hb4.mono hnx.size))
                  clear hb4
                  go_wp2_with fail
                  go_roundw
                  case rel => exact ⟨k + 1, z, _, by go_num, rfl, by omega, by omega, ⟨HZ.out, by rw [show (k + 1 == 0) = false by simp]; exact HST.out⟩, HMD.out, HBW.out⟩
                  case measure => simp [intOf]; omega
                · have d0 : decide (0 < k) = true := by simp; omega
                  have HST : Hid (jn rb false ((o ++ rb) ++ runes x) (ss.drop (k + 1)) = g) := by have := HST.out; rw [show (k == 0) = false by simp [hk0]] at this; exact this
                  clear hk0
                  obtain ⟨y, hady, hysz, Hy⟩ := add_ex Tryz.prog acc s (by omega)
                  obtain ⟨z, hadz, hzsz, Hz⟩ := add_ex Tryz.prog y x (by omega)
                  have HZ : Hid (z.data.toList = encs ((o ++ rb) ++ runes x)) := by show _ = _; rw [Hz.out, Hy.out, hst.out.1, HXE.out, HBE.out, encs_append, encs_append]
                  clear Hz Hy
                  go_wp2_with fail
                  refine HPX.out.mono ?_
                  rintro e w4 ⟨rfl, hb4⟩
                  have HBW := Lib.hid (hnx.trans (hb4.mono hnx.size))
                  clear hb4
                  go_wp2_with fail
                  go_roundw
                  case rel => exact ⟨k + 1, z, _, by go_num, rfl, by omega, by omega, ⟨HZ.out, by rw [show (k + 1 == 0) = false by simp]; exact HST.out⟩, HMD.out, HBW.out⟩
                  case measure => simp [intOf]; omega
            · obtain rfl : k = ss.length := by omega
              have hfin : o = g := by have := hst.out.2; rw [List.drop_of_length_le (Nat.le_refl _)] at this; exact this
              subst hfin
              obtain rfl : acc = ⟨(encs o).toArray⟩ := str_of hst.out.1
              have hall : ∀ x ∈ ss, Txt x (runes x) ∧ Mk (runes x) := fun x hx => by
                have := hmd.out x (by rw [List.take_length]; exact hx)
                exact ⟨plain_txt (mark_mk this).1, (mark_mk this).2⟩
              have hvw : IfAt (· < wr.heap.size) wr v (ss.map .string) := (HV.out.kp (Kp.of_below (fun _ h => h) hnx)).anti fun k hk => Nat.lt_of_lt_of_le hk hnx.size
              have HJ := Lib.hid (implJoin_any v s ss (HTab.out.below hnx) hvw HB.out.1 HB.out.2 hall (by omega))
              rw [HRB.out, HG.out] at HJ
              have hb := hnx
              clear hall hvw hst hmd
              go_wp2_with fail
              refine (HJ.out).mono ?_
              skip
              rintro e w4 ⟨y, rfl, hy, hb4⟩
              have hb := hb.trans (hb4.mono hb.size)
              clear hb4
              obtain rfl : y = ⟨(encs o).toArray⟩ := str_of hy.out
              clear hy
              go_wp2_with fail
              refine (marks_true _ (HTab.out.below hb)).mono ?_
              rintro e w6 ⟨rfl, hb6⟩
              have hb := hb.trans (hb6.mono hb.size)
              clear hb6
              go_wp2_with fail
              go_ret
              exact ⟨rfl, hb⟩
        · have d3 : decide ((10 : Int) < (ss.length : Int)) = true := by simp; omega
          clear hp
          go_enter Tryz.func6, Tryz.ntmps6
          go_wp2_with fail
          refine (zzFits3_any v ss _ HV.out).mono ?_
          rintro e w1 ⟨b, rfl, rfl⟩
          cases b
          · go_wp2_with fail
            go_ret
            exact ⟨rfl, Below.refl _ _⟩
          go_wp2_with fail
          refine HP.out.mono ?_
          rintro e w2 ⟨rfl, hb⟩
          go_wp2_with fail
          go_ret
          exact ⟨rfl, hb⟩
      · have d2 : decide ((20 : Int) < (s.size : Int)) = true := by simp; omega
        clear hp
        go_enter Tryz.func6, Tryz.ntmps6
        go_wp2_with fail
        refine (zzFits3_any v ss _ HV.out).mono ?_
        rintro e w1 ⟨b, rfl, rfl⟩
        cases b
        · go_wp2_with fail
          go_ret
          exact ⟨rfl, Below.refl _ _⟩
        go_wp2_with fail
        refine HP.out.mono ?_
        rintro e w2 ⟨rfl, hb⟩
        go_wp2_with fail
        go_ret
        exact ⟨rfl, hb⟩
  · have d1 : decide ((2147483647 : Int) < (s.size : Int)) = true := by simp; omega
    go_enter Tryz.func6, Tryz.ntmps6
    go_wp2_with fail
    go_ret
    exact ⟨rfl, Below.refl _ _⟩
end Go.Proofs.YtlmcglaajmjanaaGreatDoor
