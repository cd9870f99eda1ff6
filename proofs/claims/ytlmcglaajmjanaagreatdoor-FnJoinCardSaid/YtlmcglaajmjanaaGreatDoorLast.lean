/- Walks of bytes.LastIndex and what it calls, at a separator of two bytes or more: the answer is -1 or a place where the separator lies. (That it is the last such place is not said: nothing here asks it.) -/
import Derived.Test.YtlmcglaajmjanaaGreatDoorByt
import Derived.Deep.QuietTactic
import Derived.BigQuiet
namespace Go.Proofs.YtlmcglaajmjanaaGreatDoor
open Go.RowKit
set_option maxRecDepth 100000 in
theorem hashStrRev_any (s : Value) (l : List UInt8) (w : World) (hs : BAt w s l) (hl : l.length = 3) :
    Calls Tryz.prog 200 #[s] w fun e w' => (∃ x y : Int, e = .returned (.tuple #[.int .u32 x, .int .u32 y])) ∧ w = w' := by
  have hlen := hs.len 3
  have e3 : (l.length : Int) = 3 := by omega
  rw [e3] at hlen
  have HS := Lib.hid hs; clear hs
  go_enter Tryz.func200, Tryz.ntmps200
  go_wp2
  go_loopw [4, 5] (fun hv iv wr => ∃ (x : Int) (k : Nat), hv = .int .u32 x ∧ iv = .int .i64 ((k : Int) - 1) ∧ k ≤ l.length ∧ wr = w) (fun _ iv _ => (intOf iv + 1).toNat)
  case atStart => exact ⟨0, 3, rfl, rfl, by omega, by first | rfl | trivial⟩
  case round =>
    obtain ⟨x, k, rfl, rfl, hk, rfl⟩ := hrel
    by_cases h0 : 0 < k
    · have h0I : (0 : Int) ≤ (k : Int) - 1 := by omega
      obtain ⟨a, hidx, hcell⟩ := HS.out.at_ ((k : Int) - 1) (by omega) (by omega)
      have hcell := hcell _ HS.out
      generalize l.getD ((k : Int) - 1).toNat 0 = b at hcell
      go_wp2
      go_roundw
      case rel => exact ⟨_, k - 1, rfl, by go_num, by omega, by first | rfl | trivial⟩
      case measure => simp [intOf]; omega
    · obtain rfl : k = 0 := by omega
      go_wp2
      go_loopw [6, 7, 8] (fun xv yv iv wx => ∃ (x y i : Int), xv = .int .u32 x ∧ yv = .int .u32 y ∧ iv = .int .i64 i ∧ (i = 3 ∨ i = 1 ∨ i = 0) ∧ wx = wr) (fun _ _ iv _ => (intOf iv).toNat)
      case atStart => exact ⟨1, 16777619, 3, rfl, rfl, rfl, .inl rfl, by first | rfl | trivial⟩
      case round =>
        obtain ⟨x, y, i, rfl, rfl, rfl, hi, rfl⟩ := hrel
        rcases hi with rfl | rfl | rfl
        · go_wp2
          go_roundw
          case rel => exact ⟨_, _, 1, rfl, rfl, rfl, .inr (.inl rfl), by first | rfl | trivial⟩
          case measure => decide
        · go_wp2
          go_roundw
          case rel => exact ⟨_, _, 0, rfl, rfl, rfl, .inr (.inr rfl), by first | rfl | trivial⟩
          case measure => decide
        · go_wp2
          go_ret2
          exact ⟨⟨_, _, rfl⟩, rfl⟩
/-- -1, or a place where p lies in l. -/
def LastI (l p : List UInt8) (r : Int) : Prop := r = -1 ∨ ∃ i : Nat, r = i ∧ i + p.length ≤ l.length ∧ (l.drop i).take p.length = p
def LastQ (l p : List UInt8) (w : World) (e : Ending) (w' : World) : Prop := ∃ r, e = .returned (.int .i64 r) ∧ LastI l p r ∧ ∃ n, w' = w.drewN n
set_option maxHeartbeats 1000000 in
set_option maxRecDepth 100000 in
theorem lastRK_any (s t : Value) (l p : List UInt8) (w : World) (hs : BAt w s l) (ht : BAt w t p) (hp : p.length = 3) (hl : 3 < l.length) (hl2 : l.length ≤ 1000000) :
    Calls Tryz.prog 198 #[s, t] w (LastQ l p w) := by
  have hlen := hs.len 3
  have hlen2 := ht.len 3
  have e3 : (p.length : Int) = 3 := by omega
  rw [e3] at hlen2
  have HS := Lib.hid hs; clear hs
  have HP := Lib.hid ht; clear ht
  go_enter Tryz.func198, Tryz.ntmps198
  go_wp2_with fail
  refine (hashStrRev_any t p w HP.out hp).mono ?_
  rintro e w' ⟨⟨hs0, pw, rfl⟩, rfl⟩
  go_wp2_with fail
  go_loopw [9, 10] (fun hv iv wr => ∃ (x : Int) (k : Nat), hv = .int .u32 x ∧ iv = .int .i64 ((k : Int) - 1) ∧ l.length ≤ k + 3 ∧ k ≤ l.length ∧ wr = w) (fun _ iv _ => (intOf iv + 1).toNat)
  case atStart => exact ⟨0, l.length, rfl, rfl, by omega, Nat.le_refl _, by first | rfl | trivial⟩
  case round =>
    obtain ⟨x, k, rfl, rfl, hk1, hk2, rfl⟩ := hrel
    by_cases h0 : l.length < k + 3
    · have h0I : (l.length : Int) - 3 ≤ (k : Int) - 1 := by omega
      obtain ⟨a, hidx, hcell⟩ := HS.out.at_ ((k : Int) - 1) (by omega) (by omega)
      have hcell := hcell _ HS.out
      generalize l.getD ((k : Int) - 1).toNat 0 = b at hcell
      go_wp2
      go_roundw
      case rel => exact ⟨_, k - 1, rfl, by go_num, by omega, by omega, by first | rfl | trivial⟩
      case measure => simp [intOf]; omega
    · obtain rfl : k = l.length - 3 := by omega
      have h0I : ¬ (l.length : Int) - 3 ≤ ((l.length - 3 : Nat) : Int) - 1 := by omega
      obtain ⟨v2, hsub, hv2⟩ := HS.out.from_ ((l.length : Int) - 3) (by omega) (by omega)
      have hst1 := fun m => ((hv2 _ HS.out).drewN m).str 9 Tryz.underlying9
      have hst2 := fun m => (HP.out.drewN m).str 9 Tryz.underlying9
      clear hv2
      have e4 : ((l.length : Int) - 3).toNat = l.length - 3 := by omega
      rw [e4] at hst1
      clear e4
      have hcut := Lib.hid (show (l.drop (l.length - 3)).take p.length = l.drop (l.length - 3) from List.take_of_length_le (by simp; omega))
      by_cases hxe : (x == hs0) = true
      · by_cases hm : l.drop (l.length - 3) = p
        · have hb : (l.drop (l.length - 3) == p) = true := beq_iff_eq.2 hm
          have Hm := Lib.hid hm; clear hm
          go_wp2_with fail
          go_quiet (fail)
          go_wp2_with fail
          go_ret
          refine ⟨_, rfl, .inr ⟨l.length - 3, by omega, by omega, ?_⟩, nq, rfl⟩
          rw [hcut.out, Hm.out]
        · have hb : (l.drop (l.length - 3) == p) = false := beq_eq_false_iff_ne.2 hm
          clear hm
          go_wp2_with fail
          go_quiet (fail)
          clear hsub hst1 hb
          go_wp2_with fail
          go_loopw [9, 11] (fun hv iv wx => ∃ (x : Int) (k n : Nat), hv = .int .u32 x ∧ iv = .int .i64 ((k : Int) - 1) ∧ k + 3 ≤ l.length ∧ wx = wr.drewN n) (fun _ iv _ => (intOf iv + 1).toNat)
          case atStart => exact ⟨_, l.length - 3, nq, rfl, by go_num, by omega, by first | rfl | trivial⟩
          case round =>
            obtain ⟨x, k, n, rfl, rfl, hk, rfl⟩ := hrel
            by_cases h0 : 0 < k
            · have h0I : (0 : Int) ≤ (k : Int) - 1 := by omega
              obtain ⟨a, hidx, hcell⟩ := HS.out.at_ ((k : Int) - 1) (by omega) (by omega)
              have hcell := hcell _ (HS.out.drewN n)
              obtain ⟨a2, hidx2, hcell2⟩ := HS.out.at_ ((k : Int) - 1 + 3) (by omega) (by omega)
              have hcell2 := hcell2 _ (HS.out.drewN n)
              generalize l.getD ((k : Int) - 1).toNat 0 = b at hcell
              generalize l.getD ((k : Int) - 1 + 3).toNat 0 = b2 at hcell2
              obtain ⟨v3, hsub3, hv3⟩ := HS.out.sub ((k : Int) - 1) ((k : Int) - 1 + 3) (by omega) (by omega) (by omega)
              have hst3 := fun m => ((hv3 _ HS.out).drewN m).str 9 Tryz.underlying9
              clear hv3
              have hcut3 : List.drop ((k : Int) - 1).toNat (List.take ((k : Int) - 1 + 3).toNat l) = (l.drop (k - 1)).take 3 := by
                rw [show ((k : Int) - 1).toNat = k - 1 by omega, show ((k : Int) - 1 + 3).toNat = k - 1 + 3 by omega, List.drop_take]; congr 1; omega
              rw [hcut3] at hst3
              clear hcut3
              go_wp2_with fail
              generalize ((x * 16777619 + (b.toNat : Int)) % 4294967296 - pw * ((b2.toNat : Int) % 4294967296) % 4294967296) % 4294967296 = x9
              by_cases hx9 : (x9 == hs0) = true
              · by_cases hm3 : (l.drop (k - 1)).take 3 = p
                · have hb3 : ((l.drop (k - 1)).take 3 == p) = true := beq_iff_eq.2 hm3
                  have Hm3 := Lib.hid hm3; clear hm3
                  go_quiet (fail)
                  go_wp2_with fail
                  go_ret
                  exact ⟨_, rfl, .inr ⟨k - 1, by omega, by omega, by rw [hp]; exact Hm3.out⟩, _, by rw [World.drewN_drewN]⟩
                · have hb3 : ((l.drop (k - 1)).take 3 == p) = false := beq_eq_false_iff_ne.2 hm3
                  clear hm3
                  go_quiet (fail)
                  go_wp2_with fail
                  go_roundw
                  case rel => exact ⟨_, k - 1, _, rfl, by go_num, by omega, by first | rfl | rw [World.drewN_drewN]⟩
                  case measure => simp [intOf]; omega
              · have hx9 : (x9 == hs0) = false := by simpa using hx9
                go_quiet (fail)
                go_wp2_with fail
                go_roundw
                case rel => exact ⟨_, k - 1, _, rfl, by go_num, by omega, by first | rfl | rw [World.drewN_drewN]⟩
                case measure => simp [intOf]; omega
            · obtain rfl : k = 0 := by omega
              go_wp2_with fail
              go_ret
              exact ⟨-1, rfl, .inl rfl, n, rfl⟩
      · have hxe : (x == hs0) = false := by simpa using hxe
        go_wp2_with fail
        go_quiet (fail)
        clear hsub hst1
        go_wp2_with fail
        go_loopw [9, 11] (fun hv iv wx => ∃ (x : Int) (k n : Nat), hv = .int .u32 x ∧ iv = .int .i64 ((k : Int) - 1) ∧ k + 3 ≤ l.length ∧ wx = wr.drewN n) (fun _ iv _ => (intOf iv + 1).toNat)
        case atStart => exact ⟨_, l.length - 3, nq, rfl, by go_num, by omega, by first | rfl | trivial⟩
        case round =>
          obtain ⟨x, k, n, rfl, rfl, hk, rfl⟩ := hrel
          by_cases h0 : 0 < k
          · have h0I : (0 : Int) ≤ (k : Int) - 1 := by omega
            obtain ⟨a, hidx, hcell⟩ := HS.out.at_ ((k : Int) - 1) (by omega) (by omega)
            have hcell := hcell _ (HS.out.drewN n)
            obtain ⟨a2, hidx2, hcell2⟩ := HS.out.at_ ((k : Int) - 1 + 3) (by omega) (by omega)
            have hcell2 := hcell2 _ (HS.out.drewN n)
            generalize l.getD ((k : Int) - 1).toNat 0 = b at hcell
            generalize l.getD ((k : Int) - 1 + 3).toNat 0 = b2 at hcell2
            obtain ⟨v3, hsub3, hv3⟩ := HS.out.sub ((k : Int) - 1) ((k : Int) - 1 + 3) (by omega) (by omega) (by omega)
            have hst3 := fun m => ((hv3 _ HS.out).drewN m).str 9 Tryz.underlying9
            clear hv3
            have hcut3 : List.drop ((k : Int) - 1).toNat (List.take ((k : Int) - 1 + 3).toNat l) = (l.drop (k - 1)).take 3 := by
              rw [show ((k : Int) - 1).toNat = k - 1 by omega, show ((k : Int) - 1 + 3).toNat = k - 1 + 3 by omega, List.drop_take]; congr 1; omega
            rw [hcut3] at hst3
            clear hcut3
            go_wp2_with fail
            generalize ((x * 16777619 + (b.toNat : Int)) % 4294967296 - pw * ((b2.toNat : Int) % 4294967296) % 4294967296) % 4294967296 = x9
            by_cases hx9 : (x9 == hs0) = true
            · by_cases hm3 : (l.drop (k - 1)).take 3 = p
              · have hb3 : ((l.drop (k - 1)).take 3 == p) = true := beq_iff_eq.2 hm3
                have Hm3 := Lib.hid hm3; clear hm3
                go_quiet (fail)
                go_wp2_with fail
                go_ret
                exact ⟨_, rfl, .inr ⟨k - 1, by omega, by omega, by rw [hp]; exact Hm3.out⟩, _, by rw [World.drewN_drewN]⟩
              · have hb3 : ((l.drop (k - 1)).take 3 == p) = false := beq_eq_false_iff_ne.2 hm3
                clear hm3
                go_quiet (fail)
                go_wp2_with fail
                go_roundw
                case rel => exact ⟨_, k - 1, _, rfl, by go_num, by omega, by first | rfl | rw [World.drewN_drewN]⟩
                case measure => simp [intOf]; omega
            · have hx9 : (x9 == hs0) = false := by simpa using hx9
              go_quiet (fail)
              go_wp2_with fail
              go_roundw
              case rel => exact ⟨_, k - 1, _, rfl, by go_num, by omega, by first | rfl | rw [World.drewN_drewN]⟩
              case measure => simp [intOf]; omega
          · obtain rfl : k = 0 := by omega
            go_wp2_with fail
            go_ret
            exact ⟨-1, rfl, .inl rfl, n, rfl⟩
theorem lastIndex_any (s t : Value) (l p : List UInt8) (w : World) (hs : BAt w s l) (ht : BAt w t p) (hp : p.length = 3) (hl2 : l.length ≤ 1000000) :
    Calls Tryz.prog 187 #[s, t] w (LastQ l p w) := by
  have hlen := hs.len 3
  have hlen2 := ht.len 3
  have e3 : (p.length : Int) = 3 := by omega
  rw [e3] at hlen2
  have HP := Lib.hid hp; clear hp e3
  by_cases h3 : l.length = 3
  · have e4 : (l.length : Int) = 3 := by omega
    rw [e4] at hlen
    have HL := Lib.hid h3; clear h3 e4
    have hw : w = w.drewN 0 := rfl
    have HW := Lib.hid hw; clear hw
    by_cases he : l = p
    · have hb : (l == p) = true := beq_iff_eq.2 he
      have HE := Lib.hid he; clear he
      go_enter Tryz.func187, Tryz.ntmps187
      go_wp2_with fail
      refine (equal_any _ _ _ _ w hs ht).mono ?_
      rintro e w' ⟨rfl, rfl⟩
      go_wp2_with fail
      go_ret
      exact ⟨0, rfl, .inr ⟨0, rfl, by rw [HP.out, HL.out]; omega, by rw [List.drop_zero, ← HE.out, List.take_length]⟩, 0, rfl⟩
    · have hb : (l == p) = false := beq_eq_false_iff_ne.2 he
      clear he
      go_enter Tryz.func187, Tryz.ntmps187
      go_wp2_with fail
      refine (equal_any _ _ _ _ w hs ht).mono ?_
      rintro e w' ⟨rfl, rfl⟩
      go_wp2_with fail
      go_ret
      exact ⟨-1, rfl, .inl rfl, 0, rfl⟩
  · by_cases h4 : l.length < 3
    · have h4I : (l.length : Int) < 3 := by omega
      have h5I : ((3 : Int) == (l.length : Int)) = false := beq_eq_false_iff_ne.2 (by omega)
      clear hs ht h3 h4
      go_enter Tryz.func187, Tryz.ntmps187
      go_wp2_with fail
      go_ret
      exact ⟨-1, rfl, .inl rfl, 0, rfl⟩
    · have h4I : ¬ (l.length : Int) < 3 := by omega
      have h5I : ((3 : Int) == (l.length : Int)) = false := beq_eq_false_iff_ne.2 (by omega)
      go_enter Tryz.func187, Tryz.ntmps187
      go_wp2_with fail
      refine (lastRK_any s t l p w hs ht HP.out (by omega) hl2).mono ?_
      rintro e w' ⟨r, rfl, hr, n, rfl⟩
      go_wp2_with fail
      go_ret
      exact ⟨r, rfl, hr, n, rfl⟩
end Go.Proofs.YtlmcglaajmjanaaGreatDoor
