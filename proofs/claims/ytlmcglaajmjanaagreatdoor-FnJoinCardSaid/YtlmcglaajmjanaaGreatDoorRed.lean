/- Walks of RedactableString.Redact and impl.Redact: a text is redacted to what redL says. -/
import Derived.Test.YtlmcglaajmjanaaGreatDoorMk
namespace Go.Proofs.YtlmcglaajmjanaaGreatDoor
open Go.RowKit
theorem redactBytes_any (s : Value) (l : List UInt8) (w : World) (hs : BAt w s l) (hl : l.length ≤ 2000) : Calls Tryz.prog 70 #[s] w (BytesQ (redL l) w) := by
  cases hi : idxL mkS l with
  | none => exact redactBytes_none s l w hs hl hi
  | some i => exact redactBytes_some s l w hs hl i hi
def RedQ (l : List UInt8) (w : World) (e : Ending) (w' : World) : Prop := ∃ r : ByteArray, e = .returned (.string r) ∧ Hid (r.data.toList = l) ∧ Below w.heap.size w w'

set_option maxHeartbeats 1000000 in
theorem redactString_any (s : ByteArray) (w : World) (hs : s.size ≤ 1000) : Calls Tryz.prog 45 #[.string s] w (RedQ (redL s.data.toList) w) := by
  have hlen : s.data.toList.length = s.size := (Lib.size_eq s).symm
  have hl : s.data.toList.length ≤ 2000 := by omega
  obtain ⟨v1, w1, hc1, hv1, hb1, _⟩ := toBytes w s 50 Tryz.underlying50 (by omega)
  have HV1 := Lib.hid hv1; clear hv1
  have HL := Lib.hid hlen; clear hlen
  cases hi : idxL mkS s.data.toList with
  | none =>
    have hii := idxI_none hi
    have HR := Lib.hid (redL_none hi)
    have Hi := Lib.hid hi; clear hi
    go_enter Tryz.func45, Tryz.ntmps45
    go_wp2_with fail
    refine (startBytes _).mono ?_
    rintro e w2 ⟨v2, rfl, hv2, hb2, _⟩
    go_wp2_with fail
    refine (index_any _ _ s.data.toList mkS w2 (HV1.out.below hb2) hv2.out (by omega) (by decide) (by decide)).mono ?_
    rintro e w3 ⟨rfl, n, rfl⟩
    go_wp2
    go_ret
    exact ⟨s, rfl, HR.out.symm, below_drewN' (Below.trans' hb1 (Nat.le_refl _) hb2) n⟩
  | some i =>
    have hii := idxI_some hi
    have hd0 : ((i : Int) == -1) = false := beq_eq_false_iff_ne.2 (by omega)
    have Hi := Lib.hid hi; clear hi
    go_enter Tryz.func45, Tryz.ntmps45
    go_wp2_with fail
    refine (startBytes _).mono ?_
    rintro e w2 ⟨v2, rfl, hv2, hb2, _⟩
    go_wp2_with fail
    refine (index_any _ _ s.data.toList mkS w2 (HV1.out.below hb2) hv2.out (by omega) (by decide) (by decide)).mono ?_
    rintro e w3 ⟨rfl, n, rfl⟩
    have hb3 : Below w.heap.size w (w2.drewN n) := below_drewN' (Below.trans' hb1 (Nat.le_refl _) hb2) n
    generalize w2.drewN n = w3 at *
    clear hc1
    obtain ⟨v4, w4, hc4, hv4, hb4, _⟩ := toBytes w3 s 50 Tryz.underlying50 (by omega)
    have HV4 := Lib.hid hv4; clear hv4
    go_wp2_with fail
    refine (redactBytes_any _ s.data.toList w4 HV4.out (by omega)).mono ?_
    rintro e w5 ⟨v5, rfl, hv5, hb5⟩
    have hst := hv5.out.str 50 Tryz.underlying50
    go_wp2
    go_ret
    exact ⟨_, rfl, by show _ = _; simp, Below.trans' (Below.trans' hb3 (Nat.le_refl _) hb4) (Nat.le_refl _) hb5⟩

theorem implRedact_any (s : ByteArray) (w : World) (hs : s.size ≤ 400) : Calls Tryz.prog 17 #[.string s] w (RedQ (redL s.data.toList) w) := by
  go_enter Tryz.func17, Tryz.ntmps17
  go_wp2_with fail
  refine (redactString_any s w (by omega)).mono ?_
  rintro e w1 ⟨r, rfl, hr, hb⟩
  go_wp2
  go_ret
  exact ⟨r, rfl, hr, hb⟩
end Go.Proofs.YtlmcglaajmjanaaGreatDoor
