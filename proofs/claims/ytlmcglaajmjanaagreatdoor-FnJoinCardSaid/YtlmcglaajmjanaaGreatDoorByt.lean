/- Walks of package bytes' small functions and of utf8.DecodeLastRune, over slices told by what they read. -/
import Derived.Test.YtlmcglaajmjanaaGreatDoorMk
import Derived.Test.YtlmcglaajmjanaaGreatDoorPln
import Derived.Test.YtlmcglaajmjanaaGreatDoorShelf
namespace Go.Proofs.YtlmcglaajmjanaaGreatDoor
open Go.RowKit
theorem equal_any (s t : Value) (l m : List UInt8) (w : World) (hs : BAt w s l) (ht : BAt w t m) : Calls Tryz.prog 111 #[s, t] w fun e w' => e = .returned (.bool (l == m)) ∧ w = w' := by
  have h1 := hs.str 9 Tryz.underlying9
  have h2 := ht.str 9 Tryz.underlying9
  clear hs ht
  go_enter Tryz.func111, Tryz.ntmps111
  go_wp2
  go_ret
  exact ⟨rfl, rfl⟩
theorem hasSuffix_any (s t : Value) (l m : List UInt8) (w : World) (hs : BAt w s l) (ht : BAt w t m) : Calls Tryz.prog 110 #[s, t] w fun e w' => e = .returned (.bool (Lib.hasSuffix l m)) ∧ w = w' := by
  have h1 := hs.len 3
  have h2 := ht.len 3
  have hll : (l.length : Int) ≤ 9223372036854775807 := by obtain ⟨_, _, _, _, _, h, h', _⟩ := hs; omega
  have hml : (m.length : Int) ≤ 9223372036854775807 := by obtain ⟨_, _, _, _, _, h, h', _⟩ := ht; omega
  by_cases hl : m.length ≤ l.length
  · obtain ⟨v, hfr, hv⟩ := hs.from_ (l.length - m.length : Int) (by omega) (by omega)
    have hv := Lib.hid (hv _ hs)
    have ht := Lib.hid ht
    clear hs
    have hlI : (m.length : Int) ≤ (l.length : Int) := by omega
    go_enter Tryz.func110, Tryz.ntmps110
    go_wp2_with fail
    refine (equal_any _ _ _ _ w hv.out ht.out).mono ?_
    rintro e w' ⟨rfl, rfl⟩
    go_wp2
    go_ret
    refine ⟨?_, rfl⟩
    rw [← Lib.hasSuffix_of_drop]
    simp [hl]
  · have hlI : ¬ (m.length : Int) ≤ (l.length : Int) := by omega
    have hf : Lib.hasSuffix l m = false := by
      cases hb : Lib.hasSuffix l m with
      | false => rfl
      | true => exact absurd (suffix_len hb) hl
    clear hs ht
    go_enter Tryz.func110, Tryz.ntmps110
    go_wp2_with fail
    go_ret
    exact ⟨rfl, rfl⟩
theorem hasPrefix_any (s t : Value) (l m : List UInt8) (w : World) (hs : BAt w s l) (ht : BAt w t m) : Calls Tryz.prog 188 #[s, t] w fun e w' => e = .returned (.bool (l.take m.length == m)) ∧ w = w' := by
  have h1 := hs.len 3
  have h2 := ht.len 3
  by_cases hl : m.length ≤ l.length
  · obtain ⟨v, hfr, hv⟩ := hs.upto (m.length : Int) (by omega) (by omega)
    have hv := Lib.hid (hv _ hs)
    have ht := Lib.hid ht
    clear hs
    have hlI : (m.length : Int) ≤ (l.length : Int) := by omega
    go_enter Tryz.func188, Tryz.ntmps188
    go_wp2_with fail
    refine (equal_any _ _ _ _ w hv.out ht.out).mono ?_
    rintro e w' ⟨rfl, rfl⟩
    go_wp2
    go_ret
    refine ⟨?_, rfl⟩
    simp
  · have hlI : ¬ (m.length : Int) ≤ (l.length : Int) := by omega
    have hf : (l.take m.length == m) = false := by
      refine beq_eq_false_iff_ne.2 fun h => ?_
      have := congrArg List.length h
      simp at this; omega
    clear hs ht
    go_enter Tryz.func188, Tryz.ntmps188
    go_wp2_with fail
    go_ret
    exact ⟨rfl, rfl⟩
/-- The two tables that the decoder reads stand. -/
abbrev Tabs (w : World) : Prop := Lib.Utf8Tabs 1 2 w
theorem Tabs.below {w w' : World} {B : Nat} (h : Tabs w) (hb : Below B w w') (hB : 2 < B) : Tabs w' := by
  refine ⟨fun c hc => ?_, fun i hi => ⟨?_, ?_⟩⟩
  · have := h.1 c hc
    rw [← this]; exact World.cell?_of_block (hb.block 1 (by omega))
  · have := (h.2 i hi).1
    rw [← this]; exact World.cell?_of_block (hb.block 2 (by omega))
  · have := (h.2 i hi).2
    rw [← this]; exact World.cell?_of_block (hb.block 2 (by omega))
theorem decodeLast_any (s : Value) (l : List UInt8) (w : World) (hs : BAt w s l) (hT : Tabs w) : Calls Tryz.prog 112 #[s] w fun e w' => e = .returned (.tuple #[.int .i32 (Lib.decodeLastL l).1, .int .i64 (Lib.decodeLastL l).2]) ∧ Below w.heap.size w w' := by
  obtain ⟨p, b, o, c, rfl, hc, hm, hp, hx⟩ := hs
  rcases hp with ⟨rfl, hp⟩ | rfl
  · clear hx
    go_enter Tryz.func112, Tryz.ntmps112
    go_wp2
    go_ret2
    exact ⟨rfl, Below.refl _ _⟩
  · have e : (⟨l.toArray⟩ : ByteArray).size = l.length := by simp [ByteArray.size]
    have := Tryz.utf8_DecodeLastRune ⟨l.toArray⟩ b o c w (by omega) (fun j hj => by
      rw [e] at hj
      rw [hx j hj]
      congr 3
      simp [ByteArray.get!, hj]) (by omega) hT
    rw [e] at this
    simpa using this
end Go.Proofs.YtlmcglaajmjanaaGreatDoor
