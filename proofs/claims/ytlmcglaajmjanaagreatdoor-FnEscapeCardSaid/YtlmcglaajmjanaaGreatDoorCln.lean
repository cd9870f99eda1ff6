/- slices.Clone of bytes; what impl does with bytes: StripBytes, RedactBytes, EscapeMarkers. -/
import Derived.Test.YtlmcglaajmjanaaGreatDoorStx
namespace Go.Proofs.YtlmcglaajmjanaaGreatDoor
open Go.RowKit
attribute [local irreducible] Utf8.encode Utf8.decode
theorem Own.appendN {w : World} {B : Nat} {v s : Value} {l m : List UInt8} (h : Own w B v l) (hs : BAt w s m) (hv : v ≠ .slice none 0 0) (hsz : l.length + m.length ≤ 1000000) (hB : B ≤ w.heap.size) (ty : TypeId) :
    ∃ v' w', (Builtin.append_ #[31, 31] ty #[v, s]).run Tryz.prog w = .ok v' w' ∧ Own w' B v' (l ++ m) ∧ NonNil v' ∧ w.grownBy w' v.ownBlock := by
  obtain ⟨v', w', hr, ho, hg⟩ := h.append hs hsz hB ty
  refine ⟨v', w', hr, ho, ?_, hg⟩
  obtain ⟨i0, hi, hz0, hz1, hz2⟩ := info_parts Tryz.infoB
  obtain ⟨p, b, o, c, rfl, hc, hm, hp, hx⟩ := hs
  have nn : ∀ {v : Value} {w : World} {t : List UInt8}, Own w B v t → v ≠ .slice none 0 0 → NonNil v := by
    intro v w t h hv
    rcases h.2 with ⟨rfl, _⟩ | ⟨g, cap, cur, rfl, _⟩
    · exact absurd rfl hv
    · exact ⟨_, _, _, _, rfl⟩
  have key : ∀ a : Addr, (∀ j u, (Lib.byteCells m)[j]? = some u → w.cell? (a.add j) = some u) → p = some a → NonNil v' := by
    intro a ha hpa
    subst hpa
    obtain ⟨v2, w2, hr2, ho2, hg2, hn2⟩ := run_append_own (P := Tryz.prog) w B 31 ty 5 i0 (.int .u8 0) 1 1 Tryz.underlying31 hi hz0 hz1 hz2 rfl (by decide) v l.length (Lib.byteCells l) h
      a m.length c (Lib.byteCells m) (by simp [Lib.byteCells]) ha (Lib.byteCells_one m) (by unfold maxLen; omega) (by omega) hB
    have e := hr.symm.trans hr2
    injection e with e1 e2
    refine nn ho fun hnil => hv (hn2.1 (e1 ▸ hnil)).1
  rcases hp with ⟨rfl, hp⟩ | rfl
  · cases p with
    | none =>
      have := hp rfl
      subst this
      have hr2 := run_append_owned_none w B 31 ty 5 i0 1 Tryz.underlying31 hi v l.length (Lib.byteCells l) h
      have e := hr.symm.trans hr2
      injection e with e1 e2
      exact nn ho (e1 ▸ hv)
    | some a => exact key a (fun j u hj => by simp [Lib.byteCells] at hj) rfl
  · refine key _ (fun j u hj => ?_) rfl
    simp only [Lib.byteCells, List.getElem?_map, Option.map_eq_some_iff] at hj
    obtain ⟨x, hx1, rfl⟩ := hj
    obtain ⟨hj1, rfl⟩ := List.getElem?_eq_some_iff.1 hx1
    rw [add_plain]; exact hx j hj1
def CloneQ (s : Value) (l : List UInt8) (w : World) (e : Ending) (w' : World) : Prop := ∃ v, e = .returned v ∧ Hid (BAt w' v l) ∧ Hid (NonNil s → NonNil v) ∧ Below w.heap.size w w'
set_option maxHeartbeats 1000000 in
theorem clone_any (s : Value) (l : List UInt8) (w : World) (hs : BAt w s l) (hl : l.length ≤ 100000) : Calls Tryz.prog 51 #[s] w (CloneQ s l w) := by
  have q22 : ∀ (w : World) (a : Option Addr) (n c n' c' : Nat), (binOp .eql 31 (.slice a n c) (.slice none n' c')).run Tryz.prog w = .ok (.bool a.isNone) w := fun w a n c n' c' => Lib.run_eql_slice_nil w _ _ a n c n' c' Tryz.underlying31
  obtain ⟨p, n, c, rfl, hpl⟩ : ∃ p n c, s = .slice p n c ∧ (p = none → l = []) := by
    obtain ⟨p, b, o, c, hv, hc, hm, hp, hx⟩ := hs
    refine ⟨p, _, c, hv, fun hn => ?_⟩
    rcases hp with hp | hp
    · exact hp.1
    · rw [hn] at hp; cases hp
  cases p with
  | none =>
    have HE := Lib.hid (hpl rfl); clear hpl hs
    go_enter Tryz.func51, Tryz.ntmps51
    go_wp2_with fail
    go_ret
    exact ⟨_, rfl, by show BAt _ _ _; rw [HE.out]; exact bat_nil _, fun h => by obtain ⟨_, _, _, _, h⟩ := h; (cases h), Below.refl _ _⟩
  | some a =>
    clear hpl
    have hown0 : Own (w.alloc (.cells #[] 5)) w.heap.size (.slice (some ⟨w.heap.size, 0, none⟩) 0 0) [] := World.ownsRow_made w #[] 0 (Nat.le_refl _) (Nat.zero_le _) rfl
    have hb0 : Below w.heap.size w (w.alloc (.cells #[] 5)) := (Below.refl _ w).alloc (Nat.le_refl _) _
    obtain ⟨v', w1, hap, hown, hnn, hg⟩ := hown0.appendN (hs.below hb0) (by intro h; cases h) (by simp; omega) (by simp) 31
    have hb1 : Below w.heap.size w w1 := hb0.grown hg (by simp) (by intro k hk; simp [Value.ownBlock] at hk; omega)
    have HO := Lib.hid hown; clear hown hown0 hg hb0 hs
    have HN := Lib.hid hnn; clear hnn
    go_enter Tryz.func51, Tryz.ntmps51
    go_wp2_with (at_builtin; refine wpList_append_known _ rfl _ _ rfl _ _ rfl rfl hap ?_)
    go_ret
    exact ⟨v', rfl, by show BAt _ _ _; exact (by simpa using HO.out : Own _ _ _ l).bat, fun _ => HN.out, hb1⟩
theorem stripBytes_any (s : Value) (l : List UInt8) (w : World) (hs : BAt w s l) (hn : NonNil s) (hl : l.length ≤ 2000) : Calls Tryz.prog 59 #[s] w (BytesQ (stL [] l) w) := by
  have HS := Lib.hid hs; clear hs
  have HN := Lib.hid hn; clear hn
  go_enter Tryz.func59, Tryz.ntmps59
  go_wp2_with fail
  refine (strip_any _ _ l [] w HS.out HN.out (bat_nil _) (by decide) hl).mono ?_
  rintro e w1 ⟨v1, rfl, hv1, hb1⟩
  go_wp2_with fail
  go_ret
  exact ⟨v1, rfl, hv1, hb1⟩
theorem redactBytesM_any (s : Value) (l : List UInt8) (w : World) (hs : BAt w s l) (hl : l.length ≤ 2000) : Calls Tryz.prog 52 #[s] w (BytesQ (redL l) w) := by
  have HS := Lib.hid hs; clear hs
  go_enter Tryz.func52, Tryz.ntmps52
  go_wp2_with fail
  refine (redactBytes_any _ l w HS.out hl).mono ?_
  rintro e w1 ⟨v1, rfl, hv1, hb1⟩
  go_wp2_with fail
  go_ret
  exact ⟨v1, rfl, hv1, hb1⟩
theorem escapeMarkers_any (s : Value) (l : List UInt8) (w : World) (hs : BAt w s l) (hn : NonNil s) (hl : l.length ≤ 2000) : Calls Tryz.prog 58 #[s] w (BytesQ (stL [63] l) w) := by
  have HS := Lib.hid hs; clear hs
  have HN := Lib.hid hn; clear hn
  go_enter Tryz.func58, Tryz.ntmps58
  go_wp2_with fail
  refine (escapeBytes _).mono ?_
  rintro e w0 ⟨v0, rfl, hv0, hb0, _⟩
  go_wp2_with fail
  refine (strip_any _ _ l [63] w0 (HS.out.below hb0) HN.out hv0.out (by decide) hl).mono ?_
  rintro e w1 ⟨v1, rfl, hv1, hb1⟩
  go_wp2_with fail
  go_ret
  exact ⟨v1, rfl, hv1, hb0.trans (hb1.mono hb0.size)⟩
theorem stripF_len (rl : List UInt8) (h3 : rl.length ≤ 3) : ∀ (f : Nat) (l : List UInt8), (stripF rl f l).length ≤ 3 * l.length := by
  intro f
  induction f with
  | zero => intro l; simp [stripF]
  | succ f ih =>
    intro l
    cases l with
    | nil => simp [stripF]
    | cons x xs =>
      simp only [stripF]
      split
      · rename_i h
        have hl : 3 ≤ (x :: xs).length := by
          rw [isMk_iff] at h
          have : ((x :: xs).take 3).length = 3 := by rcases h with h | h | h <;> rw [h] <;> rfl
          simp at this ⊢; omega
        have := ih ((x :: xs).drop 3)
        simp at this hl ⊢; omega
      · have := ih xs
        simp; omega
theorem stL_len {rl : List UInt8} (h3 : rl.length ≤ 3) (l : List UInt8) : (stL rl l).length ≤ 3 * l.length := stripF_len rl h3 _ l
theorem redF_len : ∀ (f : Nat) (l : List UInt8), (redF f l).length ≤ 2 * l.length := by
  intro f
  induction f with
  | zero => intro l; simp only [redF]; omega
  | succ f ih =>
    intro l
    simp only [redF]
    cases hi : idxL mkS l with
    | none => simp only; omega
    | some i =>
      simp only
      cases hj : idxL mkE (l.drop (i + 3)) with
      | none => simp only; omega
      | some j =>
        simp only
        have h1 := (idxL_le mkS l i hi).1
        have h2 := (idxL_le mkE _ j hj).1
        have h3 := ih (l.drop (i + 3 + j + 3))
        have e1 : mkS.length = 3 := rfl
        have e2 : mkE.length = 3 := rfl
        have e3 : mkX.length = 8 := rfl
        simp only [List.length_append, List.length_take, List.length_drop] at *
        omega
theorem redL_len (l : List UInt8) : (redL l).length ≤ 2 * l.length := redF_len _ l
theorem implStripBytes_any (s : Value) (l : List UInt8) (w : World) (hs : BAt w s l) (hn : NonNil s) (hl : l.length ≤ 400) : Calls Tryz.prog 32 #[s] w (BytesQ (stL [] l) w) := by
  have hlen := hs.len 3
  have hd : decide ((400 : Int) < (l.length : Int)) = false := by simp; omega
  have hd2 : decide (400 < l.length) = false := by simp; omega
  have HS := Lib.hid hs; clear hs
  have HN := Lib.hid hn; clear hn
  go_enter Tryz.func32, Tryz.ntmps32
  go_wp2_with fail
  refine (clone_any _ l _ HS.out (by omega)).mono ?_
  rintro e w1 ⟨v1, rfl, hv1, hn1, hb1⟩
  go_wp2_with fail
  refine (stripBytes_any _ l _ hv1.out (hn1.out HN.out) (by omega)).mono ?_
  rintro e w2 ⟨v2, rfl, hv2, hb2⟩
  have hb2 := hb1.trans (hb2.mono hb1.size)
  clear hb1 hv1 hn1
  go_wp2_with fail
  refine (clone_any _ _ _ hv2.out (by have := stL_len (rl := []) (by decide) l; omega)).mono ?_
  rintro e w3 ⟨v3, rfl, hv3, _, hb3⟩
  have hb3 := hb2.trans (hb3.mono hb2.size)
  clear hb2 hv2
  go_wp2_with fail
  go_ret
  exact ⟨v3, rfl, hv3, hb3⟩
theorem implEscapeMarkers_any (s : Value) (l : List UInt8) (w : World) (hs : BAt w s l) (hn : NonNil s) (hl : l.length ≤ 400) : Calls Tryz.prog 30 #[s] w (BytesQ (stL [63] l) w) := by
  have hlen := hs.len 3
  have hd : decide ((400 : Int) < (l.length : Int)) = false := by simp; omega
  have hd2 : decide (400 < l.length) = false := by simp; omega
  have HS := Lib.hid hs; clear hs
  have HN := Lib.hid hn; clear hn
  go_enter Tryz.func30, Tryz.ntmps30
  go_wp2_with fail
  refine (clone_any _ l _ HS.out (by omega)).mono ?_
  rintro e w1 ⟨v1, rfl, hv1, hn1, hb1⟩
  go_wp2_with fail
  refine (escapeMarkers_any _ l _ hv1.out (hn1.out HN.out) (by omega)).mono ?_
  rintro e w2 ⟨v2, rfl, hv2, hb2⟩
  have hb2 := hb1.trans (hb2.mono hb1.size)
  clear hb1 hv1 hn1
  go_wp2_with fail
  refine (clone_any _ _ _ hv2.out (by have := stL_len (rl := [63]) (by decide) l; omega)).mono ?_
  rintro e w3 ⟨v3, rfl, hv3, _, hb3⟩
  have hb3 := hb2.trans (hb3.mono hb2.size)
  clear hb2 hv2
  go_wp2_with fail
  go_ret
  exact ⟨v3, rfl, hv3, hb3⟩
theorem implRedactBytes_any (s : Value) (l : List UInt8) (w : World) (hs : BAt w s l) (hn : NonNil s) (hl : l.length ≤ 400) : Calls Tryz.prog 22 #[s] w (BytesQ (redL l) w) := by
  have hlen := hs.len 3
  have hd : decide ((400 : Int) < (l.length : Int)) = false := by simp; omega
  have hd2 : decide (400 < l.length) = false := by simp; omega
  have HS := Lib.hid hs; clear hs
  have HN := Lib.hid hn; clear hn
  go_enter Tryz.func22, Tryz.ntmps22
  go_wp2_with fail
  refine (clone_any _ l _ HS.out (by omega)).mono ?_
  rintro e w1 ⟨v1, rfl, hv1, hn1, hb1⟩
  go_wp2_with fail
  refine (redactBytesM_any _ l _ hv1.out (by omega)).mono ?_
  rintro e w2 ⟨v2, rfl, hv2, hb2⟩
  have hb2 := hb1.trans (hb2.mono hb1.size)
  clear hb1 hv1 hn1
  go_wp2_with fail
  refine (clone_any _ _ _ hv2.out (by have := redL_len l; omega)).mono ?_
  rintro e w3 ⟨v3, rfl, hv3, _, hb3⟩
  have hb3 := hb2.trans (hb3.mono hb2.size)
  clear hb2 hv2
  go_wp2_with fail
  go_ret
  exact ⟨v3, rfl, hv3, hb3⟩
end Go.Proofs.YtlmcglaajmjanaaGreatDoor
