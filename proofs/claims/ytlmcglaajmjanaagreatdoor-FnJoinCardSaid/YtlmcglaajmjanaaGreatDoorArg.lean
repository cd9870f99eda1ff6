/- Lists of arguments in memory; walks of the functions that only look at them. -/
import Derived.Test.YtlmcglaajmjanaaGreatDoorSpe
import Derived.Test.YtlmcglaajmjanaaGreatDoorMk
import Derived.Deep.Slices
namespace Go.Proofs.YtlmcglaajmjanaaGreatDoor
open Go.RowKit
structure AArg where
  kind : Int
  text : ByteArray
  n : Int
def AArg.val (a : AArg) : Value := .agg #[.int .i64 a.kind, .string a.text, .int .i64 a.n]
/-- v is a slice of arguments that reads l in w. -/
def ArgsAt (w : World) (v : Value) (l : List AArg) : Prop :=
  ∃ (p : Option Addr) (a : Addr) (c : Nat), v = .slice p l.length c ∧ l.length ≤ c ∧ c ≤ 9223372036854775807 ∧ (l = [] ∨ p = some a) ∧
    ∀ j (h : j < l.length), w.cell? (a.add (3 * j)) = some (.int .i64 (l[j]'h).kind) ∧ w.cell? (a.add (3 * j + 1)) = some (.string (l[j]'h).text) ∧ w.cell? (a.add (3 * j + 2)) = some (.int .i64 (l[j]'h).n)
theorem und_args : Tryz.prog.underlying 22 = some (.slice (Tryz.prog.elem 22)) := by
  have e : Tryz.prog.elem 22 = 47 := by kernel_rfl
  rw [e]; exact Tryz.underlying22
theorem elem_args : Tryz.prog.elem 22 = 47 := by kernel_rfl
theorem sizeOf_arg (w : World) : (sizeOf 47).run Tryz.prog w = .ok 3 w := by kernel_rfl
theorem ArgsAt.mono {w w' : World} {v : Value} {l : List AArg} (h : ArgsAt w v l) (hk : ∀ a x, w.cell? a = some x → w'.cell? a = some x) : ArgsAt w' v l := by
  obtain ⟨p, a, c, hv, hc, hm, hp, hx⟩ := h
  exact ⟨p, a, c, hv, hc, hm, hp, fun j hj => ⟨hk _ _ (hx j hj).1, hk _ _ (hx j hj).2.1, hk _ _ (hx j hj).2.2⟩⟩
theorem ArgsAt.below {w w' : World} {v : Value} {l : List AArg} (h : ArgsAt w v l) (hb : Below w.heap.size w w') : ArgsAt w' v l :=
  h.mono fun a x hx => by rw [hb.cell (World.block_lt_of_cell? w _ hx)]; exact hx
theorem ArgsAt.len {w : World} {v : Value} {l : List AArg} (h : ArgsAt w v l) (ty : TypeId) : ∀ w', (Builtin.len_ #[22] ty #[v]).run Tryz.prog w' = .ok (.int .i64 l.length) w' := by
  obtain ⟨p, a, c, rfl, hc, hm, hp, hx⟩ := h
  intro w'
  exact run_len_slice w' _ _ _ _ _ und_args
theorem ArgsAt.le {w : World} {v : Value} {l : List AArg} (h : ArgsAt w v l) : l.length ≤ 9223372036854775807 := by
  obtain ⟨p, a, c, rfl, hc, hm, hp, hx⟩ := h
  omega
theorem ArgsAt.cells {W : World} {a : Addr} {n c : Nat} {l : List AArg} (h : ArgsAt W (.slice (some a) n c) l) (j : Nat) (hj : j < l.length) :
    W.cell? ((a.add (j * 3)).add 0) = some (.int .i64 (l[j]'hj).kind) ∧ W.cell? ((a.add (j * 3)).add 1) = some (.string (l[j]'hj).text) ∧ W.cell? ((a.add (j * 3)).add 2) = some (.int .i64 (l[j]'hj).n) := by
  obtain ⟨p, a2, c2, hv, _, _, hp, hx⟩ := h
  have hl : l ≠ [] := by intro hn; rw [hn] at hj; simp at hj
  rcases hp with hp | hp
  · exact absurd hp hl
  injection hv with e1 _ _
  rw [hp] at e1
  injection e1 with e1
  subst e1
  rw [Go.Deep.add_add, Go.Deep.add_add, Go.Deep.add_add, Nat.mul_comm j 3]
  exact hx j hj
theorem ArgsAt.some_ {W : World} {v : Value} {l : List AArg} (h : ArgsAt W v l) (hl : l ≠ []) : ∃ a c, v = .slice (some a) l.length c := by
  obtain ⟨p, a2, c2, hv, _, _, hp, hx⟩ := h
  rcases hp with hp | hp
  · exact absurd hp hl
  · exact ⟨a2, c2, by rw [hv, hp]⟩
theorem ArgsAt.at_ {w : World} {v : Value} {l : List AArg} (h : ArgsAt w v l) (i : Nat) (h1 : i < l.length) :
    ∃ b o : Nat, (∀ w', (Instr.indexAt 22 v (.int .i64 i)).run Tryz.prog w' = .ok (.pointer (some ⟨b, o, none⟩)) w') ∧
      ∀ W, ArgsAt W v l → W.cell? ⟨b, o, none⟩ = some (.int .i64 (l[i]'h1).kind) ∧ W.cell? ⟨b, o + 1, none⟩ = some (.string (l[i]'h1).text) ∧ W.cell? ⟨b, o + 2, none⟩ = some (.int .i64 (l[i]'h1).n) := by
  obtain ⟨a, c, rfl⟩ := h.some_ (by intro hn; rw [hn] at h1; simp at h1)
  have hsp : (a.add (i * 3)).spot = none := by
    have := World.cell?_spot (h.cells i h1).1
    rwa [show (a.add (i * 3)).add 0 = a.add (i * 3) from Go.Deep.add_add a (i * 3) 0] at this
  obtain ⟨b, o, sp⟩ : ∃ b o, a.add (i * 3) = ⟨b, o, none⟩ := ⟨_, _, by rw [← hsp]⟩
  refine ⟨b, o, fun w' => ?_, fun W hW => ?_⟩
  · have h3 : ¬ l.length ≤ i := by omega
    simp [Instr.indexAt, asIntOf, run_underlying und_args, elem_args, h3, sp]
  · obtain ⟨g0, g1, g2⟩ := hW.cells i h1
    rw [show (a.add (i * 3)).add 0 = a.add (i * 3) from Go.Deep.add_add a (i * 3) 0] at g0
    rw [sp] at g0 g1 g2
    rw [add_plain] at g1 g2
    exact ⟨g0, g1, g2⟩
theorem zzFits2_any (k : Int) (t : ByteArray) (n : Int) (w : World) (ht : t.size ≤ 9223372036854775807) :
    Calls Tryz.prog 41 #[.agg #[.int .i64 k, .string t, .int .i64 n]] w (BoolQ (decide (t.size ≤ 2147483647)) w) := by
  by_cases h : t.size ≤ 2147483647
  · rw [decide_eq_true h]
    go_enter Tryz.func41, Tryz.ntmps41
    go_wp2
    go_ret
    exact ⟨rfl, (Below.refl _ _).alloc (Nat.le_refl _) _⟩
  · rw [decide_eq_false h]
    go_enter Tryz.func41, Tryz.ntmps41
    go_wp2
    go_ret
    exact ⟨rfl, (Below.refl _ _).alloc (Nat.le_refl _) _⟩
def fitsB (l : List AArg) : Bool := decide (l.length ≤ 2147483647) && l.all fun a => decide (a.text.size ≤ 2147483647)
theorem all_drop {l : List AArg} {f : AArg → Bool} {k : Nat} {g : Bool} (hk : k < l.length) (h : (l.drop k).all f = g) : (f (l[k]'hk) = false → g = false) ∧ (f (l[k]'hk) = true → (l.drop (k + 1)).all f = g) := by
  rw [List.drop_eq_getElem_cons hk, List.all_cons] at h
  refine ⟨fun hf => by rw [← h, hf]; rfl, fun hf => by rw [← h, hf, Bool.true_and]⟩
def TextOk (l : List AArg) : Prop := ∀ a ∈ l, a.text.size ≤ 9223372036854775807
set_option maxHeartbeats 1000000 in
theorem zzFits1_any (v : Value) (l : List AArg) (w : World) (hA : ArgsAt w v l) (ht : TextOk l) : Calls Tryz.prog 13 #[v] w (BoolQ (fitsB l) w) := by
  have hlen := fun ty => hA.len ty
  have hle := hA.le
  have HA := Lib.hid hA; clear hA
  have HT := Lib.hid ht; clear ht
  by_cases h : l.length ≤ 2147483647
  · have hg : fitsB l = (l.drop 0).all fun a => decide (a.text.size ≤ 2147483647) := by unfold fitsB; rw [decide_eq_true h, Bool.true_and]; rfl
    generalize fitsB l = g at hg ⊢
    have HG := Lib.hid hg; clear hg
    go_enter Tryz.func13, Tryz.ntmps13
    go_wp2
    go_loopw [10] (fun i wr => ∃ k : Nat, i = .int .i64 k ∧ k ≤ l.length ∧ Hid (((l.drop k).all fun a => decide (a.text.size ≤ 2147483647)) = g) ∧ Below w.heap.size w wr)
      (fun i _ => l.length - (intOf i).toNat)
    case atStart => exact ⟨0, rfl, Nat.zero_le _, HG.out.symm, Below.refl _ _⟩
    case round =>
      obtain ⟨k, rfl, hk, hacc, hnx⟩ := hrel
      by_cases hlt : k < l.length
      ·
        obtain ⟨qb, qo, hix, hld0⟩ := HA.out.at_ k hlt
        obtain ⟨c0, c1, c2⟩ := hld0 wr (HA.out.below hnx)
        clear hld0
        obtain ⟨kd, tx, nn, hx⟩ : ∃ kd tx nn, l[k]'hlt = ⟨kd, tx, nn⟩ := ⟨_, _, _, rfl⟩
        rw [hx] at c0 c1 c2
        dsimp only at c0 c1 c2
        have HX := Lib.hid hx; clear hx
        have hwz := hnx.size
        have HS := Lib.hid (all_drop hlt hacc.out)
        have htx : tx.size ≤ 9223372036854775807 := by have := HT.out _ (List.getElem_mem hlt); rw [HX.out] at this; exact this
        cases hb : decide (tx.size ≤ 2147483647) with
        | false =>
          have hg : g = false := HS.out.1 (by rw [HX.out]; exact hb)
          subst hg
          have HB := Lib.hid hb; clear hb
          go_wp2_with fail
          refine (zzFits2_any _ _ _ _ htx).mono ?_
          rw [HB.out]
          rintro e w2 ⟨rfl, hb2⟩
          go_wp2_with fail
          go_ret
          exact ⟨rfl, (hnx.alloc hwz _).trans (hb2.mono (by simp; omega))⟩
        | true =>
          have HR := Lib.hid (HS.out.2 (by rw [HX.out]; exact hb))
          have HB := Lib.hid hb; clear hb
          go_wp2_with fail
          refine (zzFits2_any _ _ _ _ htx).mono ?_
          rw [HB.out]
          rintro e w2 ⟨rfl, hb2⟩
          go_wp2_with fail
          go_roundw
          case rel => exact ⟨k + 1, by go_num, by omega, HR.out, (hnx.alloc hwz _).trans (hb2.mono (by simp; omega))⟩
          case measure => simp [intOf]; omega
      · have hfin : g = true := by
          have h := hacc.out
          rw [List.drop_of_length_le (by omega)] at h
          exact h.symm
        subst hfin
        go_wp2
        go_ret
        exact ⟨rfl, hnx⟩
  · have hg : fitsB l = false := by unfold fitsB; rw [decide_eq_false h, Bool.false_and]
    rw [hg]
    go_enter Tryz.func13, Tryz.ntmps13
    go_wp2
    go_ret
    exact ⟨rfl, Below.refl _ _⟩
end Go.Proofs.YtlmcglaajmjanaaGreatDoor
