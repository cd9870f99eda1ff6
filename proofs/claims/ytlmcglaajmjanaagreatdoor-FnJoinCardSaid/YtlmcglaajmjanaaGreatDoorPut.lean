/- Plain words: what an argument put behind a text makes, in runes; what a list of them makes. -/
import Derived.Test.YtlmcglaajmjanaaGreatDoorArg
import Derived.Test.YtlmcglaajmjanaaGreatDoorPs
namespace Go.Proofs.YtlmcglaajmjanaaGreatDoor
open Go.RowKit
def AArg.isText (a : AArg) : Bool := a.kind == 0 || a.kind == 4
/-- One of six kinds; a right text; a number. -/
structure AArg.Ok (a : AArg) : Prop where
  kd : a.kind = 0 ∨ a.kind = 1 ∨ a.kind = 2 ∨ a.kind = 3 ∨ a.kind = 4 ∨ a.kind = 5
  tx : Txt a.text (runes a.text)
  sf : a.kind = 1 → NoM (runes a.text)
  mk1 : a.kind = 4 → Mk (runes a.text)
  n0 : -9223372036854775808 ≤ a.n
  n1 : a.n ≤ 9223372036854775807
def putN (o : List Nat) (a : AArg) : List Nat :=
  if a.kind = 1 ∨ a.kind = 4 then o ++ runes a.text else if a.kind = 2 then unsafeN o (numN a.n) else if a.kind = 3 then o ++ numN a.n else unsafeN o (runes a.text)
def sprG (o : List Nat) (prev : Option Bool) : List AArg → List Nat
  | [] => o
  | a :: l => sprG (putN (if prev == some false && !a.isText then o ++ [32] else o) a) (some a.isText) l
theorem GoodT.put {o : List Nat} {n : Nat} {a : AArg} (h : GoodT o n) (ha : a.Ok) : GoodT (putN o a) (n + 410) := by
  have hx := ha.tx.len
  have hn := numL_le a.n
  have hle := h.le
  unfold putN
  split
  · rename_i hk
    refine ⟨h.sc.append ha.tx.sc, h.mkd.append ?_, by rw [encs_append, List.length_append]; omega⟩
    rcases hk with hk | hk
    · exact Mk.safe (ha.sf hk)
    · exact ha.mk1 hk
  · split
    · exact ⟨h.sc.unsafeN (numN_sc _), h.mkd.unsafeN, by have := unsafeN_le (o := o) (numN_sc a.n); rw [numN_enc] at this; omega⟩
    · split
      · exact ⟨h.sc.append (numN_sc _), h.mkd.append (Mk.safe (numN_noM _)), by rw [encs_append, List.length_append, numN_enc]; omega⟩
      · exact ⟨h.sc.unsafeN ha.tx.sc, h.mkd.unsafeN, by have := unsafeN_le (o := o) ha.tx.sc; omega⟩
theorem GoodT.nil : GoodT [] 0 := ⟨Scs.nil, Mk.nil, by simp [encs_nil]⟩
theorem blank_noM : NoM [32] := fun x hx => by simp at hx; subst hx; rfl
theorem GoodT.blank {o : List Nat} {n : Nat} (h : GoodT o n) : GoodT (o ++ [32]) (n + 1) :=
  ⟨h.sc.append (Scs.one (sc_lt (by omega))), h.mkd.append (Mk.safe blank_noM), by have := h.le; rw [encs_append, List.length_append, encs_one, encL_ascii 32 (by omega)]; simp; omega⟩
theorem GoodT.mono {o : List Nat} {n m : Nat} (h : GoodT o n) (hm : n ≤ m) : GoodT o m := ⟨h.sc, h.mkd, Nat.le_trans h.le hm⟩
theorem GoodT.spr : ∀ (l : List AArg) (o : List Nat) (prev : Option Bool) (n : Nat), GoodT o n → (∀ a ∈ l, a.Ok) → GoodT (sprG o prev l) (n + 411 * l.length) := by
  intro l
  induction l with
  | nil => intro o prev n h _; exact h
  | cons a l ih =>
    intro o prev n h ha
    have h1 : GoodT (if prev == some false && !a.isText then o ++ [32] else o) (n + 1) := by
      split
      · exact h.blank
      · exact h.mono (by omega)
    have h2 := h1.put (ha a (List.mem_cons_self ..))
    have h3 := ih _ (some a.isText) _ h2 (fun x hx => ha x (List.mem_cons_of_mem _ hx))
    exact h3.mono (by simp; omega)
end Go.Proofs.YtlmcglaajmjanaaGreatDoor
