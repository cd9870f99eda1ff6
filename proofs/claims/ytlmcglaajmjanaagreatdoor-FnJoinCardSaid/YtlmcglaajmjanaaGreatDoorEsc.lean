/- What InternalEscapeBytes makes of a text, and its walk. -/
import Derived.Test.YtlmcglaajmjanaaGreatDoorByt
import Derived.Test.YtlmcglaajmjanaaGreatDoorBuf
import Derived.Test.YtlmcglaajmjanaaGreatDoorPln
namespace Go.Proofs.YtlmcglaajmjanaaGreatDoor
open Go.RowKit
theorem hashBytes (w : World) : Calls Tryz.prog 109 #[] w (LitQ mkH w) := by
  have kc := fun (w : World) (C : Array Value) (n c : Nat) => Lib.run_convert_bytes_const (P := Tryz.prog) w 31 5 C n c Tryz.underlying31 Tryz.underlying5
  go_enter Tryz.func109, Tryz.ntmps109
  go_wp2
  go_ret
  exact LitQ.mk w mkH _ _ (by decide) rfl
theorem escapeBytes (w : World) : Calls Tryz.prog 83 #[] w (LitQ [63] w) := by
  have kc := fun (w : World) (C : Array Value) (n c : Nat) => Lib.run_convert_bytes_const (P := Tryz.prog) w 31 5 C n c Tryz.underlying31 Tryz.underlying5
  go_enter Tryz.func83, Tryz.ntmps83
  go_wp2
  go_ret
  exact LitQ.mk w [63] _ _ (by decide) rfl

theorem Own.upto {w : World} {B : Nat} {v : Value} {l : List UInt8} (h : Own w B v l) (hi : Int) (h0 : 0 ≤ hi) (h1 : hi ≤ l.length) :
    ∃ v', (∀ w', (Instr.sliceAt 31 v none (some (.int .i64 hi)) none).run Tryz.prog w' = .ok v' w') ∧ (∀ W, Own W B v l → Own W B v' (l.take hi.toNat)) ∧ v'.ownBlock = v.ownBlock := by
  obtain ⟨_, h2⟩ := h
  rcases h2 with ⟨rfl, hn⟩ | ⟨g, cap, cur, rfl, hg, hh, hc, hm, hcs, ht⟩
  · have hl : l = [] := List.eq_nil_of_length_eq_zero hn
    subst hl
    obtain rfl : hi = 0 := by simp at h1; omega
    exact ⟨.slice none 0 0, fun w' => slice_hi none 0 0 0 (by omega) (by omega) (fun x hx => by cases hx) w', fun W hW => hW, rfl⟩
  · refine ⟨_, fun w' => slice_hi (some ⟨g, 0, none⟩) l.length cap hi h0 (by omega) (fun x hx => by cases hx; rfl) w', ?_, rfl⟩
    rintro W ⟨_, h2'⟩
    have hlen : (l.take hi.toNat).length = hi.toNat := by simp; omega
    refine ⟨by simp [Lib.byteCells], .inr ?_⟩
    rcases h2' with ⟨hv, _⟩ | ⟨g', cap', cur', hv, hg', hh', hc', hm', hcs', ht'⟩
    · cases hv
    · injection hv with e1 e2 e3
      injection e1 with e1
      injection e1 with e1 _ _
      subst e1; subst e3
      refine ⟨g, cap, cur', by rw [hlen], hg', hh', by rw [hlen]; omega, hm', hcs', ?_⟩
      rw [hlen]
      have : cur'.toList.take (hi.toNat * 1) = (cur'.toList.take (l.length * 1)).take hi.toNat := by rw [List.take_take]; congr 1; omega
      rw [this, ht']; simp [Lib.byteCells, List.map_take]
end Go.Proofs.YtlmcglaajmjanaaGreatDoor
