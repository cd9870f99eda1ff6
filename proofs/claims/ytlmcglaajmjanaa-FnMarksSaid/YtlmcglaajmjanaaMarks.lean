/- Walk of impl.Marks: the three texts. -/
import Derived.Test.YtlmcglaajmjanaaRed
namespace Go.Proofs.Ytlmcglaajmjanaa
open Go.RowKit
theorem startMarker (w : World) : Calls Try.prog 8 #[] w (LitQ mkS w) := by
  have kc := fun (w : World) (C : Array Value) (n c : Nat) => Lib.run_convert_bytes_const (P := Try.prog) w 28 5 C n c Try.underlying28 Try.underlying5
  go_enter Try.func8, Try.ntmps8
  go_wp2
  go_ret
  exact LitQ.mk w mkS _ _ (by decide) rfl
theorem endMarker (w : World) : Calls Try.prog 9 #[] w (LitQ mkE w) := by
  have kc := fun (w : World) (C : Array Value) (n c : Nat) => Lib.run_convert_bytes_const (P := Try.prog) w 28 5 C n c Try.underlying28 Try.underlying5
  go_enter Try.func9, Try.ntmps9
  go_wp2
  go_ret
  exact LitQ.mk w mkE _ _ (by decide) rfl
theorem redactedMarker (w : World) : Calls Try.prog 10 #[] w (LitQ mkX w) := by
  have kc := fun (w : World) (C : Array Value) (n c : Nat) => Lib.run_convert_bytes_const (P := Try.prog) w 28 5 C n c Try.underlying28 Try.underlying5
  go_enter Try.func10, Try.ntmps10
  go_wp2
  go_ret
  exact LitQ.mk w mkX _ _ (by decide) rfl
def MarksQ (w : World) (e : Ending) (w' : World) : Prop := ∃ b, e = .returned (.slice (some ⟨b, 0, none⟩) 3 3) ∧ w'.heap[b]? = some (.cells #[.string ⟨#[226, 128, 185]⟩, .string ⟨#[226, 128, 186]⟩, .string ⟨#[226, 128, 185, 195, 151, 226, 128, 186]⟩] 9 (0, 0)) ∧ Below w.heap.size w w'
set_option maxHeartbeats 4000000 in
theorem marks_any (w : World) : Calls Try.prog 4 #[] w (MarksQ w) := by
  go_enter Try.func4, Try.ntmps4
  go_wp2_with fail
  go_region_with (first | (go_at_call 8; refine (startMarker _).mono ?_; rintro e w1 ⟨v1, rfl, hv1, hb1, _⟩; have hs1 : (convert 28 9 v1).run Try.prog w1 = .ok (.string ⟨#[226, 128, 185]⟩) w1 := hv1.out.str 9 Try.underlying9) | (go_at_call 9; refine (endMarker _).mono ?_; rintro e w2 ⟨v2, rfl, hv2, hb2, _⟩; have hs2 : (convert 28 9 v2).run Try.prog w2 = .ok (.string ⟨#[226, 128, 186]⟩) w2 := hv2.out.str 9 Try.underlying9; have hs12 : (convert 28 9 v1).run Try.prog w2 = .ok (.string ⟨#[226, 128, 185]⟩) w2 := (hv1.out.below hb2).str 9 Try.underlying9) | (go_at_call 10; refine (redactedMarker _).mono ?_; rintro e w3 ⟨v3, rfl, hv3, hb3, _⟩; have hs3 : (convert 28 9 v3).run Try.prog w3 = .ok (.string ⟨#[226, 128, 185, 195, 151, 226, 128, 186]⟩) w3 := hv3.out.str 9 Try.underlying9; have hs23 : (convert 28 9 v2).run Try.prog w3 = .ok (.string ⟨#[226, 128, 186]⟩) w3 := (hv2.out.below hb3).str 9 Try.underlying9; have hs13 : (convert 28 9 v1).run Try.prog w3 = .ok (.string ⟨#[226, 128, 185]⟩) w3 := ((hv1.out.below hb2).below hb3).str 9 Try.underlying9))
  all_goals
    have hb : Below w.heap.size w w3 := Below.trans' (Below.trans' (Below.trans' (Below.drew (Below.refl _ w)) (Nat.le_refl _) hb1) (Nat.le_refl _) hb2) (Nat.le_refl _) hb3
    simp only [Act.put, List.getElem_toArray, List.getElem_cons_succ, List.getElem_cons_zero, List.setIfInBounds_toArray, List.set_cons_zero]
    go_wp2
    go_ret
    exact ⟨_, rfl, heap_alloc_new w3 _, hb.alloc hb.size _⟩
end Go.Proofs.Ytlmcglaajmjanaa
