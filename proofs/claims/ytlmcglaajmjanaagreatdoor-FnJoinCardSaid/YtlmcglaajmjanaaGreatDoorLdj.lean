/- What a row's premises give the walks: a list of texts that came in. -/
import Derived.Test.YtlmcglaajmjanaaGreatDoorLd
import Derived.Test.YtlmcglaajmjanaaGreatDoorZl
import Derived.SliceStrings
namespace Go.Proofs.YtlmcglaajmjanaaGreatDoor
open Go.ChangeShapes Go.WideShapes Go.ChangeAt Go.RowKit Go.Lib
section
variable {H : Type} {enc : TypeId × Value → H}
set_option maxRecDepth 100000 in
theorem open_strs {W : World} {b0 : Nat} {v : Value} {d : DataW H} {p : List MemPlace} (hv : Value.okWide Tryz.prog W .any b0 33 v) (h : DataW.Trod enc Tryz.prog W 0 (fun _ => true) true 33 v d p) :
    ∃ ss : List ByteArray, IfAt (· < W.heap.size) W v (ss.map .string) ∧ ∀ x ∈ ss, x.size ≤ 9223372036854775807 := by
  obtain ⟨fuel, hf⟩ := h
  obtain ⟨sa, sl, sc, rfl⟩ := okWide_slice Tryz.underlying33 hv
  rcases open_strings Tryz.underlying33 Tryz.underlying9 (by kernel_rfl) hf with ⟨hcs, _⟩ | ⟨a, len, cap, zs, hcs, _, hl, hm, hlen, _, hcell, hsz⟩
  · simp [Value.cells] at hcs
    obtain ⟨rfl, rfl, rfl⟩ := hcs
    exact ⟨[], ⟨none, 0, 0, 0, rfl, Nat.le_refl _, by decide, .inl rfl, (fun j hj => by cases hj)⟩, (fun x hx => by cases hx)⟩
  · simp [Value.cells] at hcs
    obtain ⟨rfl, rfl, rfl⟩ := hcs
    rw [if_pos rfl] at hlen
    unfold maxLen at hm hsz
    have htl : ((zs.take sl).map Value.string).length = sl := by simp; omega
    refine ⟨zs.take sl, ?_, fun x hx => hsz x (List.mem_of_mem_take hx)⟩
    have hc : ∀ j, j < sl → W.cell? (a.add j) = some (.string (zs.getD j ByteArray.empty)) := fun j hj => hcell j (by omega)
    by_cases h0 : sl = 0
    · refine ⟨some a, 0, 0, sc, by rw [htl], by rw [htl]; exact hl, hm, .inl (List.eq_nil_of_length_eq_zero (by rw [htl]; exact h0)), fun j hj => by rw [htl] at hj; omega⟩
    · have hsp := World.cell?_spot (hc 0 (by omega))
      simp [Addr.add] at hsp
      obtain ⟨b, o, sp⟩ := a
      obtain rfl : sp = none := hsp
      refine ⟨_, b, o, sc, by rw [htl], by rw [htl]; exact hl, hm, .inr ⟨rfl, World.block_lt_of_cell? W _ (hc 0 (by omega))⟩, fun j hj => ?_⟩
      rw [htl] at hj
      have h1 := hc j hj
      rw [add_plain] at h1
      rw [h1]
      simp [List.getD, List.getElem?_eq_getElem (show j < zs.length by omega)]
end
end Go.Proofs.YtlmcglaajmjanaaGreatDoor
