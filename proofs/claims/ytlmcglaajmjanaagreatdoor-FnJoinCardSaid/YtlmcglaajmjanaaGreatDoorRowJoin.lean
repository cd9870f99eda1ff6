/- FnJoin returns true for every text and leaves it as it was; its card. What it asks: that the listed package-level variables read as the program's text lays them. -/
import Derived.Test.YtlmcglaajmjanaaGreatDoorLd
import Derived.ChangeMaps5
import Derived.Test.YtlmcglaajmjanaaGreatDoorLdj
import Derived.Test.YtlmcglaajmjanaaGreatDoorJo
import Derived.Test.YtlmcglaajmjanaaGreatDoorCards
import Derived.Test.YtlmcglaajmjanaaGreatDoorTie
namespace Go.Proofs.YtlmcglaajmjanaaGreatDoor
open Go.ChangeShapes Go.WideShapes Go.ChangeAt Go.RowKit Go.Lib
set_option maxRecDepth 100000 in
theorem fnJoin_lifted (os : Os) (started : os.Started) (H : Type) (enc : TypeId × Value → H) :
    ReturnsInHanded {} Tryz.checked os 6 .any (fun w args => (Rows.fnJoinSpec.pre enc Tryz.prog Tryz.f6 Rows.fnJoinRow.domain false w args ∧ laidMetH Tryz.prog Rows.fnJoinRow.laid w) ∧ sizedMet enc Tryz.prog Tryz.f6 (OpenSpec.ofChange Rows.fnJoinSpec) false w args)
      (Rows.fnJoinSpec.post enc Tryz.prog Tryz.f6 false true false false) := by
  refine returnsInHanded_of_change_and (C := Tryz.checked) (X := fun w _ => laidMetH Tryz.prog Rows.fnJoinRow.laid w) (fun _ _ _ hh h => h.of_heap hh) laws_own started (by kernel_rfl) Tryz.func6
    (ChangeSpec.witness_shaped (enc := enc) (C := Tryz.checked) (os := os) (X := fun w _ => laidMetH Tryz.prog Rows.fnJoinRow.laid w) false (World.laidAll Tryz.prog os Rows.fnJoinRow.laid) #[.string ⟨#[]⟩, .slice none 0 0] 8 (World.laidAll_os _ _ _)
      (World.shaped_of_ZipB (by kernel_rfl) (by kernel_rfl)) (by kernel_rfl) (by kernel_rfl) (by kernel_rfl)
      (by rw [MakeChecks.laidMetH_plain _ _ _ (by kernel_rfl)]; exact laidMet_laidAll _ (by kernel_rfl) (by kernel_rfl))) ?_
  intro W base args ds gs before hval0 hW _ _ hL _
  have hval : ∀ (j : Nat) t v, Tryz.f6.params[j]? = some t → args[j]? = some v → Value.okWide Tryz.prog W .any base t v := hval0
  have hW' := hW
  obtain ⟨p, q, hA0, hV, rfl, _, _⟩ := hW
  have hA : DataW.TrodAll enc Tryz.prog W 0 (fun _ => true) true Tryz.f6.params.toList args.toList ds p := hA0
  rw [Tryz.params6] at hA hval
  obtain ⟨v0, v1, d0, d1, p0, p1, rfl, rfl, rfl, h0, h1⟩ := trodAll_two hA
  have hlt : ∀ x ∈ p0 ++ p1, x.block < W.heap.size := fun x hx => hW'.lt x (List.mem_append_left _ hx)
  obtain ⟨ss, hAt, hSz⟩ := open_strs (hval 1 33 v1 rfl rfl) h1
  obtain ⟨s, rfl, _, hp0, hsz⟩ := Go.ChangeMaps.open_string Tryz.underlying9 (hval 0 9 v0 rfl rfl) h0
  unfold maxLen at hsz
  rw [MakeChecks.laidMetH_plain _ _ _ (by kernel_rfl)] at hL
  have hT : TabW W := tabW_of (Pinned.utf8First_eq ▸ Lib.laidMet.reads hL (by (simp [Rows.fnJoinRow]) <;> rfl)) (acceptData_eq ▸ Lib.laidMet.reads hL (by (simp [Rows.fnJoinRow]) <;> rfl))
  refine (fnJoin_any s v1 ss W hsz hAt hSz hT).mono fun e W' ⟨he, hb⟩ => ?_
  subst he
  match gs, hV with
  | [g1], hV => exact ⟨_, rfl, _, _, _, [], p0 ++ p1, q, hW', trodAll_mk1 (shut_bool Tryz.underlying4 _), trodAll_mk2 (Below.trod laws_out (by kernel_rfl) (of_decide_eq_true (by kernel_rfl)) h0 hb (fun x hx => hlt x (List.mem_append_left _ hx))) (Below.trod laws_out (by kernel_rfl) (of_decide_eq_true (by kernel_rfl)) h1 hb (fun x hx => hlt x (List.mem_append_right _ hx))), hb.trodVars laws_out (by kernel_rfl) hV, hb.frame _, fun h => by cases h⟩
theorem fnJoin_holds : Rows.FnJoinSaid :=
  OpenClaim.holds_of_wide 6 Tryz.f6 rfl rfl rfl rfl rfl rfl rfl ⟨rfl, rfl, rfl, rfl, rfl⟩ rfl rfl rfl rfl rfl (by kernel_rfl) Tryz.func6 (by kernel_rfl)
    (of_decide_eq_true (by kernel_rfl)) (by unfold Func.isWrapper; first | (rw [if_pos (by decide +kernel)]; kernel_rfl) | (rw [if_neg (by decide +kernel)]; exact ⟨rfl, rfl⟩))
    (fun os started H enc _ => fnJoin_lifted os started H enc)
theorem fnJoin_card_holds : Rows.FnJoinCardSaid :=
  Claim7.holds_tied_plain_at .later [] [.data, .sentinel, .pinned, .pinned, .pinned, .pinned, .pinned, .pinned] true (true, "ac9ea981fe1d14b07d9467d3ec7a8cbcc3a7d483ad2bf66f7d51b996cfdb0482") true fnJoin_holds (fun _ h => by cases h) (by kernel_rfl) (fun _ h => by cases h) fnJoin_row_tie rfl ⟨rfl, rfl⟩ (by kernel_rfl) rfl
    (fun f fn hf hfn => by
      obtain rfl : f = 6 := Option.some.inj ((show Tryz.prog.funcNamed "loop.example/pub-g03077/laws.FnJoin" = some 6 by kernel_rfl).symm.trans hf) |>.symm
      obtain rfl : fn = Tryz.f6 := (Option.some.inj (Tryz.func6.symm.trans hfn)).symm
      exact ⟨by kernel_rfl, fun j t ht => by
        rw [Tryz.params6] at ht
        have hm : t ∈ [9, 33] := by simpa using Array.mem_of_getElem? ht
        have hall : ([9, 33].all fun u => !Tryz.prog.wantsStandIn u) = true := by kernel_rfl
        exact (show Tryz.prog.wantsStandIn t = false by simpa using List.all_eq_true.1 hall t hm)⟩)
    (by kernel_rfl)
#print axioms fnJoin_card_holds
end Go.Proofs.YtlmcglaajmjanaaGreatDoor
