/- FnBuild returns true for every list of arguments and leaves it as it was; its card. What it asks: that the listed package-level variables read as the program's text lays them. -/
import Derived.Test.YtlmcglaajmjanaaGreatDoorLd
import Derived.Test.YtlmcglaajmjanaaGreatDoorBl
import Derived.Test.YtlmcglaajmjanaaGreatDoorCards
import Derived.Test.YtlmcglaajmjanaaGreatDoorTie
namespace Go.Proofs.YtlmcglaajmjanaaGreatDoor
open Go.ChangeShapes Go.WideShapes Go.ChangeAt Go.RowKit Go.Lib
set_option maxRecDepth 100000 in
theorem fnBuild_lifted (os : Os) (started : os.Started) (H : Type) (enc : TypeId × Value → H) :
    ReturnsInHanded {} Tryz.checked os 11 .any (fun w args => (Rows.fnBuildSpec.pre enc Tryz.prog Tryz.f11 Rows.fnBuildRow.domain false w args ∧ laidMetH Tryz.prog Rows.fnBuildRow.laid w) ∧ sizedMet enc Tryz.prog Tryz.f11 (OpenSpec.ofChange Rows.fnBuildSpec) false w args)
      (Rows.fnBuildSpec.post enc Tryz.prog Tryz.f11 false true false false) := by
  refine returnsInHanded_of_change_and (C := Tryz.checked) (X := fun w _ => laidMetH Tryz.prog Rows.fnBuildRow.laid w) (fun _ _ _ hh h => h.of_heap hh) laws_own started (by kernel_rfl) Tryz.func11
    (ChangeSpec.witness_shaped (enc := enc) (C := Tryz.checked) (os := os) (X := fun w _ => laidMetH Tryz.prog Rows.fnBuildRow.laid w) false (World.laidAll Tryz.prog os Rows.fnBuildRow.laid) #[.slice none 0 0] 8 (World.laidAll_os _ _ _)
      (World.shaped_of_ZipB (by kernel_rfl) (by kernel_rfl)) (by kernel_rfl) (by kernel_rfl) (by kernel_rfl)
      (by rw [MakeChecks.laidMetH_plain _ _ _ (by kernel_rfl)]; exact laidMet_laidAll _ (by kernel_rfl) (by kernel_rfl))) ?_
  intro W base args ds gs before hval0 hW _ _ hL _
  have hval : ∀ (j : Nat) t v, Tryz.f11.params[j]? = some t → args[j]? = some v → Value.okWide Tryz.prog W .any base t v := hval0
  have hW' := hW
  obtain ⟨p, q, hA0, hV, rfl, _, _⟩ := hW
  have hA : DataW.TrodAll enc Tryz.prog W 0 (fun _ => true) true Tryz.f11.params.toList args.toList ds p := hA0
  rw [Tryz.params11] at hA hval
  obtain ⟨v0, d0, rfl, rfl, h0⟩ := trodAll_one hA
  have hlt : ∀ x ∈ p, x.block < W.heap.size := fun x hx => hW'.lt x (List.mem_append_left _ hx)
  obtain ⟨l, hAt, hTx, hNm⟩ := open_args (hval 0 22 v0 rfl rfl) h0
  rw [MakeChecks.laidMetH_plain _ _ _ (by kernel_rfl)] at hL
  have hT : TabW W := tabW_of (Pinned.utf8First_eq ▸ Lib.laidMet.reads hL (by (simp [Rows.fnBuildRow]) <;> rfl)) (acceptData_eq ▸ Lib.laidMet.reads hL (by (simp [Rows.fnBuildRow]) <;> rfl))
  refine (fnBuild_any v0 l W hAt hTx hNm hT).mono fun e W' ⟨he, hb⟩ => ?_
  subst he
  match gs, hV with
  | [g1], hV => exact ⟨_, rfl, _, _, _, [], p, q, hW', trodAll_mk1 (shut_bool Tryz.underlying4 _), trodAll_mk1 (Below.trod laws_out (by kernel_rfl) (of_decide_eq_true (by kernel_rfl)) h0 hb hlt), hb.trodVars laws_out (by kernel_rfl) hV, hb.frame _, fun h => by cases h⟩
theorem fnBuild_holds : Rows.FnBuildSaid :=
  OpenClaim.holds_of_wide 11 Tryz.f11 rfl rfl rfl rfl rfl rfl rfl ⟨rfl, rfl, rfl, rfl, rfl⟩ rfl rfl rfl rfl rfl (by kernel_rfl) Tryz.func11 (by kernel_rfl)
    (of_decide_eq_true (by kernel_rfl)) (by unfold Func.isWrapper; first | (rw [if_pos (by decide +kernel)]; kernel_rfl) | (rw [if_neg (by decide +kernel)]; exact ⟨rfl, rfl⟩))
    (fun os started H enc _ => fnBuild_lifted os started H enc)
theorem fnBuild_card_holds : Rows.FnBuildCardSaid :=
  Claim7.holds_tied_plain_at .later [] [.data, .sentinel, .pinned, .pinned, .pinned, .pinned, .pinned, .pinned] true (true, "ac9ea981fe1d14b07d9467d3ec7a8cbcc3a7d483ad2bf66f7d51b996cfdb0482") true fnBuild_holds (fun _ h => by cases h) (by kernel_rfl) (fun _ h => by cases h) fnBuild_row_tie rfl ⟨rfl, rfl⟩ (by kernel_rfl) rfl
    (fun f fn hf hfn => by
      obtain rfl : f = 11 := Option.some.inj ((show Tryz.prog.funcNamed "loop.example/pub-g03077/laws.FnBuild" = some 11 by kernel_rfl).symm.trans hf) |>.symm
      obtain rfl : fn = Tryz.f11 := (Option.some.inj (Tryz.func11.symm.trans hfn)).symm
      exact ⟨by kernel_rfl, fun j t ht => by
        rw [Tryz.params11] at ht
        have hm : t ∈ [22] := by simpa using Array.mem_of_getElem? ht
        have hall : ([22].all fun u => !Tryz.prog.wantsStandIn u) = true := by kernel_rfl
        exact (show Tryz.prog.wantsStandIn t = false by simpa using List.all_eq_true.1 hall t hm)⟩)
    (by kernel_rfl)
#print axioms fnBuild_card_holds
end Go.Proofs.YtlmcglaajmjanaaGreatDoor
