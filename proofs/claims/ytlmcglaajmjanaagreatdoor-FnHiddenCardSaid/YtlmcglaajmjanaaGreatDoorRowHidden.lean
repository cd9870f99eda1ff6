/- FnHidden returns true for every list of texts, every two lists of arguments and either way of writing the verbs, and leaves them as they were; its card. What it asks: that the listed package-level variables read as the program's text lays them. -/
import Derived.Test.YtlmcglaajmjanaaGreatDoorLd
import Derived.ChangeMaps5
import Derived.Carry
import Derived.Test.YtlmcglaajmjanaaGreatDoorLdj
import Derived.Test.YtlmcglaajmjanaaGreatDoorHl
import Derived.Test.YtlmcglaajmjanaaGreatDoorCards
import Derived.Test.YtlmcglaajmjanaaGreatDoorTie
namespace Go.Proofs.YtlmcglaajmjanaaGreatDoor
open Go.ChangeShapes Go.WideShapes Go.ChangeAt Go.RowKit Go.Lib
set_option maxRecDepth 100000 in
theorem fnHidden_lifted (os : Os) (started : os.Started) (H : Type) (enc : TypeId × Value → H) :
    ReturnsInHanded {} Tryz.checked os 12 .any (fun w args => (Rows.fnHiddenSpec.pre enc Tryz.prog Tryz.f12 Rows.fnHiddenRow.domain false w args ∧ laidMetH Tryz.prog Rows.fnHiddenRow.laid w) ∧ sizedMet enc Tryz.prog Tryz.f12 (OpenSpec.ofChange Rows.fnHiddenSpec) false w args)
      (Rows.fnHiddenSpec.post enc Tryz.prog Tryz.f12 false true false false) := by
  refine returnsInHanded_of_change_and (C := Tryz.checked) (X := fun w _ => laidMetH Tryz.prog Rows.fnHiddenRow.laid w) (fun _ _ _ hh h => h.of_heap hh) laws_own started (by kernel_rfl) Tryz.func12
    (ChangeSpec.witness_shaped (enc := enc) (C := Tryz.checked) (os := os) (X := fun w _ => laidMetH Tryz.prog Rows.fnHiddenRow.laid w) false (World.laidAll Tryz.prog os Rows.fnHiddenRow.laid) #[.slice none 0 0, .slice none 0 0, .slice none 0 0, .bool false] 8 (World.laidAll_os _ _ _)
      (World.shaped_of_ZipB (by kernel_rfl) (by kernel_rfl)) (by kernel_rfl) (by kernel_rfl) (by kernel_rfl)
      (by rw [MakeChecks.laidMetH_plain _ _ _ (by kernel_rfl)]; exact laidMet_laidAll _ (by kernel_rfl) (by kernel_rfl))) ?_
  intro W base args ds gs before hval0 hW _ _ hL _
  have hval : ∀ (j : Nat) t v, Tryz.f12.params[j]? = some t → args[j]? = some v → Value.okWide Tryz.prog W .any base t v := hval0
  have hW' := hW
  obtain ⟨p, q, hA0, hV, rfl, _, _⟩ := hW
  have hA : DataW.TrodAll enc Tryz.prog W 0 (fun _ => true) true Tryz.f12.params.toList args.toList ds p := hA0
  rw [Tryz.params12] at hA hval
  obtain ⟨v0, v1, v2, v3, d0, d1, d2, d3, p0, p1, p2, p3, rfl, rfl, rfl, h0, h1, h2, h3⟩ := trodAll_four hA
  have epp : p0 ++ p1 ++ p2 ++ p3 = p0 ++ (p1 ++ (p2 ++ p3)) := by simp
  rw [epp] at hW'
  have hlt : ∀ x ∈ p0 ++ (p1 ++ (p2 ++ p3)), x.block < W.heap.size := fun x hx => hW'.lt x (List.mem_append_left _ hx)
  obtain ⟨ss, hAt, hSz⟩ := open_strs (hval 0 33 v0 rfl rfl) h0
  obtain ⟨l, hAl, hTx, hNm⟩ := open_args (hval 1 22 v1 rfl rfl) h1
  obtain ⟨m, hAm, hTm, hNn⟩ := open_args (hval 2 22 v2 rfl rfl) h2
  clear epp
  obtain ⟨sb, rfl, rfl, rfl⟩ := open_bool Tryz.underlying4 (hval 3 4 v3 rfl rfl) h3
  rw [MakeChecks.laidMetH_plain _ _ _ (by kernel_rfl)] at hL
  have hT : TabW W := tabW_of (Pinned.utf8First_eq ▸ Lib.laidMet.reads hL (by (simp [Rows.fnHiddenRow]) <;> rfl)) (acceptData_eq ▸ Lib.laidMet.reads hL (by (simp [Rows.fnHiddenRow]) <;> rfl))
  refine (fnHidden_any v0 v1 v2 ss l m sb W hAt hSz hAl hTx hNm hAm hTm hNn hT).mono fun e W' ⟨he, hb⟩ => ?_
  subst he
  match gs, hV with
  | [g1], hV => exact ⟨_, rfl, _, _, _, [], p0 ++ (p1 ++ (p2 ++ [])), q, hW', trodAll_mk1 (shut_bool Tryz.underlying4 _), trodAll_mk4 (Below.trod laws_out (by kernel_rfl) (of_decide_eq_true (by kernel_rfl)) h0 hb (fun x hx => hlt x (List.mem_append_left _ hx))) (Below.trod laws_out (by kernel_rfl) (of_decide_eq_true (by kernel_rfl)) h1 hb (fun x hx => hlt x (List.mem_append_right _ (List.mem_append_left _ hx)))) (Below.trod laws_out (by kernel_rfl) (of_decide_eq_true (by kernel_rfl)) h2 hb (fun x hx => hlt x (List.mem_append_right _ (List.mem_append_right _ (List.mem_append_left _ hx))))) (shut_bool Tryz.underlying4 _), hb.trodVars laws_out (by kernel_rfl) hV, hb.frame _, fun h => by cases h⟩
theorem fnHidden_holds : Rows.FnHiddenSaid :=
  OpenClaim.holds_of_wide 12 Tryz.f12 rfl rfl rfl rfl rfl rfl rfl ⟨rfl, rfl, rfl, rfl, rfl⟩ rfl rfl rfl rfl rfl (by kernel_rfl) Tryz.func12 (by kernel_rfl)
    (of_decide_eq_true (by kernel_rfl)) (by unfold Func.isWrapper; first | (rw [if_pos (by decide +kernel)]; kernel_rfl) | (rw [if_neg (by decide +kernel)]; exact ⟨rfl, rfl⟩))
    (fun os started H enc _ => fnHidden_lifted os started H enc)
theorem fnHidden_card_holds : Rows.FnHiddenCardSaid :=
  Claim7.holds_tied_plain_at .later [] [.data, .sentinel, .pinned, .pinned, .pinned, .pinned, .pinned, .pinned] true (true, "ac9ea981fe1d14b07d9467d3ec7a8cbcc3a7d483ad2bf66f7d51b996cfdb0482") true fnHidden_holds (fun _ h => by cases h) (by kernel_rfl) (fun _ h => by cases h) fnHidden_row_tie rfl ⟨rfl, rfl⟩ (by kernel_rfl) rfl
    (fun f fn hf hfn => by
      obtain rfl : f = 12 := Option.some.inj ((show Tryz.prog.funcNamed "loop.example/pub-g03077/laws.FnHidden" = some 12 by kernel_rfl).symm.trans hf) |>.symm
      obtain rfl : fn = Tryz.f12 := (Option.some.inj (Tryz.func12.symm.trans hfn)).symm
      exact ⟨by kernel_rfl, fun j t ht => by
        rw [Tryz.params12] at ht
        have hm : t ∈ [33, 22, 4] := by simpa using Array.mem_of_getElem? ht
        have hall : ([33, 22, 4].all fun u => !Tryz.prog.wantsStandIn u) = true := by kernel_rfl
        exact (show Tryz.prog.wantsStandIn t = false by simpa using List.all_eq_true.1 hall t hm)⟩)
    (by kernel_rfl)
#print axioms fnHidden_card_holds
end Go.Proofs.YtlmcglaajmjanaaGreatDoor
