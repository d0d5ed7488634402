/-
  The law FnJsonTokens: any bytes that are not blanks alone are the tokens of JSON, up to the first error, where the reference leaves nothing open. The listed variables hold the tables of UTF-8 and the named errors.
-/
import Derived.Test.YtjkmmhnhhiopiaaDoorDJTokens
import Derived.Test.YtjkmmhnhhiopiaaDoorDOpen
namespace Go.Proofs.YtjkmmhnhhiopiaaDoor
open Go.ChangeShapes Go.WideShapes Go.ChangeAt Go.RowKit

set_option maxRecDepth 100000 in
theorem fnJsonTokens_lifted (os : Os) (started : os.Started) (H : Type) (enc : TypeId × Value → H) :
    ReturnsInHanded {} Tryd.checked os 5 .any (fun w args => (Rows.fnJsonTokensSpec.pre enc Tryd.prog Tryd.f5 Rows.fnJsonTokensRow.domain false w args ∧ laidMetH Tryd.prog Rows.fnJsonTokensRow.laid w) ∧ sizedMet enc Tryd.prog Tryd.f5 (OpenSpec.ofChange Rows.fnJsonTokensSpec) false w args)
      (Rows.fnJsonTokensSpec.post enc Tryd.prog Tryd.f5 false true false false) := by
  refine returnsInHanded_of_change_and (C := Tryd.checked) (X := fun w _ => laidMetH Tryd.prog Rows.fnJsonTokensRow.laid w) (fun _ _ _ hh h => h.of_heap hh) Tryd.own started (by kernel_rfl) Tryd.func5
    (ChangeSpec.witness_shaped (enc := enc) (C := Tryd.checked) (os := os) (X := fun w _ => laidMetH Tryd.prog Rows.fnJsonTokensRow.laid w) false (World.laidAll Tryd.prog os Rows.fnJsonTokensRow.laid) #[.slice none 0 0] 8 (World.laidAll_os _ _ _)
      (World.shaped_of_ZipB (by kernel_rfl) (by kernel_rfl)) (by kernel_rfl) (by kernel_rfl) (by kernel_rfl)
      (by rw [MakeChecks.laidMetH_plain _ _ _ (by kernel_rfl)]; exact laidMet_laidAll _ (by kernel_rfl) (by kernel_rfl))) ?_
  intro W base args ds gs before hval0 hW hcnd _ hL _
  have hval : ∀ (j : Nat) t v, Tryd.f5.params[j]? = some t → args[j]? = some v → Value.okWide Tryd.prog W .any base t v := hval0
  have hW' := hW
  obtain ⟨p, q, hA0, hV, rfl, hfz, hnd⟩ := hW
  have hA : DataW.TrodAll enc Tryd.prog W 0 (fun _ => true) true Tryd.f5.params.toList args.toList ds p := hA0
  rw [Tryd.params5] at hA hval
  obtain ⟨v0, d0, rfl, rfl, h0⟩ := trodAll_one hA
  obtain ⟨g0, b0, hv0⟩ := open_bytes Tryd.underlying28 Tryd.underlying5 (by kernel_rfl) (hval 0 28 v0 rfl rfl) h0
  clear hA0 hval0
  refine (fnJsonTokens_any v0 b0 g0 W hv0 (glob_here hL).1 (glob_here hL).2).mono fun e W' ⟨he, hw⟩ => ?_
  subst he
  exact ⟨_, rfl, law_post Tryd.laidOut hW' rfl rfl Tryd.underlying4 (by kernel_rfl) rfl hw⟩

theorem fnJsonTokens_holds : Rows.FnJsonTokensSaid :=
  OpenClaim.holds_of_wide 5 Tryd.f5 rfl rfl rfl rfl rfl rfl rfl ⟨rfl, rfl, rfl, rfl, rfl⟩ rfl rfl rfl rfl rfl (by kernel_rfl) Tryd.func5 (by kernel_rfl)
    (of_decide_eq_true (by kernel_rfl)) (by unfold Func.isWrapper; first | (rw [if_pos (by decide +kernel)]; kernel_rfl) | (rw [if_neg (by decide +kernel)]; exact ⟨rfl, rfl⟩))
    (fun os started H enc _ => fnJsonTokens_lifted os started H enc)
theorem fnJsonTokens_card : Rows.FnJsonTokensCardSaid :=
  Claim7.holds_tied_plain_at .later [] _ _ _ _ fnJsonTokens_holds (fun _ h => by cases h) (by kernel_rfl) (fun _ h => by cases h) fnJsonTokens_row_tie rfl ⟨rfl, rfl⟩ (by kernel_rfl) rfl
    (fun f fn hf hfn => by
      obtain rfl : f = 5 := Option.some.inj ((show Tryd.prog.funcNamed "pub-codicil/laws.FnJsonTokens" = some 5 by kernel_rfl).symm.trans hf) |>.symm
      obtain rfl : fn = Tryd.f5 := (Option.some.inj (Tryd.func5.symm.trans hfn)).symm
      exact ⟨by kernel_rfl, fun j t ht => by
        rw [Tryd.params5] at ht
        have hm : t ∈ [28] := by simpa using Array.mem_of_getElem? ht
        have hall : ([28].all fun u => !Tryd.prog.wantsStandIn u) = true := by kernel_rfl
        exact (show Tryd.prog.wantsStandIn t = false by simpa using List.all_eq_true.1 hall t hm)⟩)
    (by kernel_rfl)
#print axioms fnJsonTokens_card
end Go.Proofs.YtjkmmhnhhiopiaaDoor
