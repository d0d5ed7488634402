/-
  The laws FnJsonForms and FnJsonFormsClone: a value that is written in any of the ways is read as its tokens, with looking ahead, and with a copy. The listed variables hold the tables of UTF-8 and the named errors.
-/
import Derived.Test.YtjkmmhnhhiopiaaDoorDJForms
namespace Go.Proofs.YtjkmmhnhhiopiaaDoor
open Go.ChangeShapes Go.WideShapes Go.ChangeAt Go.RowKit

set_option maxRecDepth 100000 in
theorem fnJsonForms_lifted (os : Os) (started : os.Started) (H : Type) (enc : TypeId × Value → H) :
    ReturnsInHanded {} Tryd.checked os 6 .any (fun w args => (Rows.fnJsonFormsSpec.pre enc Tryd.prog Tryd.f6 Rows.fnJsonFormsRow.domain false w args ∧ laidMetH Tryd.prog Rows.fnJsonFormsRow.laid w) ∧ sizedMet enc Tryd.prog Tryd.f6 (OpenSpec.ofChange Rows.fnJsonFormsSpec) false w args)
      (Rows.fnJsonFormsSpec.post enc Tryd.prog Tryd.f6 false true false false) := by
  refine returnsInHanded_of_change_and (C := Tryd.checked) (X := fun w _ => laidMetH Tryd.prog Rows.fnJsonFormsRow.laid w) (fun _ _ _ hh h => h.of_heap hh) Tryd.own started (by kernel_rfl) Tryd.func6
    (ChangeSpec.witness_shaped (enc := enc) (C := Tryd.checked) (os := os) (X := fun w _ => laidMetH Tryd.prog Rows.fnJsonFormsRow.laid w) false (World.laidAll Tryd.prog os Rows.fnJsonFormsRow.laid) #[.agg #[.int .u8 0, .string ⟨#[]⟩, .string ⟨#[]⟩, .slice none 0 0], .slice none 0 0, .slice none 0 0] 8 (World.laidAll_os _ _ _)
      (World.shaped_of_ZipB (by kernel_rfl) (by kernel_rfl)) (by kernel_rfl) (by kernel_rfl) (by kernel_rfl)
      (by rw [MakeChecks.laidMetH_plain _ _ _ (by kernel_rfl)]; exact laidMet_laidAll _ (by kernel_rfl) (by kernel_rfl))) ?_
  intro W base args ds gs before hval0 hW hcnd _ hL _
  have hval : ∀ (j : Nat) t v, Tryd.f6.params[j]? = some t → args[j]? = some v → Value.okWide Tryd.prog W .any base t v := hval0
  have hW' := hW
  obtain ⟨p, q, hA0, hV, rfl, hfz, hnd⟩ := hW
  have hA : DataW.TrodAll enc Tryd.prog W 0 (fun _ => true) true Tryd.f6.params.toList args.toList ds p := hA0
  rw [Tryd.params6] at hA hval
  obtain ⟨v0, v1, v2, d0, d1, d2, p0, p1, p2, rfl, rfl, rfl, h0, h1, h2⟩ := trodAll_three hA
  obtain ⟨cs0, m0, x0, rfl, hx0⟩ := open_jitem (hval 0 34 v0 rfl rfl) h0
  obtain ⟨g1, b1, hv1⟩ := open_bytes Tryd.underlying28 Tryd.underlying5 (by kernel_rfl) (hval 1 28 v1 rfl rfl) h1
  obtain ⟨l2, hl2⟩ := open_boolv (hval 2 46 v2 rfl rfl) h2
  clear hA0 hval0
  refine (fnJsonForms_any m0 x0 cs0 W b1 v1 g1 l2 v2 hx0 hv1 hl2 (glob_here hL).1 (glob_here hL).2).mono fun e W' ⟨he, hw⟩ => ?_
  subst he
  exact ⟨_, rfl, law_post Tryd.laidOut hW' rfl rfl Tryd.underlying4 (by kernel_rfl) rfl hw⟩

theorem fnJsonForms_holds : Rows.FnJsonFormsSaid :=
  OpenClaim.holds_of_wide 6 Tryd.f6 rfl rfl rfl rfl rfl rfl rfl ⟨rfl, rfl, rfl, rfl, rfl⟩ rfl rfl rfl rfl rfl (by kernel_rfl) Tryd.func6 (by kernel_rfl)
    (of_decide_eq_true (by kernel_rfl)) (by unfold Func.isWrapper; first | (rw [if_pos (by decide +kernel)]; kernel_rfl) | (rw [if_neg (by decide +kernel)]; exact ⟨rfl, rfl⟩))
    (fun os started H enc _ => fnJsonForms_lifted os started H enc)
theorem fnJsonForms_card : Rows.FnJsonFormsCardSaid :=
  Claim7.holds_tied_plain_at .later [] _ _ _ _ fnJsonForms_holds (fun _ h => by cases h) (by kernel_rfl) (fun _ h => by cases h) fnJsonForms_row_tie rfl ⟨rfl, rfl⟩ (by kernel_rfl) rfl
    (fun f fn hf hfn => by
      obtain rfl : f = 6 := Option.some.inj ((show Tryd.prog.funcNamed "pub-codicil/laws.FnJsonForms" = some 6 by kernel_rfl).symm.trans hf) |>.symm
      obtain rfl : fn = Tryd.f6 := (Option.some.inj (Tryd.func6.symm.trans hfn)).symm
      exact ⟨by kernel_rfl, fun j t ht => by
        rw [Tryd.params6] at ht
        have hm : t ∈ [34, 28, 46] := by simpa using Array.mem_of_getElem? ht
        have hall : ([34, 28, 46].all fun u => !Tryd.prog.wantsStandIn u) = true := by kernel_rfl
        exact (show Tryd.prog.wantsStandIn t = false by simpa using List.all_eq_true.1 hall t hm)⟩)
    (by kernel_rfl)

set_option maxRecDepth 100000 in
theorem fnJsonFormsClone_lifted (os : Os) (started : os.Started) (H : Type) (enc : TypeId × Value → H) :
    ReturnsInHanded {} Tryd.checked os 8 .any (fun w args => (Rows.fnJsonFormsCloneSpec.pre enc Tryd.prog Tryd.f8 Rows.fnJsonFormsCloneRow.domain false w args ∧ laidMetH Tryd.prog Rows.fnJsonFormsCloneRow.laid w) ∧ sizedMet enc Tryd.prog Tryd.f8 (OpenSpec.ofChange Rows.fnJsonFormsCloneSpec) false w args)
      (Rows.fnJsonFormsCloneSpec.post enc Tryd.prog Tryd.f8 false true false false) := by
  refine returnsInHanded_of_change_and (C := Tryd.checked) (X := fun w _ => laidMetH Tryd.prog Rows.fnJsonFormsCloneRow.laid w) (fun _ _ _ hh h => h.of_heap hh) Tryd.own started (by kernel_rfl) Tryd.func8
    (ChangeSpec.witness_shaped (enc := enc) (C := Tryd.checked) (os := os) (X := fun w _ => laidMetH Tryd.prog Rows.fnJsonFormsCloneRow.laid w) false (World.laidAll Tryd.prog os Rows.fnJsonFormsCloneRow.laid) #[.agg #[.int .u8 0, .string ⟨#[]⟩, .string ⟨#[]⟩, .slice none 0 0], .slice none 0 0, .int .i64 0] 8 (World.laidAll_os _ _ _)
      (World.shaped_of_ZipB (by kernel_rfl) (by kernel_rfl)) (by kernel_rfl) (by kernel_rfl) (by kernel_rfl)
      (by rw [MakeChecks.laidMetH_plain _ _ _ (by kernel_rfl)]; exact laidMet_laidAll _ (by kernel_rfl) (by kernel_rfl))) ?_
  intro W base args ds gs before hval0 hW hcnd _ hL _
  have hval : ∀ (j : Nat) t v, Tryd.f8.params[j]? = some t → args[j]? = some v → Value.okWide Tryd.prog W .any base t v := hval0
  have hW' := hW
  obtain ⟨p, q, hA0, hV, rfl, hfz, hnd⟩ := hW
  have hA : DataW.TrodAll enc Tryd.prog W 0 (fun _ => true) true Tryd.f8.params.toList args.toList ds p := hA0
  rw [Tryd.params8] at hA hval
  obtain ⟨v0, v1, v2, d0, d1, d2, p0, p1, p2, rfl, rfl, rfl, h0, h1, h2⟩ := trodAll_three hA
  obtain ⟨cs0, m0, x0, rfl, hx0⟩ := open_jitem (hval 0 34 v0 rfl rfl) h0
  obtain ⟨g1, b1, hv1⟩ := open_bytes Tryd.underlying28 Tryd.underlying5 (by kernel_rfl) (hval 1 28 v1 rfl rfl) h1
  obtain ⟨n2, rfl, rfl, rfl, wn2⟩ := open_int Tryd.underlying3 (hval 2 3 v2 rfl rfl) h2
  clear hA0 hval0
  refine (fnJsonFormsClone_any m0 x0 cs0 W b1 v1 g1 n2 hx0 hv1 (glob_here hL).1 (glob_here hL).2).mono fun e W' ⟨he, hw⟩ => ?_
  subst he
  exact ⟨_, rfl, law_post Tryd.laidOut hW' rfl rfl Tryd.underlying4 (by kernel_rfl) rfl hw⟩

theorem fnJsonFormsClone_holds : Rows.FnJsonFormsCloneSaid :=
  OpenClaim.holds_of_wide 8 Tryd.f8 rfl rfl rfl rfl rfl rfl rfl ⟨rfl, rfl, rfl, rfl, rfl⟩ rfl rfl rfl rfl rfl (by kernel_rfl) Tryd.func8 (by kernel_rfl)
    (of_decide_eq_true (by kernel_rfl)) (by unfold Func.isWrapper; first | (rw [if_pos (by decide +kernel)]; kernel_rfl) | (rw [if_neg (by decide +kernel)]; exact ⟨rfl, rfl⟩))
    (fun os started H enc _ => fnJsonFormsClone_lifted os started H enc)
theorem fnJsonFormsClone_card : Rows.FnJsonFormsCloneCardSaid :=
  Claim7.holds_tied_plain_at .later [] _ _ _ _ fnJsonFormsClone_holds (fun _ h => by cases h) (by kernel_rfl) (fun _ h => by cases h) fnJsonFormsClone_row_tie rfl ⟨rfl, rfl⟩ (by kernel_rfl) rfl
    (fun f fn hf hfn => by
      obtain rfl : f = 8 := Option.some.inj ((show Tryd.prog.funcNamed "pub-codicil/laws.FnJsonFormsClone" = some 8 by kernel_rfl).symm.trans hf) |>.symm
      obtain rfl : fn = Tryd.f8 := (Option.some.inj (Tryd.func8.symm.trans hfn)).symm
      exact ⟨by kernel_rfl, fun j t ht => by
        rw [Tryd.params8] at ht
        have hm : t ∈ [34, 28, 3] := by simpa using Array.mem_of_getElem? ht
        have hall : ([34, 28, 3].all fun u => !Tryd.prog.wantsStandIn u) = true := by kernel_rfl
        exact (show Tryd.prog.wantsStandIn t = false by simpa using List.all_eq_true.1 hall t hm)⟩)
    (by kernel_rfl)
#print axioms fnJsonForms_card
#print axioms fnJsonFormsClone_card
end Go.Proofs.YtjkmmhnhhiopiaaDoor
