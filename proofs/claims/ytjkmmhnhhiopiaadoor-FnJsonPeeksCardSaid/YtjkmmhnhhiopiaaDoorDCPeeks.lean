/-
  The law FnJsonPeeks: looking ahead changes nothing of what is read. The listed variables hold the tables of UTF-8 and the named errors.
-/
import Derived.Test.YtjkmmhnhhiopiaaDoorDJPeeks
import Derived.Test.YtjkmmhnhhiopiaaDoorDOpen
namespace Go.Proofs.YtjkmmhnhhiopiaaDoor
open Go.ChangeShapes Go.WideShapes Go.ChangeAt Go.RowKit

set_option maxRecDepth 100000 in
theorem fnJsonPeeks_lifted (os : Os) (started : os.Started) (H : Type) (enc : TypeId × Value → H) :
    ReturnsInHanded {} Tryd.checked os 7 .any (fun w args => (Rows.fnJsonPeeksSpec.pre enc Tryd.prog Tryd.f7 Rows.fnJsonPeeksRow.domain false w args ∧ laidMetH Tryd.prog Rows.fnJsonPeeksRow.laid w) ∧ sizedMet enc Tryd.prog Tryd.f7 (OpenSpec.ofChange Rows.fnJsonPeeksSpec) false w args)
      (Rows.fnJsonPeeksSpec.post enc Tryd.prog Tryd.f7 false true false false) := by
  refine returnsInHanded_of_change_and (C := Tryd.checked) (X := fun w _ => laidMetH Tryd.prog Rows.fnJsonPeeksRow.laid w) (fun _ _ _ hh h => h.of_heap hh) Tryd.own started (by kernel_rfl) Tryd.func7
    (ChangeSpec.witness_shaped (enc := enc) (C := Tryd.checked) (os := os) (X := fun w _ => laidMetH Tryd.prog Rows.fnJsonPeeksRow.laid w) false (World.laidAll Tryd.prog os Rows.fnJsonPeeksRow.laid) #[.slice none 0 0, .slice none 0 0] 8 (World.laidAll_os _ _ _)
      (World.shaped_of_ZipB (by kernel_rfl) (by kernel_rfl)) (by kernel_rfl) (by kernel_rfl) (by kernel_rfl)
      (by rw [MakeChecks.laidMetH_plain _ _ _ (by kernel_rfl)]; exact laidMet_laidAll _ (by kernel_rfl) (by kernel_rfl))) ?_
  intro W base args ds gs before hval0 hW hcnd _ hL _
  have hval : ∀ (j : Nat) t v, Tryd.f7.params[j]? = some t → args[j]? = some v → Value.okWide Tryd.prog W .any base t v := hval0
  have hW' := hW
  obtain ⟨p, q, hA0, hV, rfl, hfz, hnd⟩ := hW
  have hA : DataW.TrodAll enc Tryd.prog W 0 (fun _ => true) true Tryd.f7.params.toList args.toList ds p := hA0
  rw [Tryd.params7] at hA hval
  obtain ⟨v0, v1, d0, d1, p0, p1, rfl, rfl, rfl, h0, h1⟩ := trodAll_two hA
  obtain ⟨g0, b0, hv0⟩ := open_bytes Tryd.underlying28 Tryd.underlying5 (by kernel_rfl) (hval 0 28 v0 rfl rfl) h0
  obtain ⟨l1, hl1⟩ := open_boolv (hval 1 46 v1 rfl rfl) h1
  clear hA0 hval0
  refine (fnJsonPeeks_any v0 v1 b0 l1 g0 W hv0 hl1 (glob_here hL).1 (glob_here hL).2).mono fun e W' ⟨he, hw⟩ => ?_
  subst he
  exact ⟨_, rfl, law_post Tryd.laidOut hW' rfl rfl Tryd.underlying4 (by kernel_rfl) rfl hw⟩

theorem fnJsonPeeks_holds : Rows.FnJsonPeeksSaid :=
  OpenClaim.holds_of_wide 7 Tryd.f7 rfl rfl rfl rfl rfl rfl rfl ⟨rfl, rfl, rfl, rfl, rfl⟩ rfl rfl rfl rfl rfl (by kernel_rfl) Tryd.func7 (by kernel_rfl)
    (of_decide_eq_true (by kernel_rfl)) (by unfold Func.isWrapper; first | (rw [if_pos (by decide +kernel)]; kernel_rfl) | (rw [if_neg (by decide +kernel)]; exact ⟨rfl, rfl⟩))
    (fun os started H enc _ => fnJsonPeeks_lifted os started H enc)
theorem fnJsonPeeks_card : Rows.FnJsonPeeksCardSaid :=
  Claim7.holds_tied_plain_at .later [] _ _ _ _ fnJsonPeeks_holds (fun _ h => by cases h) (by kernel_rfl) (fun _ h => by cases h) fnJsonPeeks_row_tie rfl ⟨rfl, rfl⟩ (by kernel_rfl) rfl
    (fun f fn hf hfn => by
      obtain rfl : f = 7 := Option.some.inj ((show Tryd.prog.funcNamed "pub-codicil/laws.FnJsonPeeks" = some 7 by kernel_rfl).symm.trans hf) |>.symm
      obtain rfl : fn = Tryd.f7 := (Option.some.inj (Tryd.func7.symm.trans hfn)).symm
      exact ⟨by kernel_rfl, fun j t ht => by
        rw [Tryd.params7] at ht
        have hm : t ∈ [28, 46] := by simpa using Array.mem_of_getElem? ht
        have hall : ([28, 46].all fun u => !Tryd.prog.wantsStandIn u) = true := by kernel_rfl
        exact (show Tryd.prog.wantsStandIn t = false by simpa using List.all_eq_true.1 hall t hm)⟩)
    (by kernel_rfl)
#print axioms fnJsonPeeks_card
end Go.Proofs.YtjkmmhnhhiopiaaDoor
