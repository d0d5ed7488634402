/-
  The law FnFullName: a full name within another one is that of its definition. No condition.
-/
import Derived.Test.YtnammoimjcgdmaaBase
namespace Go.Proofs.Ytnammoimjcgdmaa
open Go.ChangeShapes Go.WideShapes Go.ChangeAt Go.RowKit
open Go.ChangeMaps (open_string shut_string)

def fullName (p n : ByteArray) : ByteArray := if p.toList.isEmpty then n else p ++ ⟨#[46]⟩ ++ n

theorem append_any (p n : ByteArray) (w : World) (hp : p.size ≤ 1000) (hn : n.size ≤ 1000) :
    Calls Try.prog 24 #[.string p, .string n] w fun e w' => e = .returned (.string (fullName p n)) ∧ w = w' := by
  go_enter Try.func24, Try.ntmps24
  go_wp2
  all_goals
    go_ret
    exact ⟨by simp [fullName, *], rfl⟩

theorem specFullName_any (p n : ByteArray) (w : World) (hp : p.size ≤ 1000) (hn : n.size ≤ 1000) :
    Calls Try.prog 11 #[.string p, .string n] w fun e w' => e = .returned (.string (fullName p n)) ∧ w = w' := by
  go_enter Try.func11, Try.ntmps11
  go_wp2
  all_goals
    go_ret
    exact ⟨by simp [fullName, *], rfl⟩

theorem implFullName_any (p n : ByteArray) (w : World) (hp : p.size ≤ 1000) (hn : n.size ≤ 1000) :
    Calls Try.prog 10 #[.string p, .string n] w fun e w' => e = .returned (.string (fullName p n)) ∧ w = w' := by
  go_enter Try.func10, Try.ntmps10
  go_wp2_with (go_at_call 24; refine (append_any _ _ _ hp hn).mono ?_; rintro e w' ⟨rfl, rfl⟩)
  go_ret
  exact ⟨rfl, rfl⟩

theorem fnFullName_any (p n : ByteArray) (w : World) :
    Calls Try.prog 3 #[.string p, .string n] w fun e w' => e = .returned (.bool true) ∧ w = w' := by
  go_enter Try.func3, Try.ntmps3
  go_wp2_with (first | (go_at_call 10; refine (implFullName_any _ _ _ (by omega) (by omega)).mono ?_; rintro e w' ⟨rfl, rfl⟩) | (go_at_call 11; refine (specFullName_any _ _ _ (by omega) (by omega)).mono ?_; rintro e w' ⟨rfl, rfl⟩))
  all_goals
    go_ret
    exact ⟨rfl, rfl⟩

set_option maxRecDepth 100000 in
theorem fnFullName_lifted (os : Os) (started : os.Started) (H : Type) (enc : TypeId × Value → H) :
    ReturnsInHanded {} Try.checked os 3 .any (Rows.fnFullNameSpec.pre6 enc Try.prog Try.f3 Rows.fnFullNameRow.domain false) (Rows.fnFullNameSpec.post enc Try.prog Try.f3 false true false false) := by
  refine returnsInHanded_of_change (C := Try.checked) Try.own started (by kernel_rfl) Try.func3
    (ChangeSpec.witness6 (enc := enc) (C := Try.checked) false ⟨#[], #[.string ⟨#[]⟩, .string ⟨#[]⟩], []⟩ 8 (by kernel_rfl) (by kernel_rfl) (by kernel_rfl) (by kernel_rfl)) ?_
  intro W base args ds gs before hval0 hW hcnd _
  have hval : ∀ (j : Nat) t v, Try.f3.params[j]? = some t → args[j]? = some v → Value.okWide Try.prog W .any base t v := hval0
  have hW' := hW
  obtain ⟨p, q, hA0, hV, rfl, hfz, hnd⟩ := hW
  have hA : DataW.TrodAll enc Try.prog W 0 (fun _ => true) true Try.f3.params.toList args.toList ds p := hA0
  rw [Try.params3] at hA hval
  obtain ⟨v0, v1, d0, d1, p0, p1, rfl, rfl, rfl, h0, h1⟩ := trodAll_two hA
  obtain ⟨s0, rfl, rfl, rfl, ws0⟩ := open_string Try.underlying9 (hval 0 9 v0 rfl rfl) h0
  obtain ⟨s1, rfl, rfl, rfl, ws1⟩ := open_string Try.underlying9 (hval 1 9 v1 rfl rfl) h1
  clear hA0 hval0
  refine (fnFullName_any s0 s1 W).mono fun e W' ⟨he, hw⟩ => ?_
  subst he; subst hw
  exact ⟨_, rfl, law_post Try.laidOut hW' rfl rfl Try.underlying4 (by kernel_rfl) rfl (Below.refl _ _)⟩

theorem fnFullName_holds : Rows.FnFullNameSaid :=
  OpenClaim.holds_of_wide 3 Try.f3 rfl rfl rfl rfl rfl rfl rfl ⟨rfl, rfl, rfl, rfl, rfl⟩ rfl rfl rfl rfl rfl (by kernel_rfl) Try.func3 (by kernel_rfl)
    (of_decide_eq_true (by kernel_rfl)) (by unfold Func.isWrapper; first | (rw [if_pos (by decide +kernel)]; kernel_rfl) | (rw [if_neg (by decide +kernel)]; exact ⟨rfl, rfl⟩))
    (fun os started H enc _ => fnFullName_lifted os started H enc)
end Go.Proofs.Ytnammoimjcgdmaa
