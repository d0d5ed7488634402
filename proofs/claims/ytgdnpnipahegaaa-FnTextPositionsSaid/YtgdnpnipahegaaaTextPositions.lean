/-
  The law FnTextPositions: a place's line and column are those of the text form's messages. No condition.
-/
import Derived.Test.YtgdnpnipahegaaaPosImpl
import Derived.Test.YtgdnpnipahegaaaOpen
namespace Go.Proofs.Ytgdnpnipahegaaa
open Go.ChangeShapes Go.WideShapes Go.ChangeAt Go.RowKit

set_option maxRecDepth 100000 in
set_option maxHeartbeats 1000000 in
theorem fnTextPositions_any (v : Value) (bs : List UInt8) (g : Nat) (n : Int) (w : World) (hv : View w g v bs) :
    Calls Try.prog 3 #[v, .int .i64 n] w fun e w' => e = .returned (.bool true) ∧ Below w.heap.size w w' := by
  have hb0 := Below.refl w.heap.size w
  obtain ⟨ao, cap, rfl⟩ := hv.slice
  by_cases hc : bs.length ≤ 4000 ∧ 0 ≤ n ∧ n ≤ bs.length
  · obtain ⟨h1, h2, h3⟩ := hc
    obtain ⟨k, rfl⟩ := Int.eq_ofNat_of_zero_le h2
    rcases ho : (place (bs.take k)).2.2 with _ | _
    all_goals
      have hpv : placeVal (bs.take k) = .tuple #[.int .i64 (1 + ((place (bs.take k)).1 : Int)), .int .i64 (1 + ((place (bs.take k)).2.1.length : Int)), .int .i64 (if (place (bs.take k)).2.2 then 1 else 2)] := rfl
      rw [ho] at hpv
      simp only [Bool.false_eq_true, if_false, if_true] at hpv
      go_enter Try.func3, Try.ntmps3
      go_wp2_with (first | (go_at_call 4; refine (jsonPlace_any _ _ _ _ hv k (by omega) (by omega)).mono ?_; rintro e w' ⟨rfl, rfl⟩; rw [hpv]; clear hpv) | (go_at_call 5; refine (textPosition_any _ _ _ _ k hv (by omega) (by omega) ho).mono ?_; rintro e w1 ⟨rfl, hb1⟩; have hv1 := hv.below hb1; unfold lineCol3) | (go_at_call 6; refine (jsonPosition_any _ _ _ _ k hv1 (by omega) (by omega) ho).mono ?_; rintro e w2 ⟨rfl, hb2⟩; replace hb2 := below_comp hb1 hb2; unfold lineCol3))
      go_ret
      exact ⟨by simp, by assumption⟩
  · by_cases h4 : bs.length ≤ 4000 <;> by_cases h5 : n < 0 <;> by_cases h6 : bs.length ≤ 2147483647
    all_goals
      go_enter Try.func3, Try.ntmps3
      go_wp2
      all_goals
        go_ret
        exact ⟨rfl, hb0⟩

set_option maxRecDepth 100000 in
theorem fnTextPositions_lifted (os : Os) (started : os.Started) (H : Type) (enc : TypeId × Value → H) :
    ReturnsInHanded {} Try.checked os 3 .any (Rows.fnTextPositionsSpec.pre6 enc Try.prog Try.f3 Rows.fnTextPositionsRow.domain false) (Rows.fnTextPositionsSpec.post enc Try.prog Try.f3 false true false false) := by
  refine returnsInHanded_of_change (C := Try.checked) Try.own started (by kernel_rfl) Try.func3
    (ChangeSpec.witness6 (enc := enc) (C := Try.checked) false ⟨#[], #[.slice none 0 0, .int .i64 0], []⟩ 8 (by kernel_rfl) (by kernel_rfl) (by kernel_rfl) (by kernel_rfl)) ?_
  intro W base args ds gs before hval0 hW hcnd _
  have hval : ∀ (j : Nat) t v, Try.f3.params[j]? = some t → args[j]? = some v → Value.okWide Try.prog W .any base t v := hval0
  have hW' := hW
  obtain ⟨p, q, hA0, hV, rfl, hfz, hnd⟩ := hW
  have hA : DataW.TrodAll enc Try.prog W 0 (fun _ => true) true Try.f3.params.toList args.toList ds p := hA0
  rw [Try.params3] at hA hval
  obtain ⟨v0, v1, d0, d1, p0, p1, rfl, rfl, rfl, h0, h1⟩ := trodAll_two hA
  obtain ⟨g, bs, hv⟩ := open_bytes Try.underlying22 Try.underlying5 (by kernel_rfl) (hval 0 22 v0 rfl rfl) h0
  obtain ⟨n, rfl, rfl, rfl, wn⟩ := open_int Try.underlying3 (hval 1 3 v1 rfl rfl) h1
  clear hA0 hval0
  refine (fnTextPositions_any v0 bs g n W hv).mono fun e W' ⟨he, hw⟩ => ?_
  subst he
  exact ⟨_, rfl, law_post Try.laidOut hW' rfl rfl Try.underlying4 (by kernel_rfl) rfl hw⟩

theorem fnTextPositions_holds : Rows.FnTextPositionsSaid :=
  OpenClaim.holds_of_wide 3 Try.f3 rfl rfl rfl rfl rfl rfl rfl ⟨rfl, rfl, rfl, rfl, rfl⟩ rfl rfl rfl rfl rfl (by kernel_rfl) Try.func3 (by kernel_rfl)
    (of_decide_eq_true (by kernel_rfl)) (by unfold Func.isWrapper; first | (rw [if_pos (by decide +kernel)]; kernel_rfl) | (rw [if_neg (by decide +kernel)]; exact ⟨rfl, rfl⟩))
    (fun os started H enc _ => fnTextPositions_lifted os started H enc)
end Go.Proofs.Ytgdnpnipahegaaa
