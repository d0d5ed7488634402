/-
  The law FnNamesBack: names of small letters, digits and single underscores ahead of small letters come back from JSON's, and the other way round. No condition.
-/
import Derived.Test.YtnammoimjcgdmaaNamesPlain
namespace Go.Proofs.Ytnammoimjcgdmaa
open Go.ChangeShapes Go.WideShapes Go.ChangeAt Go.RowKit
open Go.ChangeMaps (open_string shut_string)

def SoFar (p : Nat → Prop) (k : Nat) (b : Bool) : Prop := b = true → ∀ i, i < k → p i
theorem SoFar.no {p : Nat → Prop} {k : Nat} : SoFar p k false := fun h => by cases h
theorem SoFar.next {p : Nat → Prop} {k : Nat} {e : Bool} (h : SoFar p k true) (hk : e = true → p k) : SoFar p (k + 1) e := by
  intro he i hi
  by_cases e : i = k
  · subst e; exact hk he
  · exact h rfl i (by omega)

set_option maxRecDepth 100000 in
set_option maxHeartbeats 4000000 in
theorem fnNamesBack_any (s : ByteArray) (w : World) :
    Calls Try.prog 7 #[.string s] w fun e w' => e = .returned (.bool true) ∧ Below w.heap.size w w' := by
  by_cases hs : s.size ≤ 1000
  · go_enter Try.func7, Try.ntmps7
    go_wp2
    go_loop [3, 4, 5] (fun a b i => ∃ k : Nat, ∃ x y : Bool, k ≤ s.size ∧ a = .bool x ∧ b = .bool y ∧ i = .int .i64 k ∧ SoFar (GoodS s) k x ∧ SoFar (GoodC s) k y) (fun _ _ i => s.size - (intOf i).toNat)
    case atStart => exact ⟨0, true, true, Nat.zero_le _, rfl, rfl, rfl, fun _ i hi => absurd hi (by omega), fun _ i hi => absurd hi (by omega)⟩
    case round =>
      obtain ⟨k, x, y, hk, rfl, rfl, rfl, hx, hy⟩ := hrel
      by_cases hlt : k < s.size
      · rcases x with _ | _ <;> rcases y with _ | _
        all_goals
          go_wp2
          all_goals
            go_round
            case rel =>
              refine ⟨k + 1, _, _, by omega, rfl, rfl, by go_num, ?_, ?_⟩
              · first
                | exact SoFar.no
                | (refine hx.next (fun he => ⟨hlt, ?_⟩); simp only [Bool.or_eq_true, decide_eq_true_eq] at he; unfold okS nxt; split <;> omega)
              · first
                | exact SoFar.no
                | (refine hy.next (fun he => ⟨hlt, ?_⟩); simp only [Bool.or_eq_true, decide_eq_true_eq] at he; unfold okC; omega)
            case measure => simp [intOf]; omega
      · have hk2 : k = s.size := by omega
        subst hk2
        have B1 : Hid (x = true → snake (camel s.data.toList) = s.data.toList) := fun h => back1 s (hx h)
        have B2 : Hid (y = true → camel (snake s.data.toList) = s.data.toList) := fun h => back2 s (hy h)
        have l1 : (camel s.data.toList).length ≤ 1000 := Nat.le_trans (camel_len _) (by simp; omega)
        have l2 : (snake s.data.toList).length ≤ 2000 := Nat.le_trans (snake_len _) (by simp; omega)
        clear hx hy
        have hb0 := Below.refl w.heap.size w
        have hab : camel [97, 95, 98] = [97, 66] := rfl
        rcases x with _ | _ <;> rcases y with _ | _
        all_goals
          (try have b1 : (snake (camel s.data.toList) == s.toList) = true := by rw [B1.out rfl, ByteArray.toList_eq]; simp)
          (try have b2 : (camel (snake s.data.toList) == s.toList) = true := by rw [B2.out rfl, ByteArray.toList_eq]; simp)
          go_wp2_with (first | (go_at_call 15; refine (implCamel_any _ _ (by first | omega | (simp only [size_mk]; omega) | decide)).mono ?_; rintro e w1 ⟨rfl, hb1⟩; replace hb1 := below_comp (by assumption) hb1) | (go_at_call 13; refine (implSnake_any _ _ (by first | omega | (simp only [size_mk]; omega))).mono ?_; rintro e w1 ⟨rfl, hb1⟩; replace hb1 := below_comp (by assumption) hb1))
          go_ret
          exact ⟨rfl, by assumption⟩
  · by_cases hs2 : s.size ≤ 2147483647
    all_goals
      go_enter Try.func7, Try.ntmps7
      go_wp2
      go_ret
      exact ⟨rfl, Below.refl _ _⟩

set_option maxRecDepth 100000 in
theorem fnNamesBack_lifted (os : Os) (started : os.Started) (H : Type) (enc : TypeId × Value → H) :
    ReturnsInHanded {} Try.checked os 7 .any (Rows.fnNamesBackSpec.pre6 enc Try.prog Try.f7 Rows.fnNamesBackRow.domain false) (Rows.fnNamesBackSpec.post enc Try.prog Try.f7 false true false false) := by
  refine returnsInHanded_of_change (C := Try.checked) Try.own started (by kernel_rfl) Try.func7
    (ChangeSpec.witness6 (enc := enc) (C := Try.checked) false ⟨#[], #[.string ⟨#[]⟩], []⟩ 8 (by kernel_rfl) (by kernel_rfl) (by kernel_rfl) (by kernel_rfl)) ?_
  intro W base args ds gs before hval0 hW hcnd _
  have hval : ∀ (j : Nat) t v, Try.f7.params[j]? = some t → args[j]? = some v → Value.okWide Try.prog W .any base t v := hval0
  have hW' := hW
  obtain ⟨p, q, hA0, hV, rfl, hfz, hnd⟩ := hW
  have hA : DataW.TrodAll enc Try.prog W 0 (fun _ => true) true Try.f7.params.toList args.toList ds p := hA0
  rw [Try.params7] at hA hval
  obtain ⟨v0, d0, rfl, rfl, h0⟩ := trodAll_one hA
  obtain ⟨s0, rfl, rfl, rfl, ws0⟩ := open_string Try.underlying9 (hval 0 9 v0 rfl rfl) h0
  clear hA0 hval0
  refine (fnNamesBack_any s0 W).mono fun e W' ⟨he, hw⟩ => ?_
  subst he
  exact ⟨_, rfl, law_post Try.laidOut hW' rfl rfl Try.underlying4 (by kernel_rfl) rfl hw⟩

theorem fnNamesBack_holds : Rows.FnNamesBackSaid :=
  OpenClaim.holds_of_wide 7 Try.f7 rfl rfl rfl rfl rfl rfl rfl ⟨rfl, rfl, rfl, rfl, rfl⟩ rfl rfl rfl rfl rfl (by kernel_rfl) Try.func7 (by kernel_rfl)
    (of_decide_eq_true (by kernel_rfl)) (by unfold Func.isWrapper; first | (rw [if_pos (by decide +kernel)]; kernel_rfl) | (rw [if_neg (by decide +kernel)]; exact ⟨rfl, rfl⟩))
    (fun os started H enc _ => fnNamesBack_lifted os started H enc)
end Go.Proofs.Ytnammoimjcgdmaa
