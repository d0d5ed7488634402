/-
  The law FnJsonClone: what a copy of a reader reads changes nothing of what the reader reads. The listed variables hold the tables of UTF-8 and the named errors.
-/
import Derived.Test.YtjkmmhnhhiopiaaDoorDJPeeks
import Derived.Test.YtjkmmhnhhiopiaaDoorDOpen
namespace Go.Proofs.YtjkmmhnhhiopiaaDoor
open Go.ChangeShapes Go.WideShapes Go.ChangeAt Go.RowKit

set_option maxRecDepth 100000 in
set_option maxHeartbeats 4000000 in
theorem fnJsonClone_any (v : Value) (n : Int) (bs : List UInt8) (g : Nat) (w : World) (hv : View w g v bs) (hgl : Glob w) (h5 : 5 ≤ w.heap.size) :
    Calls Tryd.prog 9 #[v, .int .i64 n] w fun e w' => e = .returned (.bool true) ∧ Below w.heap.size w w' := by
  have hb0 : Below w.heap.size w w := Below.refl _ _
  have HV := hid hv
  have HG := hid hgl
  obtain ⟨aoB, cB, rfl⟩ := hv.slice
  clear hv hgl
  by_cases h1 : bs.length ≤ 4000
  · by_cases h2 : 0 ≤ n
    · by_cases h3 : n ≤ 10000
      · obtain ⟨m, rfl⟩ : ∃ m : Nat, n = m := ⟨n.toNat, by omega⟩
        have hlen := allJ_len bs []
        have HT : Hid (∀ w', Below w.heap.size w w' → Calls Tryd.prog 11 #[.slice aoB bs.length cB] w' (JTold w'.heap.size (allJ bs []).1 (allJ bs []).2 w')) :=
          hid fun w' hb => (jsonTokens_any _ bs g w' (HV.out.below hb) (by omega) (HG.out.below hb) (by have := hb.size; omega)).mono fun e w2 h => h.told rfl
        have HK : Hid (∀ w', Below w.heap.size w w' → Calls Tryd.prog 22 #[.slice aoB bs.length cB, .int .i64 (m : Int)] w' (JTold w'.heap.size (allJ bs []).1 (allJ bs []).2 w')) :=
          hid fun w' hb => (jsonClone_any _ bs g m w' (HV.out.below hb) (by omega) (HG.out.below hb) (by have := hb.size; omega)).mono fun e w2 h => h.told rfl
        have HR : Hid (∀ w', Below w.heap.size w w' → Calls Tryd.prog 21 #[] w' fun e w2 => e = .returned (.bool true) ∧ Below w'.heap.size w' w2) := hid fun w' hb => reads_any w' (HG.out.below hb) (by have := hb.size; omega)
        generalize (allJ bs []).1 = L at *
        generalize (allJ bs []).2 = b at *
        have hlL : L.length ≤ 5000 := by omega
        clear hlen
        go_enter Tryd.func9, Tryd.ntmps9
        go_wp2_with (first
          | (go_at_call 11; refine (Calls.mono (HT.out _ hb0) ?_); rintro e w1 ⟨ao1, c1, rfl, ho1, hb1⟩; have HO1 := hid ho1; have HB1 := hid hb1; clear ho1 hb1)
          | (go_at_call 22; refine (Calls.mono (HK.out _ HB1.out) ?_); rintro e w2 ⟨ao2, c2, rfl, ho2, hb2⟩; have HO2 := hid ho2; have HB2 := hid hb2; have HB3 := hid (below_comp HB1.out hb2); clear ho2 hb2)
          | (go_at_call 20; refine (sameTokens_any _ _ L _ _ _ (HO1.out.below HB2.out) HO2.out (by omega)).mono ?_; rintro e w3 ⟨rfl, hb3⟩; have HB4 := hid (below_comp HB3.out hb3); clear hb3)
          | (go_at_call 21; refine (Calls.mono (HR.out _ HB4.out) ?_); rintro e w5 ⟨rfl, hb5⟩)
          | fail)
        go_ret
        exact ⟨by first | rfl | simp, below_comp HB4.out hb5⟩
      · go_enter Tryd.func9, Tryd.ntmps9
        go_wp2_with fail
        go_ret
        exact ⟨rfl, hb0⟩
    · go_enter Tryd.func9, Tryd.ntmps9
      go_wp2_with fail
      go_ret
      exact ⟨rfl, hb0⟩
  · by_cases h3 : bs.length ≤ 2147483647
    all_goals
      go_enter Tryd.func9, Tryd.ntmps9
      go_wp2_with fail
      go_ret
      exact ⟨rfl, hb0⟩

set_option maxRecDepth 100000 in
theorem fnJsonClone_lifted (os : Os) (started : os.Started) (H : Type) (enc : TypeId × Value → H) :
    ReturnsInHanded {} Tryd.checked os 9 .any (fun w args => (Rows.fnJsonCloneSpec.pre enc Tryd.prog Tryd.f9 Rows.fnJsonCloneRow.domain false w args ∧ laidMetH Tryd.prog Rows.fnJsonCloneRow.laid w) ∧ sizedMet enc Tryd.prog Tryd.f9 (OpenSpec.ofChange Rows.fnJsonCloneSpec) false w args)
      (Rows.fnJsonCloneSpec.post enc Tryd.prog Tryd.f9 false true false false) := by
  refine returnsInHanded_of_change_and (C := Tryd.checked) (X := fun w _ => laidMetH Tryd.prog Rows.fnJsonCloneRow.laid w) (fun _ _ _ hh h => h.of_heap hh) Tryd.own started (by kernel_rfl) Tryd.func9
    (ChangeSpec.witness_shaped (enc := enc) (C := Tryd.checked) (os := os) (X := fun w _ => laidMetH Tryd.prog Rows.fnJsonCloneRow.laid w) false (World.laidAll Tryd.prog os Rows.fnJsonCloneRow.laid) #[.slice none 0 0, .int .i64 0] 8 (World.laidAll_os _ _ _)
      (World.shaped_of_ZipB (by kernel_rfl) (by kernel_rfl)) (by kernel_rfl) (by kernel_rfl) (by kernel_rfl)
      (by rw [MakeChecks.laidMetH_plain _ _ _ (by kernel_rfl)]; exact laidMet_laidAll _ (by kernel_rfl) (by kernel_rfl))) ?_
  intro W base args ds gs before hval0 hW hcnd _ hL _
  have hval : ∀ (j : Nat) t v, Tryd.f9.params[j]? = some t → args[j]? = some v → Value.okWide Tryd.prog W .any base t v := hval0
  have hW' := hW
  obtain ⟨p, q, hA0, hV, rfl, hfz, hnd⟩ := hW
  have hA : DataW.TrodAll enc Tryd.prog W 0 (fun _ => true) true Tryd.f9.params.toList args.toList ds p := hA0
  rw [Tryd.params9] at hA hval
  obtain ⟨v0, v1, d0, d1, p0, p1, rfl, rfl, rfl, h0, h1⟩ := trodAll_two hA
  obtain ⟨g0, b0, hv0⟩ := open_bytes Tryd.underlying28 Tryd.underlying5 (by kernel_rfl) (hval 0 28 v0 rfl rfl) h0
  obtain ⟨n1, rfl, rfl, rfl, wn1⟩ := open_int Tryd.underlying3 (hval 1 3 v1 rfl rfl) h1
  clear hA0 hval0
  refine (fnJsonClone_any v0 n1 b0 g0 W hv0 (glob_here hL).1 (glob_here hL).2).mono fun e W' ⟨he, hw⟩ => ?_
  subst he
  exact ⟨_, rfl, law_post Tryd.laidOut hW' rfl rfl Tryd.underlying4 (by kernel_rfl) rfl hw⟩

theorem fnJsonClone_holds : Rows.FnJsonCloneSaid :=
  OpenClaim.holds_of_wide 9 Tryd.f9 rfl rfl rfl rfl rfl rfl rfl ⟨rfl, rfl, rfl, rfl, rfl⟩ rfl rfl rfl rfl rfl (by kernel_rfl) Tryd.func9 (by kernel_rfl)
    (of_decide_eq_true (by kernel_rfl)) (by unfold Func.isWrapper; first | (rw [if_pos (by decide +kernel)]; kernel_rfl) | (rw [if_neg (by decide +kernel)]; exact ⟨rfl, rfl⟩))
    (fun os started H enc _ => fnJsonClone_lifted os started H enc)
theorem fnJsonClone_card : Rows.FnJsonCloneCardSaid :=
  Claim7.holds_tied_plain_at .later [] _ _ _ _ fnJsonClone_holds (fun _ h => by cases h) (by kernel_rfl) (fun _ h => by cases h) fnJsonClone_row_tie rfl ⟨rfl, rfl⟩ (by kernel_rfl) rfl
    (fun f fn hf hfn => by
      obtain rfl : f = 9 := Option.some.inj ((show Tryd.prog.funcNamed "pub-codicil/laws.FnJsonClone" = some 9 by kernel_rfl).symm.trans hf) |>.symm
      obtain rfl : fn = Tryd.f9 := (Option.some.inj (Tryd.func9.symm.trans hfn)).symm
      exact ⟨by kernel_rfl, fun j t ht => by
        rw [Tryd.params9] at ht
        have hm : t ∈ [28, 3] := by simpa using Array.mem_of_getElem? ht
        have hall : ([28, 3].all fun u => !Tryd.prog.wantsStandIn u) = true := by kernel_rfl
        exact (show Tryd.prog.wantsStandIn t = false by simpa using List.all_eq_true.1 hall t hm)⟩)
    (by kernel_rfl)
#print axioms fnJsonClone_card
end Go.Proofs.YtjkmmhnhhiopiaaDoor
