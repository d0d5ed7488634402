/-
  The law FnGoSane: of any text a name of Go's form is made; what is made stays, if it begins with a letter. The variables of Go's library hold its tables.
-/
import Derived.Test.YtnammoimjcgdmaaDoorCards
import Derived.Test.YtnammoimjcgdmaaDoorTie
import Derived.Test.YtnammoimjcgdmaaDoorGoName
import Derived.ProofKit
import Derived.OpenShut
import Derived.LaidMore
import Derived.Lay
import Derived.SevenTiedAt
import Derived.Stop.Joined
import Derived.Stop.LaidErr
import Derived.PinnedBridge
import Derived.Lib.LaidU8
namespace Go.Proofs.YtnammoimjcgdmaaDoor
open Go.ChangeShapes Go.WideShapes Go.ChangeAt Go.RowKit
open Go.ChangeMaps (open_string shut_string)

theorem let_not_dig {c : Int} (h : letC c = true) : isDig c = false ∧ (c == 95) = false := by
  simp only [letC, isUp, isLow, Bool.or_eq_true, Bool.and_eq_true, decide_eq_true_eq] at h
  constructor
  · simp [isDig]; omega
  · simp; omega

set_option maxRecDepth 100000 in
set_option maxHeartbeats 1000000 in
theorem fnGoSane_any (s : ByteArray) (w : World) (hT : Tabs w) :
    Calls Tryd.prog 6 #[.string s] w fun e w' => e = .returned (.bool true) ∧ Below w.heap.size w w' := by
  obtain ⟨l, rfl⟩ : ∃ l : List UInt8, s = ⟨l.toArray⟩ := ⟨s.data.toList, by simp⟩
  have hb0 : Below w.heap.size w w := Below.refl _ _
  by_cases hl : l.length ≤ 1000
  · rcases hp : plainB ⟨l.toArray⟩ with _ | _
    · have HP := hid hp
      clear hp
      go_enter Tryd.func6, Tryd.ntmps6
      go_wp2_with (first | (go_at_call 7; refine ((HP.out ▸ plain_any ⟨l.toArray⟩ _ (by rw [size_mk]; omega))).mono ?_; rintro e w' ⟨rfl, rfl⟩))
      go_ret
      exact ⟨rfl, hb0⟩
    · have ha : ∀ c ∈ l, c.toNat < 128 := by
        have h1 := hp
        unfold plainB at h1
        rw [data_mk] at h1
        intro c hc
        simpa using List.all_eq_true.1 h1 c hc
      have HP := hid hp
      clear hp
      have HA := hid ha
      clear ha
      have hlen := goSan_len l
      have HA2 := hid (goSan_ascii l HA.out)
      have HK := hid (goSan_key l)
      have HW := hid (goSan_word l)
      rcases goSan_cases l with ⟨r, hg⟩ | ⟨c, r, hg, hlc, hgg⟩
      · rw [hg] at hlen HK HW HA2
        have HG := hid hg
        clear hg
        have h95 : ((⟨(95 :: r).toArray⟩ : ByteArray)[0]'(by rw [size_mk]; simp)).toNat = 95 := rfl
        simp only [List.length_cons] at hlen
        go_enter Tryd.func6, Tryd.ntmps6
        go_wp2_with (first | (go_at_call 7; refine ((HP.out ▸ plain_any ⟨l.toArray⟩ _ (by rw [size_mk]; omega))).mono ?_; rintro e w' ⟨rfl, rfl⟩) | (go_at_call 14; refine (implSane_any l _ (by omega) HA.out hT).mono ?_; rintro e w1 ⟨rfl, hb1⟩; rw [HG.out]; have hT1 := hT.below hb1) | (go_at_call 15; refine (goName_any (95 :: r) _ (by simp; omega) (by simp) rfl HW.out HK.out).mono ?_; rintro e w2 ⟨rfl, hb2⟩; replace hb2 := below_comp hb1 hb2))
        go_ret
        exact ⟨by first | rfl | simp, hb2⟩
      · rw [hg] at hlen HK HW HA2
        have HG := hid hg
        have HGG := hid hgg
        clear hg hgg
        obtain ⟨hdg, hnu⟩ := let_not_dig hlc
        have HDg := hid hdg
        clear hlc hdg
        have hc0 : ((⟨(c :: r).toArray⟩ : ByteArray)[0]'(by rw [size_mk]; simp)).toNat = c.toNat := rfl
        simp only [List.length_cons] at hlen
        have htl : (⟨(c :: r).toArray⟩ : ByteArray).toList = c :: r := by rw [ByteArray.toList_eq, data_mk]
        go_enter Tryd.func6, Tryd.ntmps6
        go_wp2_with (first | (go_at_call 7; refine ((HP.out ▸ plain_any ⟨l.toArray⟩ _ (by rw [size_mk]; omega))).mono ?_; rintro e w' ⟨rfl, rfl⟩) | (go_at_call 15; refine (goName_any (c :: r) _ (by simp; omega) (by simp) HDg.out HW.out HK.out).mono ?_; rintro e w2 ⟨rfl, hb2⟩; have hT2 := hT1.below hb2; replace hb2 := below_comp hb1 hb2) | (go_at_call 14; first | (refine (implSane_any (c :: r) _ (by simp; omega) HA2.out hT2).mono ?_; rintro e w3 ⟨rfl, hb3⟩; rw [HGG.out]; replace hb3 := below_comp hb2 hb3) | (refine (implSane_any l _ (by omega) HA.out hT).mono ?_; rintro e w1 ⟨rfl, hb1⟩; rw [HG.out]; have hT1 := hT.below hb1)))
        go_ret
        exact ⟨by first | rfl | simp, hb3⟩
  · by_cases h1 : l.length ≤ 2147483647
    all_goals
      go_enter Tryd.func6, Tryd.ntmps6
      go_wp2_with fail
      go_ret
      exact ⟨rfl, hb0⟩

theorem u8_extra : U8Extra Tryd.prog Tryd.lays260_ren := ⟨by kernel_rfl, by kernel_rfl, by kernel_rfl, by kernel_rfl, by kernel_rfl, by kernel_rfl, by kernel_rfl⟩
theorem r_extra : RExtra Tryd.prog Tryd.lays261_ren := ⟨by kernel_rfl, by kernel_rfl, by kernel_rfl, by kernel_rfl, by kernel_rfl, by kernel_rfl, by kernel_rfl, by kernel_rfl⟩
theorem acc_eq : (Rows.laid_unicode_utf8_acceptRanges : DataW Unit) = Lib.acceptData := by kernel_rfl
theorem props_eq : (Rows.laid_unicode_properties : DataW Unit) = Lib.tabData .u8 Lib.propertiesTab := by kernel_rfl
theorem tabs_here {W : World} (h : laidMetH Tryd.prog Rows.fnGoSaneRow.laid W) : Tabs W := by
  rw [MakeChecks.laidMetH_plain _ _ _ (by kernel_rfl)] at h
  have h' : laidMet Tryd.prog [("unicode/utf8.acceptRanges", Rows.laid_unicode_utf8_acceptRanges), ("unicode.properties", Rows.laid_unicode_properties), ("unicode.Digit", Rows.laid_unicode_Digit), ("unicode.Letter", Rows.laid_unicode_Letter), ("unicode/utf8.first", Rows.laid_unicode_utf8_first)] W := h
  rw [acc_eq, props_eq] at h'
  refine ⟨Lib.tabIs_of_head (g := 0) (n := 256) (by kernel_rfl) rfl (by kernel_rfl) Tryd.underlying5 (by kernel_rfl) (by kernel_rfl) (laidMet.tail h'), ?_, ?_, ?_⟩
  · exact rvar_of_reads (ρ := Tryd.lays261_ren) { Tryd.lays261 with } r_extra (name := "unicode.Letter") (by kernel_rfl) (by kernel_rfl) (Pinned.letter_eq ▸ Lib.laidMet.reads h' (.tail _ (.tail _ (.tail _ (.head _)))))
  · exact rvar_of_reads (ρ := Tryd.lays261_ren) { Tryd.lays261 with } r_extra (name := "unicode.Digit") (by kernel_rfl) (by kernel_rfl) (Pinned.digit_eq ▸ Lib.laidMet.reads h' (.tail _ (.tail _ (.head _))))
  · exact utf8Tabs_of_reads (ρ := Tryd.lays260_ren) Tryd.lays260 u8_extra (Pinned.utf8First_eq ▸ Lib.laidMet.reads h' (.tail _ (.tail _ (.tail _ (.tail _ (.head _)))))) (Lib.laidMet.reads h' (.head _))

set_option maxRecDepth 100000 in
theorem fnGoSane_lifted (os : Os) (started : os.Started) (H : Type) (enc : TypeId × Value → H) :
    ReturnsInHanded {} Tryd.checked os 6 .any (fun w args => (Rows.fnGoSaneSpec.pre enc Tryd.prog Tryd.f6 Rows.fnGoSaneRow.domain false w args ∧ laidMetH Tryd.prog Rows.fnGoSaneRow.laid w) ∧ sizedMet enc Tryd.prog Tryd.f6 (OpenSpec.ofChange Rows.fnGoSaneSpec) false w args)
      (Rows.fnGoSaneSpec.post enc Tryd.prog Tryd.f6 false true false false) := by
  refine returnsInHanded_of_change_and (C := Tryd.checked) (X := fun w _ => laidMetH Tryd.prog Rows.fnGoSaneRow.laid w) (fun _ _ _ hh h => h.of_heap hh) Tryd.own started (by kernel_rfl) Tryd.func6
    (ChangeSpec.witness_shaped (enc := enc) (C := Tryd.checked) (os := os) (X := fun w _ => laidMetH Tryd.prog Rows.fnGoSaneRow.laid w) false (World.laidAll Tryd.prog os Rows.fnGoSaneRow.laid) #[.string ⟨#[]⟩] 8 (World.laidAll_os _ _ _)
      (World.shaped_of_ZipB (by kernel_rfl) (by kernel_rfl)) (by kernel_rfl) (by kernel_rfl) (by kernel_rfl)
      (by rw [MakeChecks.laidMetH_plain _ _ _ (by kernel_rfl)]; exact laidMet_laidAll _ (by kernel_rfl) (by kernel_rfl))) ?_
  intro W base args ds gs before hval0 hW hcnd _ hL _
  have hval : ∀ (j : Nat) t v, Tryd.f6.params[j]? = some t → args[j]? = some v → Value.okWide Tryd.prog W .any base t v := hval0
  have hW' := hW
  obtain ⟨p, q, hA0, hV, rfl, hfz, hnd⟩ := hW
  have hA : DataW.TrodAll enc Tryd.prog W 0 (fun _ => true) true Tryd.f6.params.toList args.toList ds p := hA0
  rw [Tryd.params6] at hA hval
  obtain ⟨v0, d0, rfl, rfl, h0⟩ := trodAll_one hA
  obtain ⟨s0, rfl, rfl, rfl, ws0⟩ := open_string Tryd.underlying9 (hval 0 9 v0 rfl rfl) h0
  clear hA0 hval0
  refine ((fun a (_ : World) => fnGoSane_any a W (tabs_here hL)) s0 W).mono fun e W' ⟨he, hw⟩ => ?_
  subst he
  exact ⟨_, rfl, law_post Tryd.laidOut hW' rfl rfl Tryd.underlying4 (by kernel_rfl) rfl hw⟩

theorem fnGoSane_holds : Rows.FnGoSaneSaid :=
  OpenClaim.holds_of_wide 6 Tryd.f6 rfl rfl rfl rfl rfl rfl rfl ⟨rfl, rfl, rfl, rfl, rfl⟩ rfl rfl rfl rfl rfl (by kernel_rfl) Tryd.func6 (by kernel_rfl)
    (of_decide_eq_true (by kernel_rfl)) (by unfold Func.isWrapper; first | (rw [if_pos (by decide +kernel)]; kernel_rfl) | (rw [if_neg (by decide +kernel)]; exact ⟨rfl, rfl⟩))
    (fun os started H enc _ => fnGoSane_lifted os started H enc)
theorem fnGoSane_card : Rows.FnGoSaneCardSaid :=
  Claim7.holds_tied_plain_at .later [] _ _ _ _ fnGoSane_holds (fun _ h => by cases h) (by kernel_rfl) (fun _ h => by cases h) fnGoSane_row_tie rfl ⟨rfl, rfl⟩ (by kernel_rfl) rfl
    (fun f fn hf hfn => by
      obtain rfl : f = 6 := Option.some.inj ((show Tryd.prog.funcNamed "pub-codicil/laws.FnGoSane" = some 6 by kernel_rfl).symm.trans hf) |>.symm
      obtain rfl : fn = Tryd.f6 := (Option.some.inj (Tryd.func6.symm.trans hfn)).symm
      exact ⟨by kernel_rfl, fun j t ht => by
        rw [Tryd.params6] at ht
        have hm : t ∈ [9] := by simpa using Array.mem_of_getElem? ht
        have hall : ([9].all fun u => !Tryd.prog.wantsStandIn u) = true := by kernel_rfl
        exact (show Tryd.prog.wantsStandIn t = false by simpa using List.all_eq_true.1 hall t hm)⟩)
    (by kernel_rfl)
end Go.Proofs.YtnammoimjcgdmaaDoor
