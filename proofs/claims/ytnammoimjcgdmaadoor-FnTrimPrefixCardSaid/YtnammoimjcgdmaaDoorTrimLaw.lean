/-
  The law FnTrimPrefix: what is left of an enum value's name without the enum's is that of its definition. The variable unicode.CaseRanges holds Go's table.
-/
import Derived.Test.YtnammoimjcgdmaaDoorCards
import Derived.Test.YtnammoimjcgdmaaDoorTie
import Derived.Test.YtnammoimjcgdmaaDoorTrim
import Derived.ProofKit
import Derived.OpenShut
import Derived.LaidMore
import Derived.Lay
import Derived.SevenTiedAt
import Derived.Stop.Joined
import Derived.PinnedBridge
namespace Go.Proofs.YtnammoimjcgdmaaDoor
open Go.ChangeShapes Go.WideShapes Go.ChangeAt Go.RowKit
open Go.ChangeMaps (open_string shut_string)

theorem trimSpec_ok (l p : List UInt8) : (∃ x, trimSpec l p = (x, 2)) ∨ trimSpec l p = (trimOut l p, 1) := by
  cases hg : trimGo l p with
  | none => exact .inr (by unfold trimSpec trimOut; rw [hg])
  | some r =>
    cases hs : skipU r with
    | nil => exact .inr (by unfold trimSpec trimOut; rw [hg]; simp only; rw [hs]; rfl)
    | cons c t =>
      by_cases hc : (isDig c.toNat || (p.isEmpty && (c :: t) != l)) = true
      · exact .inl ⟨[], by unfold trimSpec; rw [hg]; simp only; rw [hs]; simp only; rw [if_pos hc]⟩
      · exact .inr (by unfold trimSpec trimOut; rw [hg]; simp only; rw [hs]; simp only; rw [if_neg hc]; rfl)

theorem implTrim_any (l p : List UInt8) (w : World) (hl : l.length ≤ 1000000) (hl2 : p.length ≤ 1000000) (hp : ∀ c ∈ p, isLow c.toNat = true) (hV : Lib.CaseVar 3 Lib.caseA w) :
    Calls Tryd.prog 13 #[.string ⟨l.toArray⟩, .string ⟨p.toArray⟩] w fun e w' => e = .returned (.string ⟨(trimOut l p).toArray⟩) ∧ Below w.heap.size w w' := by
  go_enter Tryd.func13, Tryd.ntmps13
  go_wp2_with (go_at_call 24; refine (trimEnumPrefix_any l p w hl hl2 hp hV).mono ?_; rintro e w' ⟨rfl, hb⟩)
  go_ret
  exact ⟨rfl, hb⟩

theorem extract_end (l : List UInt8) (k : Nat) : (⟨l.toArray⟩ : ByteArray).extract (l.length - (l.drop k).length) l.length = ⟨(l.drop k).toArray⟩ := by
  have h := extract_mk l (l.length - (l.drop k).length) (by omega)
  rw [size_mk] at h
  rw [h]
  by_cases hk : k ≤ l.length
  · congr 3; simp; omega
  · rw [List.drop_of_length_le (by omega : l.length ≤ k)]; simp

set_option maxRecDepth 100000 in
set_option maxHeartbeats 1000000 in
theorem fnTrimPrefix_any (s t : ByteArray) (w : World) (hV : Lib.CaseVar 3 Lib.caseA w) :
    Calls Tryd.prog 5 #[.string s, .string t] w fun e w' => e = .returned (.bool true) ∧ Below w.heap.size w w' := by
  obtain ⟨l, rfl⟩ : ∃ l : List UInt8, s = ⟨l.toArray⟩ := ⟨s.data.toList, by simp⟩
  obtain ⟨p, rfl⟩ : ∃ l : List UInt8, t = ⟨l.toArray⟩ := ⟨t.data.toList, by simp⟩
  have hb0 : Below w.heap.size w w := Below.refl _ _
  by_cases hsz : l.length ≤ 1000 ∧ p.length ≤ 1000
  · obtain ⟨hl, hl2⟩ := hsz
    go_enter Tryd.func5, Tryd.ntmps5
    go_wp2_with fail
    go_loop [5] (fun i => ∃ k : Nat, k ≤ p.length ∧ i = .int .i64 k ∧ (∀ c ∈ p.take k, isLow c.toNat = true)) (fun i => p.length - (intOf i).toNat)
    case atStart => exact ⟨0, Nat.zero_le _, rfl, fun c hc => by simp at hc⟩
    case round =>
      obtain ⟨k, hk, rfl, hall⟩ := hrel
      have HA := hid hall
      clear hall
      by_cases hlt : k < p.length
      · have hix : ((⟨p.toArray⟩ : ByteArray)[k]'(by rw [size_mk]; exact hlt)).toNat = p[k].toNat := rfl
        by_cases h1 : (p[k].toNat : Int) < 97
        · go_wp2_with fail
          go_ret
          exact ⟨rfl, hb0⟩
        · by_cases h2 : (122 : Int) < p[k].toNat
          · go_wp2_with fail
            go_ret
            exact ⟨rfl, hb0⟩
          · have HB : Hid (∀ c ∈ p.take (k + 1), isLow c.toNat = true) := hid (by
              intro c hc
              rw [List.take_succ_eq_append_getElem hlt, List.mem_append] at hc
              rcases hc with hc | hc
              · exact HA.out c hc
              · simp only [List.mem_singleton] at hc
                subst hc
                simp [isLow]; omega)
            go_wp2_with fail
            go_round
            case rel => exact ⟨k + 1, by omega, by go_num, HB.out⟩
            case measure => simp [intOf] <;> omega
      · have hlow := HA.out
        rw [List.take_of_length_le (by omega)] at hlow
        have HL := hid hlow
        clear hlow HA
        obtain ⟨kk, hsx⟩ := trimOut_suffix l p
        have hne := trimOut_ne l p
        have hle : (trimOut l p).length ≤ l.length := by rw [hsx, List.length_drop]; omega
        have hxe := extract_end l kk
        rw [← hsx] at hxe
        have hxt : ((⟨l.toArray⟩ : ByteArray).extract (l.length - (trimOut l p).length) l.length).toList = trimOut l p := by rw [hxe, toList_mk]
        clear hsx hxe
        have hto := toList_mk (trimOut l p)
        have hso := trimSpec_ok l p
        generalize ho : trimOut l p = o at *
        have HO := hid ho
        clear ho
        have hno : l ≠ [] → (o.length == 0) = false := fun h => by
          have := hne h
          rcases o with _ | ⟨c, o⟩
          · exact absurd rfl this
          · rfl
        have HNE := hid hne
        have HNO := hid hno
        clear hne hno
        rcases hso with ⟨x, hso⟩ | hso
        all_goals
          have HS := hid (congrArg trimVal hso)
          clear hso
          by_cases hl0 : l = []
          · subst hl0
            have hl3 : ([] : List UInt8).length = 0 := rfl
            obtain rfl : o = [] := by simpa using hle
            clear hle hxt
            go_wp2_with (first | (go_at_call 12; refine (specTrim_any [] p _ (by simp) (by omega) HL.out).mono ?_; rintro e w1 ⟨rfl, hb1⟩; rw [HS.out]; unfold trimVal; have hV1 := caseVar_below hV hb1) | (go_at_call 13; refine (implTrim_any [] p _ (by simp) (by omega) HL.out hV1).mono ?_; rintro e w2 ⟨rfl, hb2⟩; replace hb2 := below_comp hb1 hb2; rw [HO.out]))
            go_ret
            exact ⟨by first | rfl | simp, hb2⟩
          · have h0 := HNE.out hl0
            have h1 := HNO.out hl0
            have HL0 := hid hl0
            clear hl0
            go_wp2_with (first | (go_at_call 12; refine (specTrim_any l p _ (by omega) (by omega) HL.out).mono ?_; rintro e w1 ⟨rfl, hb1⟩; rw [HS.out]; unfold trimVal; have hV1 := caseVar_below hV hb1) | (go_at_call 13; refine (implTrim_any l p _ (by omega) (by omega) HL.out hV1).mono ?_; rintro e w2 ⟨rfl, hb2⟩; replace hb2 := below_comp hb1 hb2; rw [HO.out]))
            go_ret
            exact ⟨by first | rfl | simp, hb2⟩
  · by_cases h1 : l.length ≤ 2147483647 <;> by_cases h2 : p.length ≤ 2147483647 <;> by_cases h3 : l.length ≤ 1000 <;> by_cases h4 : p.length ≤ 1000
    all_goals
      try (exfalso; omega)
    all_goals
      clear hsz
      go_enter Tryd.func5, Tryd.ntmps5
      go_wp2_with fail
      go_ret
      exact ⟨rfl, hb0⟩

theorem case_extra : CaseExtra Tryd.prog Tryd.lays204_ren := ⟨by kernel_rfl, by kernel_rfl, by kernel_rfl, by kernel_rfl, by kernel_rfl, by kernel_rfl⟩
theorem case_here {W : World} (h : laidMetH Tryd.prog Rows.fnTrimPrefixRow.laid W) : Lib.CaseVar 3 Lib.caseA W := by
  rw [MakeChecks.laidMetH_plain _ _ _ (by kernel_rfl)] at h
  exact caseVar_of_reads (ρ := Tryd.lays204_ren) { Tryd.lays204 with } Tryd.lays204.t206 case_extra (Pinned.caseRanges_eq ▸ Lib.laidMet.reads h (.head _))

set_option maxRecDepth 100000 in
theorem fnTrimPrefix_lifted (os : Os) (started : os.Started) (H : Type) (enc : TypeId × Value → H) :
    ReturnsInHanded {} Tryd.checked os 5 .any (fun w args => (Rows.fnTrimPrefixSpec.pre enc Tryd.prog Tryd.f5 Rows.fnTrimPrefixRow.domain false w args ∧ laidMetH Tryd.prog Rows.fnTrimPrefixRow.laid w) ∧ sizedMet enc Tryd.prog Tryd.f5 (OpenSpec.ofChange Rows.fnTrimPrefixSpec) false w args)
      (Rows.fnTrimPrefixSpec.post enc Tryd.prog Tryd.f5 false true false false) := by
  refine returnsInHanded_of_change_and (C := Tryd.checked) (X := fun w _ => laidMetH Tryd.prog Rows.fnTrimPrefixRow.laid w) (fun _ _ _ hh h => h.of_heap hh) Tryd.own started (by kernel_rfl) Tryd.func5
    (ChangeSpec.witness_shaped (enc := enc) (C := Tryd.checked) (os := os) (X := fun w _ => laidMetH Tryd.prog Rows.fnTrimPrefixRow.laid w) false (World.laidAll Tryd.prog os Rows.fnTrimPrefixRow.laid) #[.string ⟨#[]⟩, .string ⟨#[]⟩] 8 (World.laidAll_os _ _ _)
      (World.shaped_of_ZipB (by kernel_rfl) (by kernel_rfl)) (by kernel_rfl) (by kernel_rfl) (by kernel_rfl)
      (by rw [MakeChecks.laidMetH_plain _ _ _ (by kernel_rfl)]; exact laidMet_laidAll _ (by kernel_rfl) (by kernel_rfl))) ?_
  intro W base args ds gs before hval0 hW hcnd _ hL _
  have hval : ∀ (j : Nat) t v, Tryd.f5.params[j]? = some t → args[j]? = some v → Value.okWide Tryd.prog W .any base t v := hval0
  have hW' := hW
  obtain ⟨p, q, hA0, hV, rfl, hfz, hnd⟩ := hW
  have hA : DataW.TrodAll enc Tryd.prog W 0 (fun _ => true) true Tryd.f5.params.toList args.toList ds p := hA0
  rw [Tryd.params5] at hA hval
  obtain ⟨v0, v1, d0, d1, p0, p1, rfl, rfl, rfl, h0, h1⟩ := trodAll_two hA
  obtain ⟨s0, rfl, rfl, rfl, ws0⟩ := open_string Tryd.underlying9 (hval 0 9 v0 rfl rfl) h0
  obtain ⟨s1, rfl, rfl, rfl, ws1⟩ := open_string Tryd.underlying9 (hval 1 9 v1 rfl rfl) h1
  clear hA0 hval0
  refine ((fun a b (_ : World) => fnTrimPrefix_any a b W (case_here hL)) s0 s1 W).mono fun e W' ⟨he, hw⟩ => ?_
  subst he
  exact ⟨_, rfl, law_post Tryd.laidOut hW' rfl rfl Tryd.underlying4 (by kernel_rfl) rfl hw⟩

theorem fnTrimPrefix_holds : Rows.FnTrimPrefixSaid :=
  OpenClaim.holds_of_wide 5 Tryd.f5 rfl rfl rfl rfl rfl rfl rfl ⟨rfl, rfl, rfl, rfl, rfl⟩ rfl rfl rfl rfl rfl (by kernel_rfl) Tryd.func5 (by kernel_rfl)
    (of_decide_eq_true (by kernel_rfl)) (by unfold Func.isWrapper; first | (rw [if_pos (by decide +kernel)]; kernel_rfl) | (rw [if_neg (by decide +kernel)]; exact ⟨rfl, rfl⟩))
    (fun os started H enc _ => fnTrimPrefix_lifted os started H enc)
theorem fnTrimPrefix_card : Rows.FnTrimPrefixCardSaid :=
  Claim7.holds_tied_plain_at .later [] _ _ _ _ fnTrimPrefix_holds (fun _ h => by cases h) (by kernel_rfl) (fun _ h => by cases h) fnTrimPrefix_row_tie rfl ⟨rfl, rfl⟩ (by kernel_rfl) rfl
    (fun f fn hf hfn => by
      obtain rfl : f = 5 := Option.some.inj ((show Tryd.prog.funcNamed "pub-codicil/laws.FnTrimPrefix" = some 5 by kernel_rfl).symm.trans hf) |>.symm
      obtain rfl : fn = Tryd.f5 := (Option.some.inj (Tryd.func5.symm.trans hfn)).symm
      exact ⟨by kernel_rfl, fun j t ht => by
        rw [Tryd.params5] at ht
        have hm : t ∈ [9, 9] := by simpa using Array.mem_of_getElem? ht
        have hall : ([9, 9].all fun u => !Tryd.prog.wantsStandIn u) = true := by kernel_rfl
        exact (show Tryd.prog.wantsStandIn t = false by simpa using List.all_eq_true.1 hall t hm)⟩)
    (by kernel_rfl)
end Go.Proofs.YtnammoimjcgdmaaDoor
