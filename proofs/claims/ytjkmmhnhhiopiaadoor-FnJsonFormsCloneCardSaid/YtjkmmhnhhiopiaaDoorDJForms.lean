/-
  The laws FnJsonForms and FnJsonFormsClone: a value that is written in any of the ways is read as its tokens, with looking ahead, and with a copy. The listed variables hold the tables of UTF-8 and the named errors.
-/
import Derived.Test.YtjkmmhnhhiopiaaDoorDJTold
import Derived.Test.YtjkmmhnhhiopiaaDoorDOpen
namespace Go.Proofs.YtjkmmhnhhiopiaaDoor
open Go.ChangeShapes Go.WideShapes Go.ChangeAt Go.RowKit

theorem toTK_len (l : List JT) : (l.map toTK).length = l.length := List.length_map _
set_option maxRecDepth 100000 in
set_option maxHeartbeats 4000000 in
theorem fnJsonForms_any (n : Nat) (x : JI) (cs : List Value) (w : World) (ps : List UInt8) (vp : Value) (g : Nat) (pk : List Bool) (vk : Value) (hx : ItemN w n cs x) (hv : View w g vp ps) (hk : BView w w.heap.size vk pk) (hgl : Glob w) (h5 : 5 ≤ w.heap.size) :
    Calls Tryd.prog 6 #[.agg cs.toArray, vp, vk] w fun e w' => e = .returned (.bool true) ∧ Below w.heap.size w w' := by
  rcases n with _ | n
  · exact hx.elim
  have hx0 := hid hx
  obtain ⟨k, nm, st, kids⟩ := x
  obtain ⟨_, _, _, ao, cap, rfl, _⟩ := hx
  obtain ⟨aoP, capP, rfl⟩ := hv.slice
  obtain ⟨aoK, cK, rfl⟩ : ∃ ao c, vk = .slice ao pk.length c := by obtain ⟨ao, c, e, _⟩ := hk; exact ⟨ao, c, e⟩
  have HX := hx0
  clear hx0
  have HG := hid hgl
  have HKV := hid hk
  clear hgl hk
  have hb1 : Below w.heap.size w (w.alloc (.cells #[.int .u8 k, .string ⟨nm.toArray⟩, .string ⟨st.toArray⟩, .slice ao kids.length cap] 34)) := (Below.refl _ _).alloc (Nat.le_refl _) _
  have HF : Hid (∀ w', Calls Tryd.prog 12 #[.agg #[.int .u8 k, .string ⟨nm.toArray⟩, .string ⟨st.toArray⟩, .slice ao kids.length cap]] w' fun e w2 => e = .returned (.bool (fitsJ nm st kids.length)) ∧ Below w'.heap.size w' w2) := hid fun w' => fitsJ_any k nm st ao kids.length cap w'
  have HW : Hid (∀ w', Below w.heap.size w w' → Calls Tryd.prog 13 #[.agg #[.int .u8 k, .string ⟨nm.toArray⟩, .string ⟨st.toArray⟩, .slice ao kids.length cap], .int .i64 (20 : Nat)] w' fun e w2 => e = .returned (.int .i64 (weightN 20 (.mk k nm st kids))) ∧ Below w'.heap.size w' w2) :=
    hid fun w' hb => weight_any 20 (by decide) (n + 1) _ _ w' (ItemN.below hb _ HX.out)
  have hwle := weightN_le 20 (.mk k nm st kids)
  rcases hf : fitsJ nm st kids.length with _ | _
  · rw [hf] at HF
    clear hv hf
    go_enter Tryd.func6, Tryd.ntmps6
    go_wp2_with (first
      | (go_at_call 12; refine (Calls.mono (HF.out _) ?_); rintro e w1 ⟨rfl, hb2⟩; obtain ⟨hc, _⟩ := bcell hb2; have hsz2 : w.heap.size < w1.heap.size := (by have := hb2.size; simp at this; omega); have HB2 := hid (below_comp hb1 hb2); clear hb2)
      | fail)
    go_ret
    exact ⟨rfl, HB2.out⟩
  · rw [hf] at HF
    by_cases hp : ps.length ≤ 2147483647
    · by_cases hpk : pk.length ≤ 2147483647
      · by_cases hwt : weightN 20 (.mk k nm st kids) ≤ 200
        · have hwt' : ¬ (200 : Int) < weightN 20 (.mk k nm st kids) := by omega
          obtain ⟨q1, q2, q3, q4⟩ := write_le ps (.mk k nm st kids) hwt
          have hread := write_reads (ps := ps) (.mk k nm st kids) hwt
          have HJW : Hid (∀ w', Below w.heap.size w w' → Calls Tryd.prog 14 #[.agg #[.int .u8 k, .string ⟨nm.toArray⟩, .string ⟨st.toArray⟩, .slice ao kids.length cap], .slice aoP ps.length capP] w' (Written ps (.mk k nm st kids) w')) :=
            hid fun w' hb => jsonWrite_any (n + 1) _ _ w' ps _ g (ItemN.below hb _ HX.out) (hv.below hb) hp hwt
          unfold Written at HJW
          clear hv hf hwt
          generalize writeJ ps (.mk k nm st kids) = S at *
          generalize weightN 20 (.mk k nm st kids) = W at *
          obtain ⟨b, kk, l⟩ := S
          simp only at q1 q2 q3 q4 HJW hread
          have HT : Hid (∀ w' gb vb, Below w.heap.size w w' → View w' gb vb b → Calls Tryd.prog 11 #[vb] w' (JTold w'.heap.size (l.map toTK) true w')) :=
            hid fun w' gb vb hb hvb => (jsonTokens_any vb b gb w' hvb (by omega) (HG.out.below hb) (by have := hb.size; omega)).mono fun e w2 h => h.told hread
          have HK : Hid (∀ w' gb vb, Below w.heap.size w w' → View w' gb vb b → Calls Tryd.prog 18 #[vb, .slice aoK pk.length cK] w' (JTold w'.heap.size (l.map toTK) true w')) :=
            hid fun w' gb vb hb hvb => (jsonPeeks_any vb _ b pk gb w' hvb ((HKV.out.below hb).mono hb.size) (by omega) (HG.out.below hb) (by have := hb.size; omega)).mono fun e w2 h => h.told ((peeks_nothing b pk).trans hread)
          unfold JTold at HT HK
          simp only [List.length_map] at HT HK
          have hlb : l.length ≤ 100000000 := by omega
          clear q2 q4 hread
          go_enter Tryd.func6, Tryd.ntmps6
          go_wp2_with (first
            | (go_at_call 12; refine (Calls.mono (HF.out _) ?_); rintro e w1 ⟨rfl, hb2⟩; obtain ⟨hc, _⟩ := bcell hb2; have hsz2 : w.heap.size < w1.heap.size := (by have := hb2.size; simp at this; omega); have HB2 := hid (below_comp hb1 hb2); clear hb2)
            | (go_at_call 13; refine (Calls.mono (HW.out _ HB2.out) ?_); rintro e w3 ⟨rfl, hb3⟩; obtain ⟨hc3, _⟩ := bcell hb3; have HB3 := hid (below_comp HB2.out hb3); clear hb3)
            | (go_at_call 14; refine (Calls.mono (HJW.out _ HB3.out) ?_); rintro e w4 ⟨vb, vl, rfl, ho, ht, hb4⟩; have HB4 := hid (below_comp HB3.out hb4); obtain ⟨aoB, cB, rfl⟩ := ho.slice; obtain ⟨gb, hvb, _⟩ := ho.view; obtain ⟨aoL, cL, rfl⟩ := ht.slice; have HVB := hid hvb; have HOT := hid ht; clear ho ht hb4 hvb)
            | (go_at_call 11; refine (Calls.mono (HT.out _ _ _ HB4.out HVB.out) ?_); rintro e w5 ⟨ao5, c5, rfl, ho5, hb5⟩; have HO5 := hid ho5; have HB5 := hid hb5; have HB5' := hid (below_comp HB4.out hb5); clear ho5 hb5)
            | (go_at_call 18; refine (Calls.mono (HK.out _ _ _ HB5'.out (HVB.out.below HB5.out)) ?_); rintro e w6 ⟨ao6, c6, rfl, ho6, hb6⟩; have HO6 := hid ho6; have HB6 := hid hb6; have HB6' := hid (below_comp HB5'.out hb6); have HB56 := hid (below_comp HB5.out hb6); clear ho6 hb6)
            | (go_at_call 19; (with_reducible refine Calls.mono (toldAs_any _ _ l _ _ _ (HO5.out.below HB6.out) (HOT.out.below HB56.out) hlb) ?_); rintro e w7 ⟨rfl, hb7⟩; have HB7 := hid hb7; have HB7' := hid (below_comp HB6'.out hb7); have HB567 := hid (below_comp HB56.out hb7); clear hb7)
            | (go_at_call 19; (with_reducible refine Calls.mono (toldAs_any _ _ l _ _ _ (HO6.out.below HB7.out) (HOT.out.below HB567.out) hlb) ?_); rintro e w8 ⟨rfl, hb8⟩)
            | fail)
          go_ret
          exact ⟨by first | rfl | simp, below_comp HB7'.out hb8⟩
        · have hwt' : (200 : Int) < weightN 20 (.mk k nm st kids) := by omega
          clear hv hf hwt
          generalize weightN 20 (.mk k nm st kids) = W at *
          go_enter Tryd.func6, Tryd.ntmps6
          go_wp2_with (first
            | (go_at_call 12; refine (Calls.mono (HF.out _) ?_); rintro e w1 ⟨rfl, hb2⟩; obtain ⟨hc, _⟩ := bcell hb2; have hsz2 : w.heap.size < w1.heap.size := (by have := hb2.size; simp at this; omega); have HB2 := hid (below_comp hb1 hb2); clear hb2)
            | (go_at_call 13; refine (Calls.mono (HW.out _ HB2.out) ?_); rintro e w3 ⟨rfl, hb3⟩; obtain ⟨hc3, _⟩ := bcell hb3; have HB3 := hid (below_comp HB2.out hb3); clear hb3)
            | fail)
          go_ret
          exact ⟨rfl, HB3.out⟩
      · clear hv hf
        go_enter Tryd.func6, Tryd.ntmps6
        go_wp2_with (first
          | (go_at_call 12; refine (Calls.mono (HF.out _) ?_); rintro e w1 ⟨rfl, hb2⟩; obtain ⟨hc, _⟩ := bcell hb2; have hsz2 : w.heap.size < w1.heap.size := (by have := hb2.size; simp at this; omega); have HB2 := hid (below_comp hb1 hb2); clear hb2)
          | fail)
        go_ret
        exact ⟨rfl, HB2.out⟩
    · by_cases hpk : pk.length ≤ 2147483647
      all_goals
        clear hv hf
        go_enter Tryd.func6, Tryd.ntmps6
        go_wp2_with (first
          | (go_at_call 12; refine (Calls.mono (HF.out _) ?_); rintro e w1 ⟨rfl, hb2⟩; obtain ⟨hc, _⟩ := bcell hb2; have hsz2 : w.heap.size < w1.heap.size := (by have := hb2.size; simp at this; omega); have HB2 := hid (below_comp hb1 hb2); clear hb2)
          | fail)
        go_ret
        exact ⟨rfl, HB2.out⟩

set_option maxRecDepth 100000 in
set_option maxHeartbeats 4000000 in
theorem fnJsonFormsClone_any (n : Nat) (x : JI) (cs : List Value) (w : World) (ps : List UInt8) (vp : Value) (g : Nat) (a : Int) (hx : ItemN w n cs x) (hv : View w g vp ps) (hgl : Glob w) (h5 : 5 ≤ w.heap.size) :
    Calls Tryd.prog 8 #[.agg cs.toArray, vp, .int .i64 a] w fun e w' => e = .returned (.bool true) ∧ Below w.heap.size w w' := by
  rcases n with _ | n
  · exact hx.elim
  have hx0 := hid hx
  obtain ⟨k, nm, st, kids⟩ := x
  obtain ⟨_, _, _, ao, cap, rfl, _⟩ := hx
  obtain ⟨aoP, capP, rfl⟩ := hv.slice
  have HX := hx0
  clear hx0
  have HG := hid hgl
  clear hgl
  have hb1 : Below w.heap.size w (w.alloc (.cells #[.int .u8 k, .string ⟨nm.toArray⟩, .string ⟨st.toArray⟩, .slice ao kids.length cap] 34)) := (Below.refl _ _).alloc (Nat.le_refl _) _
  have HF : Hid (∀ w', Calls Tryd.prog 12 #[.agg #[.int .u8 k, .string ⟨nm.toArray⟩, .string ⟨st.toArray⟩, .slice ao kids.length cap]] w' fun e w2 => e = .returned (.bool (fitsJ nm st kids.length)) ∧ Below w'.heap.size w' w2) := hid fun w' => fitsJ_any k nm st ao kids.length cap w'
  have HW : Hid (∀ w', Below w.heap.size w w' → Calls Tryd.prog 13 #[.agg #[.int .u8 k, .string ⟨nm.toArray⟩, .string ⟨st.toArray⟩, .slice ao kids.length cap], .int .i64 (20 : Nat)] w' fun e w2 => e = .returned (.int .i64 (weightN 20 (.mk k nm st kids))) ∧ Below w'.heap.size w' w2) :=
    hid fun w' hb => weight_any 20 (by decide) (n + 1) _ _ w' (ItemN.below hb _ HX.out)
  have hwle := weightN_le 20 (.mk k nm st kids)
  rcases hf : fitsJ nm st kids.length with _ | _
  · rw [hf] at HF
    clear hv hf
    go_enter Tryd.func8, Tryd.ntmps8
    go_wp2_with (first
      | (go_at_call 12; refine (Calls.mono (HF.out _) ?_); rintro e w1 ⟨rfl, hb2⟩; obtain ⟨hc, _⟩ := bcell hb2; have hsz2 : w.heap.size < w1.heap.size := (by have := hb2.size; simp at this; omega); have HB2 := hid (below_comp hb1 hb2); clear hb2)
      | fail)
    go_ret
    exact ⟨rfl, HB2.out⟩
  · rw [hf] at HF
    by_cases hp : ps.length ≤ 2147483647
    · by_cases hwt : weightN 20 (.mk k nm st kids) ≤ 200
      · have hwt' : ¬ (200 : Int) < weightN 20 (.mk k nm st kids) := by omega
        by_cases ha : 0 ≤ a ∧ a ≤ 1000
        · obtain ⟨ha1, ha2⟩ := ha
          obtain ⟨m, rfl⟩ : ∃ m : Nat, a = m := ⟨a.toNat, by omega⟩
          obtain ⟨q1, q2, q3, q4⟩ := write_le ps (.mk k nm st kids) hwt
          have hread := write_reads (ps := ps) (.mk k nm st kids) hwt
          have HJW : Hid (∀ w', Below w.heap.size w w' → Calls Tryd.prog 14 #[.agg #[.int .u8 k, .string ⟨nm.toArray⟩, .string ⟨st.toArray⟩, .slice ao kids.length cap], .slice aoP ps.length capP] w' (Written ps (.mk k nm st kids) w')) :=
            hid fun w' hb => jsonWrite_any (n + 1) _ _ w' ps _ g (ItemN.below hb _ HX.out) (hv.below hb) hp hwt
          unfold Written at HJW
          clear hv hf hwt
          generalize writeJ ps (.mk k nm st kids) = S at *
          generalize weightN 20 (.mk k nm st kids) = W at *
          obtain ⟨b, kk, l⟩ := S
          simp only at q1 q2 q3 q4 HJW hread
          have HK : Hid (∀ w' gb vb, Below w.heap.size w w' → View w' gb vb b → Calls Tryd.prog 22 #[vb, .int .i64 (m : Int)] w' (JTold w'.heap.size (l.map toTK) true w')) :=
            hid fun w' gb vb hb hvb => (jsonClone_any vb b gb m w' hvb (by omega) (HG.out.below hb) (by have := hb.size; omega)).mono fun e w2 h => h.told hread
          unfold JTold at HK
          simp only [List.length_map] at HK
          have hlb : l.length ≤ 100000000 := by omega
          clear q2 q4 hread
          go_enter Tryd.func8, Tryd.ntmps8
          go_wp2_with (first
            | (go_at_call 12; refine (Calls.mono (HF.out _) ?_); rintro e w1 ⟨rfl, hb2⟩; obtain ⟨hc, _⟩ := bcell hb2; have hsz2 : w.heap.size < w1.heap.size := (by have := hb2.size; simp at this; omega); have HB2 := hid (below_comp hb1 hb2); clear hb2)
            | (go_at_call 13; refine (Calls.mono (HW.out _ HB2.out) ?_); rintro e w3 ⟨rfl, hb3⟩; obtain ⟨hc3, _⟩ := bcell hb3; have HB3 := hid (below_comp HB2.out hb3); clear hb3)
            | (go_at_call 14; refine (Calls.mono (HJW.out _ HB3.out) ?_); rintro e w4 ⟨vb, vl, rfl, ho, ht, hb4⟩; have HB4 := hid (below_comp HB3.out hb4); obtain ⟨aoB, cB, rfl⟩ := ho.slice; obtain ⟨gb, hvb, _⟩ := ho.view; obtain ⟨aoL, cL, rfl⟩ := ht.slice; have HVB := hid hvb; have HOT := hid ht; clear ho ht hb4 hvb)
            | (go_at_call 22; refine (Calls.mono (HK.out _ _ _ HB4.out HVB.out) ?_); rintro e w5 ⟨ao5, c5, rfl, ho5, hb5⟩; have HO5 := hid ho5; have HB5 := hid hb5; have HB5' := hid (below_comp HB4.out hb5); clear ho5 hb5)
            | (go_at_call 19; refine (toldAs_any _ _ l _ _ _ HO5.out (HOT.out.below HB5.out) (by omega)).mono ?_; rintro e w7 ⟨rfl, hb7⟩)
            | fail)
          go_ret
          exact ⟨by first | rfl | simp, below_comp HB5'.out hb7⟩
        · generalize weightN 20 (.mk k nm st kids) = W at *
          clear hv hf
          by_cases ha1 : a < 0
          · go_enter Tryd.func8, Tryd.ntmps8
            go_wp2_with (first
              | (go_at_call 12; refine (Calls.mono (HF.out _) ?_); rintro e w1 ⟨rfl, hb2⟩; obtain ⟨hc, _⟩ := bcell hb2; have hsz2 : w.heap.size < w1.heap.size := (by have := hb2.size; simp at this; omega); have HB2 := hid (below_comp hb1 hb2); clear hb2)
              | (go_at_call 13; refine (Calls.mono (HW.out _ HB2.out) ?_); rintro e w3 ⟨rfl, hb3⟩; obtain ⟨hc3, _⟩ := bcell hb3; have HB3 := hid (below_comp HB2.out hb3); clear hb3)
              | fail)
            go_ret
            exact ⟨rfl, HB3.out⟩
          · have ha2 : 1000 < a := by omega
            go_enter Tryd.func8, Tryd.ntmps8
            go_wp2_with (first
              | (go_at_call 12; refine (Calls.mono (HF.out _) ?_); rintro e w1 ⟨rfl, hb2⟩; obtain ⟨hc, _⟩ := bcell hb2; have hsz2 : w.heap.size < w1.heap.size := (by have := hb2.size; simp at this; omega); have HB2 := hid (below_comp hb1 hb2); clear hb2)
              | (go_at_call 13; refine (Calls.mono (HW.out _ HB2.out) ?_); rintro e w3 ⟨rfl, hb3⟩; obtain ⟨hc3, _⟩ := bcell hb3; have HB3 := hid (below_comp HB2.out hb3); clear hb3)
              | fail)
            go_ret
            exact ⟨rfl, HB3.out⟩
      · have hwt' : (200 : Int) < weightN 20 (.mk k nm st kids) := by omega
        clear hv hf hwt
        generalize weightN 20 (.mk k nm st kids) = W at *
        go_enter Tryd.func8, Tryd.ntmps8
        go_wp2_with (first
          | (go_at_call 12; refine (Calls.mono (HF.out _) ?_); rintro e w1 ⟨rfl, hb2⟩; obtain ⟨hc, _⟩ := bcell hb2; have hsz2 : w.heap.size < w1.heap.size := (by have := hb2.size; simp at this; omega); have HB2 := hid (below_comp hb1 hb2); clear hb2)
          | (go_at_call 13; refine (Calls.mono (HW.out _ HB2.out) ?_); rintro e w3 ⟨rfl, hb3⟩; obtain ⟨hc3, _⟩ := bcell hb3; have HB3 := hid (below_comp HB2.out hb3); clear hb3)
          | fail)
        go_ret
        exact ⟨rfl, HB3.out⟩
    · clear hv hf
      go_enter Tryd.func8, Tryd.ntmps8
      go_wp2_with (first
        | (go_at_call 12; refine (Calls.mono (HF.out _) ?_); rintro e w1 ⟨rfl, hb2⟩; obtain ⟨hc, _⟩ := bcell hb2; have hsz2 : w.heap.size < w1.heap.size := (by have := hb2.size; simp at this; omega); have HB2 := hid (below_comp hb1 hb2); clear hb2)
        | fail)
      go_ret
      exact ⟨rfl, HB2.out⟩
end Go.Proofs.YtjkmmhnhhiopiaaDoor
