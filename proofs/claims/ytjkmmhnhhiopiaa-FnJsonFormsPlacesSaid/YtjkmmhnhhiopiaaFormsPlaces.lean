/-
  The law FnJsonFormsPlaces: the line and the column of each token of a written value. No condition.
-/
import Derived.Test.YtjkmmhnhhiopiaaJWrite
import Derived.Test.YtjkmmhnhhiopiaaPosAny
import Derived.Test.YtjkmmhnhhiopiaaOpen
namespace Go.Proofs.Ytjkmmhnhhiopiaa
open Go.ChangeShapes Go.WideShapes Go.ChangeAt Go.RowKit

theorem tokCells_at : ∀ (l : List JT) (i q : Nat) (h : i < l.length), q < 5 → (l.flatMap tokCells)[i * 5 + q]? = (tokCells l[i])[q]?
  | [], i, q, h, _ => by simp at h
  | t :: l, 0, q, h, hq => by
    rw [List.flatMap_cons, List.getElem?_append_left (by simp [tokCells]; omega)]
    simp
  | t :: l, i + 1, q, h, hq => by
    rw [List.flatMap_cons, List.getElem?_append_right (by simp [tokCells]; omega)]
    have e : (i + 1) * 5 + q - (tokCells t).length = i * 5 + q := by simp [tokCells]; omega
    rw [e, tokCells_at l i q (by simpa using h) hq]
    simp
theorem OwnT.cells {w : World} {B : Nat} {v : Value} {l : List JT} (h : OwnT w B v l) (hne : l ≠ []) : ∃ g cap, v = .slice (some ⟨g, 0, none⟩) l.length cap ∧ g < w.heap.size ∧ B ≤ g ∧ ∀ i (hi : i < l.length) q, q < 5 → w.cell? ⟨g, i * 5 + q, none⟩ = (tokCells l[i])[q]? := by
  have hl : 0 < l.length := List.length_pos_iff.2 hne
  obtain ⟨g, cap, rfl, hB, hlt⟩ := World.ownsRow.form h hl
  refine ⟨g, cap, rfl, hlt, hB, fun i hi q hq => ?_⟩
  have h1 := tokCells_at l i q hi hq
  have hq' : q < (tokCells l[i]).length := by simpa [tokCells] using hq
  rw [List.getElem?_eq_getElem hq'] at h1 ⊢
  have h2 := World.ownsRow.cells h (g := g) rfl _ _ h1
  rwa [Addr.add_lit, Nat.zero_add] at h2

set_option maxRecDepth 100000 in
set_option maxHeartbeats 1000000 in
theorem fnJsonFormsPlaces_any (n : Nat) (x : JI) (cs : List Value) (w : World) (ps : List UInt8) (vp : Value) (g : Nat) (hx : ItemN w n cs x) (hv : View w g vp ps) :
    Calls Try.prog 3 #[.agg cs.toArray, vp] w fun e w' => e = .returned (.bool true) ∧ Below w.heap.size w w' := by
  rcases n with _ | n
  · exact hx.elim
  have hx0 := hid hx
  obtain ⟨k, nm, st, kids⟩ := x
  obtain ⟨_, _, _, ao, cap, rfl, _⟩ := hx
  obtain ⟨aoP, capP, rfl⟩ := hv.slice
  have HX := hx0
  clear hx0
  have hb1 : Below w.heap.size w (w.alloc (.cells #[.int .u8 k, .string ⟨nm.toArray⟩, .string ⟨st.toArray⟩, .slice ao kids.length cap] 24)) := (Below.refl _ _).alloc (Nat.le_refl _) _
  have HF : Hid (∀ w', Calls Try.prog 4 #[.agg #[.int .u8 k, .string ⟨nm.toArray⟩, .string ⟨st.toArray⟩, .slice ao kids.length cap]] w' fun e w2 => e = .returned (.bool (fits1 nm st kids.length)) ∧ Below w'.heap.size w' w2) := hid fun w' => fits1_any k nm st ao kids.length cap w'
  have HW : Hid (∀ w', Below w.heap.size w w' → Calls Try.prog 5 #[.agg #[.int .u8 k, .string ⟨nm.toArray⟩, .string ⟨st.toArray⟩, .slice ao kids.length cap], .int .i64 (20 : Nat)] w' fun e w2 => e = .returned (.int .i64 (weightN 20 (.mk k nm st kids))) ∧ Below w'.heap.size w' w2) :=
    hid fun w' hb => weight_any 20 (by decide) (n + 1) _ _ w' (ItemN.below hb _ HX.out)
  have hwle := weightN_le 20 (.mk k nm st kids)
  rcases hf : fits1 nm st kids.length with _ | _
  · rw [hf] at HF
    clear hv hf
    go_enter Try.func3, Try.ntmps3
    go_wp2_with (first
      | (go_at_call 4; refine (Calls.mono (HF.out _) ?_); rintro e w1 ⟨rfl, hb2⟩; replace hb2 := below_comp hb1 hb2)
      | fail)
    go_ret
    exact ⟨rfl, hb2⟩
  · rw [hf] at HF
    by_cases hp : ps.length ≤ 2147483647
    · by_cases hwt : weightN 20 (.mk k nm st kids) ≤ 200
      · have hwt' : ¬ (200 : Int) < weightN 20 (.mk k nm st kids) := by omega
        obtain ⟨q1, q2, q3, q4⟩ := write_le ps (.mk k nm st kids) hwt
        have HJW : Hid (∀ w', Below w.heap.size w w' → Calls Try.prog 6 #[.agg #[.int .u8 k, .string ⟨nm.toArray⟩, .string ⟨st.toArray⟩, .slice ao kids.length cap], .slice aoP ps.length capP] w' (Written ps (.mk k nm st kids) w')) :=
          hid fun w' hb => jsonWrite_any (n + 1) _ _ w' ps _ g (ItemN.below hb _ HX.out) (hv.below hb) hp hwt
        unfold Written at HJW
        clear hv hf hwt
        generalize writeJ ps (.mk k nm st kids) = S at *
        generalize weightN 20 (.mk k nm st kids) = W at *
        obtain ⟨b, kk, l⟩ := S
        simp only at q1 q2 q3 q4 HJW
        have HQ4 := hid q4
        have HQ2 := hid q2
        clear q2 q4
        go_enter Try.func3, Try.ntmps3
        go_wp2_with (first
          | (go_at_call 4; refine (Calls.mono (HF.out _) ?_); rintro e w1 ⟨rfl, hb2⟩; obtain ⟨hc, _⟩ := bcell hb2; have hsz2 : w.heap.size < w1.heap.size := (by have := hb2.size; simp at this; omega); replace hb2 := below_comp hb1 hb2)
          | (go_at_call 5; refine (Calls.mono (HW.out _ hb2) ?_); rintro e w3 ⟨rfl, hb3⟩; obtain ⟨hc3, _⟩ := bcell hb3; replace hb3 := below_comp hb2 hb3)
          | (go_at_call 6; refine (Calls.mono (HJW.out _ hb3) ?_); rintro e w4 ⟨vb, vl, rfl, ho, ht, hb4⟩; replace hb4 := below_comp hb3 hb4; obtain ⟨aoB, cB, rfl⟩ := ho.slice; obtain ⟨gb, hvb, _⟩ := ho.view; obtain ⟨gl, cl, rfl, hgl, _, hcl⟩ := ht.cells HQ2.out; have HCL := hid hcl; clear hcl)
          | fail)
        have hl0 : 0 < l.length := List.length_pos_iff.2 HQ2.out
        clear hc hc3 ho ht hwle hwt' hp hb2 hb3 hsz2 HF HW HJW HX
        go_loopw [34] (fun i wr => ∃ j : Nat, j ≤ l.length ∧ i = .int .i64 j ∧ Below w4.heap.size w4 wr) (fun i _ => l.length - (intOf i).toNat)
        case atStart => exact ⟨0, Nat.zero_le _, rfl, Below.refl _ _⟩
        case round =>
          obtain ⟨j, hj, rfl, hbr⟩ := hrel
          by_cases hlt : j < l.length
          · have hpos := HQ4.out l[j] (List.getElem_mem hlt)
            have hcw : ∀ q, q < 5 → wr.cell? ⟨gl, j * 5 + q, none⟩ = (tokCells l[j])[q]? := fun q hq => by
              have h0 := HCL.out j hlt q hq
              rw [← h0]
              exact hbr.cell (p := ⟨gl, j * 5 + q, none⟩) hgl
            have e0 : wr.cell? ⟨gl, j * 5, none⟩ = some (.int .i64 (l[j].kind : Int)) := hcw 0 (by omega)
            have e1 : wr.cell? ⟨gl, j * 5 + 1, none⟩ = some (.int .i64 (l[j].pos : Int)) := hcw 1 (by omega)
            have e2 : wr.cell? ⟨gl, j * 5 + 2, none⟩ = some (.string ⟨l[j].raw.toArray⟩) := hcw 2 (by omega)
            have e3 : wr.cell? ⟨gl, j * 5 + 3, none⟩ = some (.string ⟨l[j].str.toArray⟩) := hcw 3 (by omega)
            have e4 : wr.cell? ⟨gl, j * 5 + 4, none⟩ = some (.bool l[j].tru) := hcw 4 (by omega)
            clear hcw
            have hvr := hvb.below hbr
            generalize l[j] = tk at *
            obtain ⟨tkind, tpos, traw, tstr, ttru⟩ := tk
            simp only at hpos e0 e1 e2 e3 e4
            have hpl : placeVal (b.take tpos) = .tuple #[.int .i64 (1 + ((place (b.take tpos)).1 : Int)), .int .i64 (1 + ((place (b.take tpos)).2.1.length : Int)), .int .i64 (if (place (b.take tpos)).2.2 then 1 else 2)] := rfl
            have HP : Hid (∀ w', Below wr.heap.size wr w' → Calls Try.prog 7 #[.slice aoB b.length cB, .int .i64 tpos] w' fun e w2 => e = .returned (placeVal (b.take tpos)) ∧ w' = w2) := hid fun w' hb => jsonPlace_any _ b gb w' (hvr.below hb) tpos hpos (by omega)
            rw [hpl] at HP
            clear hpl
            rcases hoo : (place (b.take tpos)).2.2 with _ | _
            · have HQ : Hid (∀ w', Below wr.heap.size wr w' → Calls Try.prog 8 #[.slice aoB b.length cB, .int .i64 tpos] w' fun e w2 => (∃ c : Nat, e = .returned (.tuple #[.int .i64 (1 + ((place (b.take tpos)).1 : Int)), .int .i64 (1 + (c : Int)), .bool true])) ∧ Below w'.heap.size w' w2) := hid fun w' hb => jsonPosition_gen _ b gb w' tpos (hvr.below hb) hpos (by omega)
              rw [hoo] at HP
              simp only [Bool.false_eq_true, if_false] at HP
              clear hoo hvr hvb
              generalize (place (b.take tpos)).1 = pl1 at *
              generalize (place (b.take tpos)).2.1.length = pl2 at *
              go_wp2_with (first
                | (go_at_call 7; refine (Calls.mono (HP.out _ ((Below.refl _ _).alloc (Nat.le_refl _) _)) ?_); rintro e w5 ⟨rfl, rfl⟩)
                | (go_at_call 8; refine (Calls.mono (HQ.out _ ((Below.refl _ _).alloc (Nat.le_refl _) _)) ?_); rintro e w6 ⟨⟨cc, rfl⟩, hb6⟩; replace hb6 := below_comp ((Below.refl wr.heap.size wr).alloc (Nat.le_refl _) _) hb6)
                | fail)
              go_roundw
              case rel => exact ⟨j + 1, by omega, by go_num, below_comp hbr hb6⟩
              case measure => simp [intOf]; omega
            · have HQ : Hid (∀ w', Below wr.heap.size wr w' → Calls Try.prog 8 #[.slice aoB b.length cB, .int .i64 tpos] w' fun e w2 => e = .returned (lineCol3 (b.take tpos)) ∧ Below w'.heap.size w' w2) := hid fun w' hb => jsonPosition_any _ b gb w' tpos (hvr.below hb) hpos (by omega) hoo
              rw [hoo] at HP
              simp only [if_true] at HP
              unfold lineCol3 at HQ
              clear hoo hvr hvb
              generalize (place (b.take tpos)).1 = pl1 at *
              generalize (place (b.take tpos)).2.1.length = pl2 at *
              go_wp2_with (first
                | (go_at_call 7; refine (Calls.mono (HP.out _ ((Below.refl _ _).alloc (Nat.le_refl _) _)) ?_); rintro e w5 ⟨rfl, rfl⟩)
                | (go_at_call 8; refine (Calls.mono (HQ.out _ ((Below.refl _ _).alloc (Nat.le_refl _) _)) ?_); rintro e w6 ⟨rfl, hb6⟩; replace hb6 := below_comp ((Below.refl wr.heap.size wr).alloc (Nat.le_refl _) _) hb6)
                | fail)
              go_roundw
              case rel => exact ⟨j + 1, by omega, by go_num, below_comp hbr hb6⟩
              case measure => simp [intOf]; omega
          · go_wp2_with fail
            go_ret
            exact ⟨rfl, below_comp hb4 hbr⟩
      · have hwt' : (200 : Int) < weightN 20 (.mk k nm st kids) := by omega
        clear hv hf hwt
        generalize weightN 20 (.mk k nm st kids) = W at *
        go_enter Try.func3, Try.ntmps3
        go_wp2_with (first
          | (go_at_call 4; refine (Calls.mono (HF.out _) ?_); rintro e w1 ⟨rfl, hb2⟩; obtain ⟨hc, _⟩ := bcell hb2; replace hb2 := below_comp hb1 hb2)
          | (go_at_call 5; refine (Calls.mono (HW.out _ hb2) ?_); rintro e w3 ⟨rfl, hb3⟩; replace hb3 := below_comp hb2 hb3)
          | fail)
        go_ret
        exact ⟨rfl, hb3⟩
    · clear hv hf
      go_enter Try.func3, Try.ntmps3
      go_wp2_with (first
        | (go_at_call 4; refine (Calls.mono (HF.out _) ?_); rintro e w1 ⟨rfl, hb2⟩; replace hb2 := below_comp hb1 hb2)
        | fail)
      go_ret
      exact ⟨rfl, hb2⟩

theorem open_jitem {H : Type} {enc : TypeId × Value → H} {W : World} {r : Reach} {b0 : Nat} {sp : Nat → Bool} {hd : Bool} {v : Value} {d : DataW H} {p : List MemPlace} (hv : Value.okWide Try.prog W r b0 24 v) (h : DataW.Trod enc Try.prog W 0 sp hd 24 v d p) :
    ∃ (cs : List Value) (n : Nat) (x : JI), v = .agg cs.toArray ∧ ItemN W n cs x := by
  obtain ⟨cs, rfl, _⟩ := okWide_struct Try.underlying24 hv
  obtain ⟨fuel, hf⟩ := h
  obtain ⟨it, hit⟩ := open_item fuel cs.toList _ (by simpa [Value.cells] using hf)
  exact ⟨cs.toList, fuel, it, by simp, hit⟩

set_option maxRecDepth 100000 in
theorem fnJsonFormsPlaces_lifted (os : Os) (started : os.Started) (H : Type) (enc : TypeId × Value → H) :
    ReturnsInHanded {} Try.checked os 3 .any (Rows.fnJsonFormsPlacesSpec.pre6 enc Try.prog Try.f3 Rows.fnJsonFormsPlacesRow.domain false) (Rows.fnJsonFormsPlacesSpec.post enc Try.prog Try.f3 false true false false) := by
  refine returnsInHanded_of_change (C := Try.checked) Try.own started (by kernel_rfl) Try.func3
    (ChangeSpec.witness6 (enc := enc) (C := Try.checked) false ⟨#[], #[.agg #[.int .u8 0, .string ⟨#[]⟩, .string ⟨#[]⟩, .slice none 0 0], .slice none 0 0], []⟩ 8 (by kernel_rfl) (by kernel_rfl) (by kernel_rfl) (by kernel_rfl)) ?_
  intro W base args ds gs before hval0 hW hcnd _
  have hval : ∀ (j : Nat) t v, Try.f3.params[j]? = some t → args[j]? = some v → Value.okWide Try.prog W .any base t v := hval0
  have hW' := hW
  obtain ⟨p, q, hA0, hV, rfl, hfz, hnd⟩ := hW
  have hA : DataW.TrodAll enc Try.prog W 0 (fun _ => true) true Try.f3.params.toList args.toList ds p := hA0
  rw [Try.params3] at hA hval
  obtain ⟨v0, v1, d0, d1, p0, p1, rfl, rfl, rfl, h0, h1⟩ := trodAll_two hA
  obtain ⟨cs, n, x, rfl, hx⟩ := open_jitem (hval 0 24 v0 rfl rfl) h0
  obtain ⟨g, ps, hv⟩ := open_bytes Try.underlying25 Try.underlying5 (by kernel_rfl) (hval 1 25 v1 rfl rfl) h1
  clear hA0 hval0
  refine (fnJsonFormsPlaces_any n x cs W ps v1 g hx hv).mono fun e W' ⟨he, hw⟩ => ?_
  subst he
  exact ⟨_, rfl, law_post Try.laidOut hW' rfl rfl Try.underlying4 (by kernel_rfl) rfl hw⟩

theorem fnJsonFormsPlaces_holds : Rows.FnJsonFormsPlacesSaid :=
  OpenClaim.holds_of_wide 3 Try.f3 rfl rfl rfl rfl rfl rfl rfl ⟨rfl, rfl, rfl, rfl, rfl⟩ rfl rfl rfl rfl rfl (by kernel_rfl) Try.func3 (by kernel_rfl)
    (of_decide_eq_true (by kernel_rfl)) (by unfold Func.isWrapper; first | (rw [if_pos (by decide +kernel)]; kernel_rfl) | (rw [if_neg (by decide +kernel)]; exact ⟨rfl, rfl⟩))
    (fun os started H enc _ => fnJsonFormsPlaces_lifted os started H enc)
end Go.Proofs.Ytjkmmhnhhiopiaa
