/-
  The law FnJsonTokens: any bytes that are not blanks alone are the tokens of JSON, up to the first error, where the reference leaves nothing open. The listed variables hold the tables of UTF-8 and the named errors.
-/
import Derived.Test.YtjkmmhnhhiopiaaDoorRB
import Derived.Test.YtjkmmhnhhiopiaaDoorDJPeeks
namespace Go.Proofs.YtjkmmhnhhiopiaaDoor
open Go.ChangeShapes Go.WideShapes Go.ChangeAt Go.RowKit

theorem tokCells_at : ∀ (l : List JT) (i q : Nat) (h : i < l.length), q < 5 → (l.flatMap tokCells)[i * 5 + q]? = (tokCells l[i])[q]?
  | [], i, q, h, _ => by simp at h
  | t :: l, 0, q, h, hq => by
    rw [List.flatMap_cons, List.getElem?_append_left (by simp [tokCells]; omega)]
    simp
  | t :: l, i + 1, q, h, hq => by
    rw [List.flatMap_cons, List.getElem?_append_right (by simp [tokCells]; omega)]
    have e : (i + 1) * 5 + q - (tokCells t).length = i * 5 + q := by simp [tokCells]; omega
    rw [e, tokCells_at l i q (by simpa using h) hq]
    simp
theorem OwnT.cells {w : World} {B : Nat} {v : Value} {l : List JT} (h : OwnT w B v l) : ∃ ao cap, v = .slice ao l.length cap ∧ l.length ≤ cap ∧ ∀ i (hi : i < l.length), ∃ g, ao = some ⟨g, 0, none⟩ ∧ g < w.heap.size ∧ ∀ q, q < 5 → w.cell? ⟨g, i * 5 + q, none⟩ = (tokCells l[i])[q]? := by
  by_cases hne : l = []
  · rcases h.2 with ⟨rfl, h0⟩ | ⟨g, cap, cur, rfl, _, _, h3, _⟩
    · exact ⟨none, 0, by rw [h0], by omega, fun i hi => by rw [hne] at hi; simp at hi⟩
    · exact ⟨_, cap, rfl, by omega, fun i hi => by rw [hne] at hi; simp at hi⟩
  · have hl : 0 < l.length := List.length_pos_iff.2 hne
    rcases h.2 with ⟨rfl, h0⟩ | ⟨g', cap', cur', rfl, _, _, h3', _⟩
    · omega
    · obtain ⟨g, cap, e, hB, hlt⟩ := World.ownsRow.form h hl
      injection e with e1 e2 e3
      subst e3
      injection e1 with e1
      injection e1 with e1
      subst e1
      refine ⟨_, _, rfl, by omega, fun i hi => ⟨g', rfl, hlt, fun q hq => ?_⟩⟩
      have h1 := tokCells_at l i q hi hq
      have hq' : q < (tokCells l[i]).length := by simpa [tokCells] using hq
      rw [List.getElem?_eq_getElem hq'] at h1 ⊢
      have h2 := World.ownsRow.cells h (g := g') rfl _ _ h1
      rwa [Addr.add_lit, Nat.zero_add] at h2
theorem want_cells {w w' : World} {g n : Nat} {t : JT} (hb : Below w.heap.size w w') (hg : g < w.heap.size) (h : ∀ q, q < 5 → w.cell? ⟨g, n + q, none⟩ = (tokCells t)[q]?) :
    w'.cell? ⟨g, n, none⟩ = some (.int .i64 (t.kind : Int)) ∧ w'.cell? ⟨g, n + 1, none⟩ = some (.int .i64 (t.pos : Int)) ∧ w'.cell? ⟨g, n + 2, none⟩ = some (.string ⟨t.raw.toArray⟩) ∧ w'.cell? ⟨g, n + 3, none⟩ = some (.string ⟨t.str.toArray⟩) ∧ w'.cell? ⟨g, n + 4, none⟩ = some (.bool t.tru) := by
  have k : ∀ q, q < 5 → w'.cell? ⟨g, n + q, none⟩ = (tokCells t)[q]? := fun q hq => (hb.cell (p := ⟨g, n + q, none⟩) hg).trans (h q hq)
  exact ⟨k 0 (by omega), k 1 (by omega), k 2 (by omega), k 3 (by omega), k 4 (by omega)⟩
/-- no token of the package's is the end -/
theorem runJ_kinds (bs : List UInt8) (ps : List Bool) : ∀ (f : Nat) (s : DS) (l : List TK), (∀ t ∈ l, t.kind ≠ 1) → ∀ t ∈ (runJ bs ps f s l).1, t.kind ≠ 1
  | 0, _, _, h => h
  | f + 1, s, l, h => by
    rw [runJ_succ]
    rcases readJ bs (if ps.getD l.length false then peekJ bs s else s) with ⟨s', _ | _⟩
    · exact h
    · simp only
      split
      · exact h
      · rename_i hk
        refine runJ_kinds bs ps f s' (l ++ [s'.tok]) fun t ht => ?_
        rw [List.mem_append, List.mem_singleton] at ht
        rcases ht with ht | rfl
        · exact h t ht
        · exact hk
theorem allJ_kinds (bs : List UInt8) (ps : List Bool) : ∀ t ∈ (allJ bs ps).1, t.kind ≠ 1 := runJ_kinds bs ps _ _ _ (fun t h => by cases h)
/-- what the two readings are: the reference's list, how many of it are asked, what the package tells -/
structure Told (bs : List UInt8) (l : List JT) (z : Nat) (b : Bool) : Prop where
  le : z ≤ (allR bs).1.length
  want : l = (allR bs).1.take z
  told : (allR bs).2 = if b then 1 else 0
  got : allJ bs [] = (l.map toTKR, b)
  last : z < (allR bs).1.length → z + 1 = (allR bs).1.length
  kind : ∀ t, (allR bs).1.getLast? = some t → (t.kind = 1 ↔ z < (allR bs).1.length)
theorem told_all (bs : List UInt8) (h : (allR bs).2 ≠ 2) : ∃ l z b, Told bs l z b := by
  rcases all_same bs with h2 | ⟨h0, hj⟩ | ⟨h1, l, t, hl, ht, hj⟩
  · exact absurd h2 h
  · refine ⟨(allR bs).1, (allR bs).1.length, false, Nat.le_refl _, by simp, h0, hj, fun h => absurd h (Nat.lt_irrefl _), fun t ht => ?_⟩
    have hk := allJ_kinds bs [] (toTKR t) (by rw [hj]; exact List.mem_map_of_mem (List.mem_of_getLast? ht))
    exact ⟨fun h => absurd h hk, fun h => absurd h (Nat.lt_irrefl _)⟩
  · refine ⟨l, l.length, true, by rw [hl]; simp, by rw [hl]; simp, h1, hj, fun _ => by rw [hl]; simp, fun u hu => ?_⟩
    rw [hl] at hu
    simp at hu
    subst hu
    exact ⟨fun _ => by rw [hl]; simp, fun _ => ht⟩
set_option maxRecDepth 100000 in
set_option maxHeartbeats 4000000 in
theorem fnJsonTokens_any (v : Value) (bs : List UInt8) (g : Nat) (w : World) (hv : View w g v bs) (hgl : Glob w) (h5 : 5 ≤ w.heap.size) :
    Calls Tryd.prog 5 #[v] w fun e w' => e = .returned (.bool true) ∧ Below w.heap.size w w' := by
  have hb0 : Below w.heap.size w w := Below.refl _ _
  have HV := hid hv
  have HG := hid hgl
  obtain ⟨aoB, cB, rfl⟩ := hv.slice
  clear hv hgl
  by_cases h1 : bs.length ≤ 4000
  · have HB0 : Hid (Calls Tryd.prog 15 #[.slice aoB bs.length cB] w (SomeB w)) := hid (bare_any _ bs g w HV.out (by omega))
    have HE0 : Hid (Calls Tryd.prog 16 #[.slice aoB bs.length cB] w (SomeB w)) := hid (empty_any _ bs g w HV.out (by omega))
    have HR0 : Hid (Calls Tryd.prog 17 #[.slice aoB bs.length cB] w (AllRes (allR bs) w)) := hid (rtokens_any _ bs g w HV.out (by omega))
    have hTR : (allR bs).2 ≠ 2 → ∃ l z b, Told bs l z b := told_all bs
    have hlen := allJ_len bs []
    by_cases h2 : (allR bs).2 = 2
    · clear hTR hlen
      generalize allR bs = R at *
      obtain ⟨R1, R2⟩ := R
      simp only at h2
      subst h2
      go_enter Tryd.func5, Tryd.ntmps5
      go_wp2_with (first
        | (go_at_call 15; refine (Calls.mono HB0.out ?_); rintro e w1 ⟨b1, rfl, rfl⟩; cases b1)
        | (go_at_call 16; refine (Calls.mono HE0.out ?_); rintro e w1 ⟨b2, rfl, rfl⟩; cases b2)
        | (go_at_call 17; refine (Calls.mono HR0.out ?_); rintro e w1 ⟨v1, rfl, ho1, hb1⟩; have HB1 := hid hb1; clear ho1 hb1)
        | fail)
      all_goals go_ret
      all_goals first
        | exact ⟨rfl, hb0⟩
        | exact ⟨rfl, HB1.out⟩
    · obtain ⟨l, z, b, hT⟩ := hTR h2
      obtain ⟨t1, t2, t3, t4, t5, t6⟩ := hT
      have HT : Hid (∀ w', Below w.heap.size w w' → Calls Tryd.prog 11 #[.slice aoB bs.length cB] w' (JTold w'.heap.size (l.map toTKR) b w')) :=
        hid fun w' hb => (jsonTokens_any _ bs g w' (HV.out.below hb) (by omega) (HG.out.below hb) (by have := hb.size; omega)).mono fun e w2 h => h.told t4
      have hll : l.length = z := by rw [t2]; simp; omega
      have hlz : z ≤ 5000 := by rw [t4] at hlen; simp at hlen; omega
      generalize allR bs = R at *
      obtain ⟨R1, R2⟩ := R
      simp only at t1 t2 t3 t5 t6 h2
      have hR2 : R2 = if b then 1 else 0 := t3
      have h2b : ((R2 : Int) == 2) = false := by simp; omega
      have hR1 : ((R2 : Int) == 1) = b := by rw [hR2]; cases b <;> rfl
      unfold JTold at HT
      simp only [List.length_map] at HT
      clear h2 hTR hlen t3 hR2
      cases b
      all_goals
        go_enter Tryd.func5, Tryd.ntmps5
        go_upto_region 9 with (first
          | (go_at_call 15; refine (Calls.mono HB0.out ?_); rintro e w1 ⟨b1, rfl, rfl⟩; cases b1)
          | (go_at_call 16; refine (Calls.mono HE0.out ?_); rintro e w1 ⟨b2, rfl, rfl⟩; cases b2)
          | (go_at_call 17; refine (Calls.mono HR0.out ?_); rintro e w1 ⟨v1, rfl, ho1, hb1⟩; have HB1 := hid hb1; obtain ⟨aoR, cR, rfl, hcR, hcells⟩ := OwnT.cells ho1; have HC1 := hid hcells; clear ho1 hb1 hcells)
          | fail)
        all_goals (first | (go_ret; exact ⟨rfl, hb0⟩) | skip)
        have HCW : Hid (∀ i (hi : i < l.length), ∃ gR, aoR = some ⟨gR, 0, none⟩ ∧ gR < w1.heap.size ∧ ∀ q, q < 5 → w1.cell? ⟨gR, i * 5 + q, none⟩ = (tokCells l[i])[q]?) := hid (by
          intro i hi
          have hi2 : i < R1.length := by rw [hll] at hi; omega
          obtain ⟨gR, e, hg, hc⟩ := HC1.out i hi2
          have el : l[i] = R1[i] := by subst t2; simp
          exact ⟨gR, e, hg, fun q hq => by rw [el]; exact hc q hq⟩)
        have HK : Hid (∀ m, R1.length = m + 1 → ∃ (gR k1 : Nat), aoR = some ⟨gR, 0, none⟩ ∧ w1.cell? ⟨gR, m * 5, none⟩ = some (.int .i64 (k1 : Int)) ∧ (k1 = 1 ↔ z < m + 1)) := hid (by
          intro m hm
          obtain ⟨gR, e, hg, hc⟩ := HC1.out m (by omega)
          refine ⟨gR, R1[m].kind, e, ?_, ?_⟩
          · have := hc 0 (by omega)
            simpa [tokCells] using this
          · rw [← hm]
            exact t6 _ (by rw [List.getLast?_eq_getElem?, show R1.length - 1 = m by omega]; exact List.getElem?_eq_getElem _))
        rw [hll] at HT
        clear HC1 t2 t6 HR0
        generalize R1.length = n1 at *
        have HLL := hid hll
        clear hll
        rcases n1 with _ | m
        · obtain rfl : z = 0 := by omega
          clear HK
          go_upto_region 11 with fail
          go_upto_region 14 with (first
            | (go_at_call 11; refine (Calls.mono (HT.out _ HB1.out) ?_); rintro e w2 ⟨ao2, c2, rfl, ho2, hb2⟩; have HO2 := hid ho2; have HB2 := hid hb2; have HB3 := hid (below_comp HB1.out hb2); clear ho2 hb2)
            | fail)
          obtain ⟨ao2', c2', he2, hcells2⟩ := HO2.out.cells
          injection he2 with he2 hx2' he2'
          clear hx2'
          subst he2 he2'
          have HC2 := hid hcells2
          clear hcells2
          go_wp2_with fail
          go_loopw [67] (fun i wr => ∃ j : Nat, j ≤ 0 ∧ i = .int .i64 j ∧ Below w2.heap.size w2 wr) (fun i _ => 0 - (intOf i).toNat)
          case atStart => exact ⟨0, Nat.zero_le _, rfl, Below.refl _ _⟩
          case round =>
            obtain ⟨j, hj, rfl, hbr⟩ := hrel
            have hlt : ¬ j < 0 := Nat.not_lt_zero j
            obtain rfl : j = 0 := by omega
            go_wp2_with fail
            go_ret
            exact ⟨rfl, below_comp HB3.out hbr⟩
        · obtain ⟨gR, k1, rfl, hck, hk1⟩ := HK.out m rfl
          by_cases hzm : z = m + 1
          · obtain rfl := hzm
            have hk2 : ((k1 : Int) == 1) = false := by simp; omega
            clear hk1 HK t5
            go_upto_region 11 with fail
            go_upto_region 14 with (first
              | (go_at_call 11; refine (Calls.mono (HT.out _ HB1.out) ?_); rintro e w2 ⟨ao2, c2, rfl, ho2, hb2⟩; have HO2 := hid ho2; have HB2 := hid hb2; have HB3 := hid (below_comp HB1.out hb2); clear ho2 hb2)
              | fail)
            obtain ⟨ao2', c2', he2, hcells2⟩ := HO2.out.cells
            injection he2 with he2 hx2' he2'
            clear hx2'
            subst he2 he2'
            have HC2 := hid hcells2
            clear hcells2
            go_wp2_with fail
            go_loopw [67] (fun i wr => ∃ j : Nat, j ≤ (m + 1) ∧ i = .int .i64 j ∧ Below w2.heap.size w2 wr) (fun i _ => (m + 1) - (intOf i).toNat)
            case atStart => exact ⟨0, Nat.zero_le _, rfl, Below.refl _ _⟩
            case round =>
              obtain ⟨j, hj, rfl, hbr⟩ := hrel
              by_cases hlt : j < (m + 1)
              · obtain ⟨g1, rfl, hg1, k1'⟩ := HC2.out j (by rw [List.length_map, HLL.out]; exact hlt)
                obtain ⟨g2, hg2e, hg2, k2⟩ := HCW.out j (by rw [HLL.out]; exact hlt)
                obtain rfl : g2 = gR := by injection hg2e with e; injection e with e; exact e.symm
                rw [List.getElem_map] at k1'
                obtain ⟨t, ht⟩ : ∃ t, t = l[j]'(by rw [HLL.out]; exact hlt) := ⟨_, rfl⟩
                rw [← ht] at k1' k2
                clear ht
                have hz := hbr.size
                have hz2 := HB2.out.size
                have hg1r : g1 < wr.heap.size := by omega
                have hg2r : g2 < wr.heap.size := by omega
                obtain ⟨a0, a1, a2, a3, a4⟩ := tok_cells hbr hg1 k1'
                simp only [toTKR] at a0 a1 a2 a3 a4
                obtain ⟨b0, b1, b2, b3, b4⟩ := want_cells (HB2.out.trans (hbr.mono hz2)) hg2 k2
                have HBR := hid hbr
                clear k1' k2 hbr
                go_wp2_with fail
                go_roundw
                case rel => exact ⟨j + 1, by omega, by go_num, (HBR.out.alloc HBR.out.size _).alloc (by simp; omega) _⟩
                case measure => simp [intOf]; omega
              · go_wp2_with fail
                go_ret
                exact ⟨rfl, below_comp HB3.out hbr⟩
          · obtain rfl : z = m := by have := t5 (by omega); omega
            have hk2 : ((k1 : Int) == 1) = true := by simp; omega
            have hmc : (z : Int) ≤ (cR : Int) := by omega
            clear hk1 HK t5 hzm
            go_upto_region 11 with fail
            go_upto_region 14 with (first
              | (go_at_call 11; refine (Calls.mono (HT.out _ HB1.out) ?_); rintro e w2 ⟨ao2, c2, rfl, ho2, hb2⟩; have HO2 := hid ho2; have HB2 := hid hb2; have HB3 := hid (below_comp HB1.out hb2); clear ho2 hb2)
              | fail)
            obtain ⟨ao2', c2', he2, hcells2⟩ := HO2.out.cells
            injection he2 with he2 hx2' he2'
            clear hx2'
            subst he2 he2'
            have HC2 := hid hcells2
            clear hcells2
            go_wp2_with fail
            go_loopw [67] (fun i wr => ∃ j : Nat, j ≤ z ∧ i = .int .i64 j ∧ Below w2.heap.size w2 wr) (fun i _ => z - (intOf i).toNat)
            case atStart => exact ⟨0, Nat.zero_le _, rfl, Below.refl _ _⟩
            case round =>
              obtain ⟨j, hj, rfl, hbr⟩ := hrel
              by_cases hlt : j < z
              · obtain ⟨g1, rfl, hg1, k1'⟩ := HC2.out j (by rw [List.length_map, HLL.out]; exact hlt)
                obtain ⟨g2, hg2e, hg2, k2⟩ := HCW.out j (by rw [HLL.out]; exact hlt)
                obtain rfl : g2 = gR := by injection hg2e with e; injection e with e; exact e.symm
                rw [List.getElem_map] at k1'
                obtain ⟨t, ht⟩ : ∃ t, t = l[j]'(by rw [HLL.out]; exact hlt) := ⟨_, rfl⟩
                rw [← ht] at k1' k2
                clear ht
                have hz := hbr.size
                have hz2 := HB2.out.size
                have hg1r : g1 < wr.heap.size := by omega
                have hg2r : g2 < wr.heap.size := by omega
                obtain ⟨a0, a1, a2, a3, a4⟩ := tok_cells hbr hg1 k1'
                simp only [toTKR] at a0 a1 a2 a3 a4
                obtain ⟨b0, b1, b2, b3, b4⟩ := want_cells (HB2.out.trans (hbr.mono hz2)) hg2 k2
                have HBR := hid hbr
                clear k1' k2 hbr
                go_wp2_with fail
                go_roundw
                case rel => exact ⟨j + 1, by omega, by go_num, (HBR.out.alloc HBR.out.size _).alloc (by simp; omega) _⟩
                case measure => simp [intOf]; omega
              · go_wp2_with fail
                go_ret
                exact ⟨rfl, below_comp HB3.out hbr⟩
  · by_cases h3 : bs.length ≤ 2147483647
    all_goals
      go_enter Tryd.func5, Tryd.ntmps5
      go_wp2_with fail
      go_ret
      exact ⟨rfl, hb0⟩
end Go.Proofs.YtjkmmhnhhiopiaaDoor
