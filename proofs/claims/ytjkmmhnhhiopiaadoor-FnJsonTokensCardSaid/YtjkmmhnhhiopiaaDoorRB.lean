/-
  The reference's reader of JSON, walked: strings, words, values, names, all tokens; it tells what the package tells (eleven texts joined).
-/
import Derived.Test.YtjkmmhnhhiopiaaDoorRA
import Derived.Test.YtjkmmhnhhiopiaaDoorJB
import Derived.Deep.RegionHeld3
import Derived.Test.YtjkmmhnhhiopiaaDoorGuard
import Derived.Deep.CutBlock
import Derived.Deep.DeepCutAuto

namespace Go.Proofs.YtjkmmhnhhiopiaaDoor
open Go.ChangeShapes Go.WideShapes Go.ChangeAt Go.RowKit

theorem View.slice4 {w : World} {g : Nat} {v : Value} {bs : List UInt8} (h : View w g v bs) : ∃ ao n c, v = .slice ao n c := by
  obtain ⟨ao, c, rfl⟩ := h.slice
  exact ⟨_, _, _, rfl⟩
/-- what 'escape' and 'unicode4' return -/
def EscRes (x : Except Nat (List UInt8 × Nat)) (w : World) (e : Ending) (w' : World) : Prop := Below w.heap.size w w' ∧ match x with
  | .ok (t, n) => ∃ v' g', e = .returned (.tuple #[v', .int .i64 (n : Int), .int .i64 1]) ∧ View w' g' v' t
  | .error k => e = .returned (.tuple #[.slice none 0 0, .int .i64 0, .int .i64 (k : Int)])
theorem EscRes.ok {t : List UInt8} {n : Nat} {w w' : World} {e : Ending} {v' : Value} {g' : Nat} (hb : Below w.heap.size w w') (he : e = .returned (.tuple #[v', .int .i64 (n : Int), .int .i64 1])) (hv : View w' g' v' t) : EscRes (.ok (t, n)) w e w' := ⟨hb, v', g', he, hv⟩
theorem EscRes.no {k : Nat} {w w' : World} {e : Ending} (hb : Below w.heap.size w w') (he : e = .returned (.tuple #[.slice none 0 0, .int .i64 0, .int .i64 (k : Int)])) : EscRes (.error k) w e w' := ⟨hb, he⟩
theorem hex4R_lt {l : List UInt8} {n : Nat} (h : hex4R l = some n) : n < 65536 := by
  unfold hex4R at h
  by_cases h4 : l.length < 4
  · rw [if_pos h4] at h; cases h
  · rw [if_neg h4] at h
    have := hexN_lt _ _ _ h
    have hl : (l.take 4).length = 4 := by simp; omega
    rw [hl] at this
    omega
set_option maxRecDepth 100000 in
set_option maxHeartbeats 4000000 in
theorem unicode4_any (v : Value) (l : List UInt8) (g : Nat) (w : World) (hv : View w g v l) (h0 : 0 < l.length) (hm : l.length ≤ 100000000) :
    Calls Tryd.prog 88 #[v] w (EscRes (uniR l) w) := by
  obtain ⟨o, cap, rfl, hcell⟩ := view_some hv h0
  have HC := hid hcell
  have HV := hid hv
  have hlen1 : (1 : Int) ≤ (l.length : Int) := by omega
  clear hv hcell
  have hu : uniR l = match hex4R (l.drop 1) with
    | none => .error 0
    | some c => if c < 55296 ∨ 57344 ≤ c then .ok (encU c, 5)
      else if 56320 ≤ c ∨ l.length < 11 ∨ (l.getD 5 0).toNat ≠ 92 ∨ (l.getD 6 0).toNat ≠ 117 then .error 2
      else match hex4R (l.drop 7) with
        | none => .error 2
        | some d => if d < 56320 ∨ 57344 ≤ d then .error 2 else .ok (encU (65536 + (c - 55296) * 1024 + d - 56320), 11) := rfl
  have HX1 : Hid (∀ (v' : Value) (g' : Nat) (w' : World), View w' g' v' (l.drop 1) → Calls Tryd.prog 95 #[v'] w' fun e w2 => e = .returned (.int .i64 (hex4I (l.drop 1))) ∧ Below w'.heap.size w' w2) := hid fun v' g' w' h => hex4_any v' _ g' w' h (by simp; omega)
  rcases hx : hex4R (l.drop 1) with _ | c
  · rw [hx] at hu
    have HU : Hid (uniR l = .error 0) := hid hu
    rw [hex4I_none hx] at HX1
    clear hx hu
    go_enter Tryd.func88, Tryd.ntmps88
    go_wp2_with (first | ((with_reducible refine is_from ?_); refine wpList_slice_from _ (by rfl) _ _ 28 5 rfl Tryd.underlying28 info5u _ _ _ rfl HV.out _ (1 : Int) rfl (by decide) (by omega) ?_; intro vs1 hvs1; obtain ⟨ao1, n1, cp1, rfl⟩ := hvs1.slice4; have HS1 := hid hvs1; clear hvs1) | (go_at_call 95; refine (Calls.mono (HX1.out _ g _ HS1.out) ?_); rintro e w1 ⟨rfl, hb1⟩; have HB1 := hid hb1; clear hb1) | fail)
    go_ret3
    rw [HU.out]
    exact .no HB1.out rfl
  · rw [hx] at hu
    have hc16 := hex4R_lt hx
    rw [hex4I_some hx] at HX1
    have HU := hid hu
    clear hx hu
    have e0 : decide ((c : Int) < 0) = false := by simp
    by_cases h1 : c < 55296 ∨ 57344 ≤ c
    · have HU2 : Hid (uniR l = .ok (encU c, 5)) := hid (by rw [HU.out]; simp only; rw [if_pos h1])
      have h1' : decide ((c : Int) < 55296) = true ∨ decide ((c : Int) < 55296) = false ∧ decide (57344 ≤ (c : Int)) = true := by simp; omega
      have HE : Hid (∀ w', Calls Tryd.prog 75 #[.int .i64 (c : Int)] w' fun e w2 => (∃ v, e = .returned v ∧ View w2 w'.heap.size v (encU c)) ∧ Below w'.heap.size w' w2) := hid fun w' => utf8enc_any c w' (by omega)
      clear h1 hc16
      rcases h1' with h1 | ⟨h1, h2⟩
      all_goals
        go_enter Tryd.func88, Tryd.ntmps88
        go_wp2_with (first
          | ((with_reducible refine is_from ?_); refine wpList_slice_from _ (by rfl) _ _ 28 5 rfl Tryd.underlying28 info5u _ _ _ rfl HV.out _ (1 : Int) rfl (by decide) (by omega) ?_; intro vs1 hvs1; obtain ⟨ao1, n1, cp1, rfl⟩ := hvs1.slice4; have HS1 := hid hvs1; clear hvs1)
          | (go_at_call 95; refine (Calls.mono (HX1.out _ g _ HS1.out) ?_); rintro e w1 ⟨rfl, hb1⟩; have HB1 := hid hb1; clear hb1)
          | (go_at_call 75; refine (Calls.mono (HE.out _) ?_); rintro e w2 ⟨⟨v2, rfl, hv2⟩, hb2⟩; obtain ⟨ao2, n2, cp2, rfl⟩ := hv2.slice4; have HV2 := hid hv2; have HB2 := hid (below_comp HB1.out hb2); clear hv2 hb2)
          | fail)
        go_ret3
        rw [HU2.out]
        exact .ok HB2.out rfl HV2.out
    · by_cases h2 : 56320 ≤ c ∨ l.length < 11 ∨ (l.getD 5 0).toNat ≠ 92 ∨ (l.getD 6 0).toNat ≠ 117
      · have HU2 : Hid (uniR l = .error 2) := hid (by rw [HU.out]; simp only; rw [if_neg h1, if_pos h2])
        have a1 : decide ((c : Int) < 55296) = false := by simp; omega
        have a2 : decide (57344 ≤ (c : Int)) = false := by simp; omega
        clear h1 hc16
        by_cases b1n : 56320 ≤ c
        · have b1 : decide (56320 ≤ (c : Int)) = true := by simp; omega
          clear h2 b1n
          go_enter Tryd.func88, Tryd.ntmps88
          go_wp2_with (first | ((with_reducible refine is_from ?_); refine wpList_slice_from _ (by rfl) _ _ 28 5 rfl Tryd.underlying28 info5u _ _ _ rfl HV.out _ (1 : Int) rfl (by decide) (by omega) ?_; intro vs1 hvs1; obtain ⟨ao1, n1, cp1, rfl⟩ := hvs1.slice4; have HS1 := hid hvs1; clear hvs1) | (go_at_call 95; refine (Calls.mono (HX1.out _ g _ HS1.out) ?_); rintro e w1 ⟨rfl, hb1⟩; have HB1 := hid hb1; clear hb1) | fail)
          go_ret3
          rw [HU2.out]
          exact .no HB1.out rfl
        · have b1 : decide (56320 ≤ (c : Int)) = false := by simp; omega
          by_cases b2 : (l.length : Int) < 11
          · clear h2 b1n
            go_enter Tryd.func88, Tryd.ntmps88
            go_wp2_with (first | ((with_reducible refine is_from ?_); refine wpList_slice_from _ (by rfl) _ _ 28 5 rfl Tryd.underlying28 info5u _ _ _ rfl HV.out _ (1 : Int) rfl (by decide) (by omega) ?_; intro vs1 hvs1; obtain ⟨ao1, n1, cp1, rfl⟩ := hvs1.slice4; have HS1 := hid hvs1; clear hvs1) | (go_at_call 95; refine (Calls.mono (HX1.out _ g _ HS1.out) ?_); rintro e w1 ⟨rfl, hb1⟩; have HB1 := hid hb1; clear hb1) | fail)
            go_ret3
            rw [HU2.out]
            exact .no HB1.out rfl
          · have hl5 : 5 < l.length := by omega
            have hl6 : 6 < l.length := by omega
            have g5 : l.getD 5 0 = l[5] := by simp [List.getD_eq_getElem?_getD, List.getElem?_eq_getElem hl5]
            have g6 : l.getD 6 0 = l[6] := by simp [List.getD_eq_getElem?_getD, List.getElem?_eq_getElem hl6]
            rw [g5, g6] at h2
            have HC5 := hid (HC.out 5 hl5)
            have HC6 := hid (HC.out 6 hl6)
            clear HU g5 g6
            generalize l[5] = c5 at *
            generalize l[6] = c6 at *
            have h3 : (((c5.toNat : Int) != 92) = true) ∨ (((c5.toNat : Int) != 92) = false ∧ ((c6.toNat : Int) != 117) = true) := by simp; omega
            have b3 : decide ((l.length : Int) < 11) = false := by simp; omega
            have HM := hid hm
            clear h2 b1n b2 hm
            rcases h3 with h3 | ⟨h3, h4⟩
            all_goals
              go_enter Tryd.func88, Tryd.ntmps88
              go_wp2_with (first | ((with_reducible refine is_from ?_); refine wpList_slice_from _ (by rfl) _ _ 28 5 rfl Tryd.underlying28 info5u _ _ _ rfl HV.out _ (1 : Int) rfl (by decide) (by omega) ?_; intro vs1 hvs1; obtain ⟨ao1, n1, cp1, rfl⟩ := hvs1.slice4; have HS1 := hid hvs1; clear hvs1) | (go_at_call 95; refine (Calls.mono (HX1.out _ g _ HS1.out) ?_); rintro e w1 ⟨rfl, hb1⟩; have HB1 := hid hb1; have k5 := (hb1.cell (World.block_lt_of_cell? _ _ HC5.out)).trans HC5.out; have k6 := (hb1.cell (World.block_lt_of_cell? _ _ HC6.out)).trans HC6.out; clear hb1) | fail)
              go_ret3
              rw [HU2.out]
              exact .no HB1.out rfl
      · have hl11 : 11 ≤ l.length := by omega
        have hl5 : 5 < l.length := by omega
        have hl6 : 6 < l.length := by omega
        have g5 : l.getD 5 0 = l[5] := by simp [List.getD_eq_getElem?_getD, List.getElem?_eq_getElem hl5]
        have g6 : l.getD 6 0 = l[6] := by simp [List.getD_eq_getElem?_getD, List.getElem?_eq_getElem hl6]
        have hu2 := HU.out
        simp only at hu2
        rw [if_neg h1, if_neg h2] at hu2
        rw [g5, g6] at h2
        have HC5 := hid (HC.out 5 hl5)
        have HC6 := hid (HC.out 6 hl6)
        clear HU g5 g6
        generalize l[5] = c5 at *
        generalize l[6] = c6 at *
        have h3 : ((c5.toNat : Int) != 92) = false := by simp; omega
        have h4 : ((c6.toNat : Int) != 117) = false := by simp; omega
        have a1 : decide ((c : Int) < 55296) = false := by simp; omega
        have a2 : decide (57344 ≤ (c : Int)) = false := by simp; omega
        have b1 : decide (56320 ≤ (c : Int)) = false := by simp; omega
        have b3 : decide ((l.length : Int) < 11) = false := by simp; omega
        have hlen7 : (7 : Int) ≤ (l.length : Int) := by omega
        have HX7 : Hid (∀ (v' : Value) (g' : Nat) (w' : World), View w' g' v' (l.drop 7) → Calls Tryd.prog 95 #[v'] w' fun e w2 => e = .returned (.int .i64 (hex4I (l.drop 7))) ∧ Below w'.heap.size w' w2) := hid fun v' g' w' h => hex4_any v' _ g' w' h (by simp; omega)
        have hcr : 55296 ≤ c ∧ c < 56320 := by omega
        have HM := hid hm
        clear h1 h2 hm hc16
        rcases hx : hex4R (l.drop 7) with _ | d
        · rw [hx] at hu2
          have HU2 : Hid (uniR l = .error 2) := hid hu2
          rw [hex4I_none hx] at HX7
          clear hx hu2 hcr hl11 hl5 hl6
          go_enter Tryd.func88, Tryd.ntmps88
          go_wp2_with (first
            | ((with_reducible refine is_from ?_); refine wpList_slice_from _ (by rfl) _ _ 28 5 rfl Tryd.underlying28 info5u _ _ _ rfl HV.out _ (1 : Int) rfl (by decide) (by omega) ?_; intro vs1 hvs1; obtain ⟨ao1, n1, cp1, rfl⟩ := hvs1.slice4; have HS1 := hid hvs1; clear hvs1)
            | (go_at_call 95; refine (Calls.mono (HX1.out _ g _ HS1.out) ?_); rintro e w1 ⟨rfl, hb1⟩; have HB1 := hid hb1; have k5 := (hb1.cell (World.block_lt_of_cell? _ _ HC5.out)).trans HC5.out; have k6 := (hb1.cell (World.block_lt_of_cell? _ _ HC6.out)).trans HC6.out; clear hb1 HX1)
            | ((with_reducible refine is_from ?_); refine wpList_slice_from _ (by rfl) _ _ 28 5 rfl Tryd.underlying28 info5u _ _ _ rfl (HV.out.below HB1.out) _ (7 : Int) rfl (by decide) (by omega) ?_; intro vs2 hvs2; obtain ⟨ao2, n2, cp2, rfl⟩ := hvs2.slice4; have HS2 := hid hvs2; clear hvs2)
            | (go_at_call 95; refine (Calls.mono (HX7.out _ g _ HS2.out) ?_); rintro e w2 ⟨rfl, hb2⟩; have HB2 := hid (below_comp HB1.out hb2); clear hb2)
            | fail)
          go_ret3
          rw [HU2.out]
          exact .no HB2.out rfl
        · rw [hx] at hu2
          have hd16 := hex4R_lt hx
          rw [hex4I_some hx] at HX7
          simp only at hu2
          by_cases h5 : d < 56320 ∨ 57344 ≤ d
          · rw [if_pos h5] at hu2
            have HU2 : Hid (uniR l = .error 2) := hid hu2
            have h6 : decide ((d : Int) < 56320) = true ∨ decide ((d : Int) < 56320) = false ∧ decide (57344 ≤ (d : Int)) = true := by simp; omega
            clear hx hu2 hcr hl11 hl5 hl6 h5 hd16
            rcases h6 with h6 | ⟨h6, h7⟩
            all_goals
              go_enter Tryd.func88, Tryd.ntmps88
              go_wp2_with (first
                | ((with_reducible refine is_from ?_); refine wpList_slice_from _ (by rfl) _ _ 28 5 rfl Tryd.underlying28 info5u _ _ _ rfl HV.out _ (1 : Int) rfl (by decide) (by omega) ?_; intro vs1 hvs1; obtain ⟨ao1, n1, cp1, rfl⟩ := hvs1.slice4; have HS1 := hid hvs1; clear hvs1)
                | (go_at_call 95; refine (Calls.mono (HX1.out _ g _ HS1.out) ?_); rintro e w1 ⟨rfl, hb1⟩; have HB1 := hid hb1; have k5 := (hb1.cell (World.block_lt_of_cell? _ _ HC5.out)).trans HC5.out; have k6 := (hb1.cell (World.block_lt_of_cell? _ _ HC6.out)).trans HC6.out; clear hb1 HX1)
                | ((with_reducible refine is_from ?_); refine wpList_slice_from _ (by rfl) _ _ 28 5 rfl Tryd.underlying28 info5u _ _ _ rfl (HV.out.below HB1.out) _ (7 : Int) rfl (by decide) (by omega) ?_; intro vs2 hvs2; obtain ⟨ao2, n2, cp2, rfl⟩ := hvs2.slice4; have HS2 := hid hvs2; clear hvs2)
                | (go_at_call 95; refine (Calls.mono (HX7.out _ g _ HS2.out) ?_); rintro e w2 ⟨rfl, hb2⟩; have HB2 := hid (below_comp HB1.out hb2); clear hb2)
                | fail)
              go_ret3
              rw [HU2.out]
              exact .no HB2.out rfl
          · rw [if_neg h5] at hu2
            have HU2 := hid hu2
            have h6 : decide ((d : Int) < 56320) = false := by simp; omega
            have h7 : decide (57344 ≤ (d : Int)) = false := by simp; omega
            obtain ⟨y, hy⟩ : ∃ y, y = 65536 + (c - 55296) * 1024 + d - 56320 := ⟨_, rfl⟩
            rw [← hy] at HU2
            have HE : Hid (∀ w', Calls Tryd.prog 75 #[.int .i64 (y : Int)] w' fun e w2 => (∃ v, e = .returned v ∧ View w2 w'.heap.size v (encU y)) ∧ Below w'.heap.size w' w2) := hid fun w' => utf8enc_any y w' (by omega)
            have HA := hid (show wrap64 (wrap64 (wrap64 (65536 + wrap64 (wrap64 ((c : Int) - 55296) * 1024)) + (d : Int)) - 56320) = (y : Int) by
              rw [IntWalk.wrap64_in ((c : Int) - 55296) (by omega), IntWalk.wrap64_in (((c : Int) - 55296) * 1024) (by omega), IntWalk.wrap64_in (65536 + ((c : Int) - 55296) * 1024) (by omega), IntWalk.wrap64_in (65536 + ((c : Int) - 55296) * 1024 + (d : Int)) (by omega), IntWalk.wrap64_in _ (by omega)]
              omega)
            clear hx hu2 hcr hl11 hl5 hl6 h5 hd16 hy
            go_enter Tryd.func88, Tryd.ntmps88
            go_wp2_with (first
              | ((with_reducible refine is_from ?_); refine wpList_slice_from _ (by rfl) _ _ 28 5 rfl Tryd.underlying28 info5u _ _ _ rfl HV.out _ (1 : Int) rfl (by decide) (by omega) ?_; intro vs1 hvs1; obtain ⟨ao1, n1, cp1, rfl⟩ := hvs1.slice4; have HS1 := hid hvs1; clear hvs1)
              | (go_at_call 95; refine (Calls.mono (HX1.out _ g _ HS1.out) ?_); rintro e w1 ⟨rfl, hb1⟩; have HB1 := hid hb1; have k5 := (hb1.cell (World.block_lt_of_cell? _ _ HC5.out)).trans HC5.out; have k6 := (hb1.cell (World.block_lt_of_cell? _ _ HC6.out)).trans HC6.out; clear hb1 HX1)
              | ((with_reducible refine is_from ?_); refine wpList_slice_from _ (by rfl) _ _ 28 5 rfl Tryd.underlying28 info5u _ _ _ rfl (HV.out.below HB1.out) _ (7 : Int) rfl (by decide) (by omega) ?_; intro vs2 hvs2; obtain ⟨ao2, n2, cp2, rfl⟩ := hvs2.slice4; have HS2 := hid hvs2; clear hvs2)
              | (go_at_call 95; refine (Calls.mono (HX7.out _ g _ HS2.out) ?_); rintro e w2 ⟨rfl, hb2⟩; have HB2 := hid (below_comp HB1.out hb2); clear hb2)
              | (go_at_call 75; rw [HA.out]; refine (Calls.mono (HE.out _) ?_); rintro e w3 ⟨⟨v3, rfl, hv3⟩, hb3⟩; obtain ⟨ao3, n3, cp3, rfl⟩ := hv3.slice4; have HV3 := hid hv3; have HB3 := hid (below_comp HB2.out hb3); clear hv3 hb3)
              | fail)
            go_ret3
            rw [HU2.out]
            exact .ok HB3.out rfl HV3.out
set_option maxRecDepth 100000 in
set_option maxHeartbeats 4000000 in
theorem escapeR_any (v : Value) (l : List UInt8) (g : Nat) (w : World) (hv : View w g v l) (hm : l.length ≤ 100000000) :
    Calls Tryd.prog 79 #[v] w (EscRes (escR l) w) := by
  rcases l with _ | ⟨c, r⟩
  · obtain ⟨ao, cap, rfl⟩ := hv.slice
    go_enter Tryd.func79, Tryd.ntmps79
    go_wp2_with fail
    go_ret3
    exact .no (Below.refl _ _) rfl
  · obtain ⟨o, cap, rfl, hcell⟩ := view_some hv (by simp)
    have hck := hcell 0 (by simp)
    simp only [List.getElem_cons_zero, Nat.add_zero] at hck
    have HV := hid hv
    have hR := escR_cons c r
    have hl1 : (1 : Int) ≤ ((c :: r).length : Int) := by simp; omega
    have hl0 : (((c :: r).length : Int) == 0) = false := by simp; omega
    have HU : Hid (∀ w', w' = w → Calls Tryd.prog 88 #[.slice (some ⟨g, o, none⟩) (c :: r).length cap] w' (EscRes (uniR (c :: r)) w')) := hid fun w' e => by subst e; exact unicode4_any _ _ g _ hv (by simp) hm
    have hget : (c :: r).take 1 = [c] := rfl
    have HG := hid hget
    clear hv hcell hget hm
    generalize hL : c :: r = L at *
    by_cases h1 : c.toNat = 34 ∨ c.toNat = 92 ∨ c.toNat = 47
    · rw [if_pos h1] at hR
      have HR := hid hR
      have h2 : ((c.toNat : Int) == 34) = true ∨ ((c.toNat : Int) == 34) = false ∧ (((c.toNat : Int) == 92) = true ∨ ((c.toNat : Int) == 92) = false ∧ ((c.toNat : Int) == 47) = true) := by simp; omega
      clear h1 hR hL
      rcases h2 with q1 | ⟨q1, q2 | ⟨q2, q3⟩⟩
      all_goals
        go_enter Tryd.func79, Tryd.ntmps79
        go_wp2_with (first | ((with_reducible refine is_upto ?_); refine wpList_slice_to _ (by rfl) _ _ 28 5 rfl Tryd.underlying28 info5u _ _ _ rfl HV.out _ (1 : Int) rfl (by decide) (by omega) ?_; intro vs1 hvs1; obtain ⟨ao1, n1, cp1, rfl⟩ := hvs1.slice4; have HS1 := hid hvs1; clear hvs1) | fail)
        go_ret3
        rw [HR.out]
        exact .ok (Below.refl _ _) rfl (by rw [← HG.out]; exact HS1.out)
    · rw [if_neg h1] at hR
      have q1 : ((c.toNat : Int) == 34) = false := by simp; omega
      have q2 : ((c.toNat : Int) == 92) = false := by simp; omega
      have q3 : ((c.toNat : Int) == 47) = false := by simp; omega
      clear hL
      have key : ∀ (k : UInt8), escR L = .ok ([k], 1) → ∀ (cells : Array Value), cells.toList = byteCells [k] → EscRes (escR L) w (.returned (.tuple #[.slice (some ⟨w.heap.size, 0, none⟩) 1 1, .int .i64 1, .int .i64 1])) (w.alloc (.cells cells 5)) := by
        intro k hk cells hc
        rw [hk]
        exact .ok ((Below.refl _ _).alloc (Nat.le_refl _) _) rfl (view_new w [k] cells 5 hc (by simp [maxLen]))
      have HK := hid key
      clear key
      by_cases h2 : c.toNat = 98
      · rw [if_pos h2] at hR
        have HR := hid hR
        have q4 : ((c.toNat : Int) == 98) = true := by simp; omega
        clear h1 h2 hR
        go_enter Tryd.func79, Tryd.ntmps79
        go_wp2_with fail
        go_ret3
        exact HK.out _ HR.out _ rfl
      · rw [if_neg h2] at hR
        have q4 : ((c.toNat : Int) == 98) = false := by simp; omega
        by_cases h3 : c.toNat = 102
        · rw [if_pos h3] at hR
          have HR := hid hR
          have q5 : ((c.toNat : Int) == 102) = true := by simp; omega
          clear h1 h2 h3 hR
          go_enter Tryd.func79, Tryd.ntmps79
          go_wp2_with fail
          go_ret3
          exact HK.out _ HR.out _ rfl
        · rw [if_neg h3] at hR
          have q5 : ((c.toNat : Int) == 102) = false := by simp; omega
          by_cases h4 : c.toNat = 110
          · rw [if_pos h4] at hR
            have HR := hid hR
            have q6 : ((c.toNat : Int) == 110) = true := by simp; omega
            clear h1 h2 h3 h4 hR
            go_enter Tryd.func79, Tryd.ntmps79
            go_wp2_with fail
            go_ret3
            exact HK.out _ HR.out _ rfl
          · rw [if_neg h4] at hR
            have q6 : ((c.toNat : Int) == 110) = false := by simp; omega
            by_cases h5 : c.toNat = 114
            · rw [if_pos h5] at hR
              have HR := hid hR
              have q7 : ((c.toNat : Int) == 114) = true := by simp; omega
              clear h1 h2 h3 h4 h5 hR
              go_enter Tryd.func79, Tryd.ntmps79
              go_wp2_with fail
              go_ret3
              exact HK.out _ HR.out _ rfl
            · rw [if_neg h5] at hR
              have q7 : ((c.toNat : Int) == 114) = false := by simp; omega
              by_cases h6 : c.toNat = 116
              · rw [if_pos h6] at hR
                have HR := hid hR
                have q8 : ((c.toNat : Int) == 116) = true := by simp; omega
                clear h1 h2 h3 h4 h5 h6 hR
                go_enter Tryd.func79, Tryd.ntmps79
                go_wp2_with fail
                go_ret3
                exact HK.out _ HR.out _ rfl
              · rw [if_neg h6] at hR
                have q8 : ((c.toNat : Int) == 116) = false := by simp; omega
                by_cases h7 : c.toNat = 117
                · rw [if_pos h7] at hR
                  have HR := hid hR
                  have q9 : ((c.toNat : Int) == 117) = true := by simp; omega
                  clear h1 h2 h3 h4 h5 h6 h7 hR
                  rw [HR.out]
                  rcases hx : uniR L with k | ⟨t, n⟩
                  · rw [hx] at HU
                    clear hx
                    go_enter Tryd.func79, Tryd.ntmps79
                    go_wp2_with (first | (go_at_call 88; refine (Calls.mono (HU.out _ rfl) ?_); rintro e w1 ⟨hb1, rfl⟩; have HB1 := hid hb1; clear hb1) | fail)
                    go_ret3
                    exact .no HB1.out rfl
                  · rw [hx] at HU
                    clear hx
                    go_enter Tryd.func79, Tryd.ntmps79
                    go_wp2_with (first | (go_at_call 88; refine (Calls.mono (HU.out _ rfl) ?_); rintro e w1 ⟨hb1, v1, g1, rfl, hv1⟩; obtain ⟨ao1, n1, cp1, rfl⟩ := hv1.slice4; have HB1 := hid hb1; have HV1 := hid hv1; clear hb1 hv1) | fail)
                    go_ret3
                    exact .ok HB1.out rfl HV1.out
                · rw [if_neg h7] at hR
                  have HR := hid hR
                  have q9 : ((c.toNat : Int) == 117) = false := by simp; omega
                  clear h1 h2 h3 h4 h5 h6 h7 hR
                  go_enter Tryd.func79, Tryd.ntmps79
                  go_wp2_with fail
                  go_ret3
                  rw [HR.out]
                  exact .no (Below.refl _ _) rfl
end Go.Proofs.YtjkmmhnhhiopiaaDoor

namespace Go.Proofs.YtjkmmhnhhiopiaaDoor
open Go.ChangeShapes Go.WideShapes Go.ChangeAt Go.RowKit

theorem escR_le {l t : List UInt8} {n : Nat} (h : escR l = .ok (t, n)) : n ≤ l.length ∧ t.length ≤ 4 := by
  have := esc_same 92 l
  rw [h] at this
  have hs := escJ_size (show escJ (92 :: l) = some (t, n + 1) from this)
  simp only [List.length_cons] at hs
  omega
theorem u8size_le (c : UInt8) (r : List UInt8) : u8size (c :: r) ≤ (c :: r).length := by
  unfold u8size
  rcases hu : u8char (c :: r) with _ | ⟨v, n⟩
  · exact Nat.zero_le _
  · exact (u8char_size hu).2.1
theorem strR_fuel : ∀ (f g : Nat) (l out : List UInt8), l.length ≤ f → l.length ≤ g → strR f l out = strR g l out
  | 0, 0, _, _, _, _ => rfl
  | 0, g + 1, l, out, h, _ => by
    have : l = [] := List.eq_nil_of_length_eq_zero (by omega)
    subst this; rfl
  | f + 1, 0, l, out, _, h => by
    have : l = [] := List.eq_nil_of_length_eq_zero (by omega)
    subst this; rfl
  | f + 1, g + 1, [], out, _, _ => rfl
  | f + 1, g + 1, c :: r, out, hf, hg => by
    simp only [List.length_cons] at hf hg
    unfold strR
    split
    · rfl
    · split
      · rfl
      · split
        · rcases he : escR r with k | ⟨b, m⟩
          · rfl
          · exact strR_fuel f g _ _ (by simp; omega) (by simp; omega)
        · split
          · rfl
          · rename_i h0
            exact strR_fuel f g _ _ (by simp; omega) (by simp; omega)
def strRA (l out : List UInt8) : Except Nat (List UInt8 × Nat) := strR l.length l out
theorem strRA_cons (c : UInt8) (r out : List UInt8) : strRA (c :: r) out = if c.toNat = 34 then .ok (out, r.length) else if c.toNat < 32 then .error 0
    else if c.toNat = 92 then (match escR r with
      | .error k => .error k
      | .ok (b, n) => strRA (r.drop n) (out ++ b))
    else if u8size (c :: r) = 0 then .error 0 else strRA ((c :: r).drop (u8size (c :: r))) (out ++ (c :: r).take (u8size (c :: r))) := by
  unfold strRA
  rw [List.length_cons, strR]
  by_cases h1 : c.toNat = 34
  · rw [if_pos h1, if_pos h1]
  · rw [if_neg h1, if_neg h1]
    by_cases h2 : c.toNat < 32
    · rw [if_pos h2, if_pos h2]
    · rw [if_neg h2, if_neg h2]
      by_cases h3 : c.toNat = 92
      · rw [if_pos h3, if_pos h3]
        rcases he : escR r with k | ⟨b, n⟩
        · rfl
        · exact strR_fuel _ _ _ _ (by simp) (Nat.le_refl _)
      · rw [if_neg h3, if_neg h3]
        by_cases h4 : u8size (c :: r) = 0
        · rw [if_pos h4, if_pos h4]
        · rw [if_neg h4, if_neg h4]
          exact strR_fuel _ _ _ _ (by simp; omega) (Nat.le_refl _)
theorem OwnB.below {w w' : World} {B : Nat} {e : TypeId} {v : Value} {bs : List UInt8} (h : OwnB w B e v bs) (hb : Below w.heap.size w w') : OwnB w' B e v bs :=
  World.ownsRow.kept h (row := none) ⟨hb.os, hb.tape, hb.output, hb.size, fun k hk _ => hb.block k hk⟩ (by cases v.ownBlock <;> simp)
/-- what 'jstring' returns -/
def StrResR (x : Except Nat (List UInt8 × Nat)) (w : World) (e : Ending) (w' : World) : Prop := Below w.heap.size w w' ∧ match x with
  | .ok (t, n) => e = .returned (.tuple #[.string ⟨t.toArray⟩, .int .i64 (n : Int), .int .i64 1])
  | .error k => e = .returned (.tuple #[.string ⟨#[]⟩, .int .i64 0, .int .i64 (k : Int)])
theorem StrResR.ok {t : List UInt8} {n : Nat} {w w' : World} {e : Ending} (hb : Below w.heap.size w w') (he : e = .returned (.tuple #[.string ⟨t.toArray⟩, .int .i64 (n : Int), .int .i64 1])) : StrResR (.ok (t, n)) w e w' := ⟨hb, he⟩
theorem StrResR.no {k : Nat} {w w' : World} {e : Ending} (hb : Below w.heap.size w w') (he : e = .returned (.tuple #[.string ⟨#[]⟩, .int .i64 0, .int .i64 (k : Int)])) : StrResR (.error k) w e w' := ⟨hb, he⟩
/-- the rest of the reading: what 'jstring' is to return -/
def restR (l : List UInt8) (k : Nat) (t : List UInt8) : Except Nat (List UInt8 × Nat) := match strRA (l.drop k) t with
  | .error j => .error j
  | .ok (s, m) => .ok (s, l.length - m)
theorem rest_start (l : List UInt8) : jstrR l = restR l 1 [] := by
  cases l with
  | nil => rfl
  | cons c r =>
    unfold jstrR restR strRA
    simp only [List.drop_succ_cons, List.drop_zero, List.length_cons]
    rfl
def SInv (l : List UInt8) (w : World) (out at_ : Value) (wr : World) : Prop :=
  ∃ (k : Nat) (t : List UInt8), 1 ≤ k ∧ (k ≤ l.length ∨ k = 1) ∧ at_ = .int .i64 (k : Int) ∧ OwnB wr w.heap.size 5 out t ∧ t.length ≤ 4 * k ∧ jstrR l = restR l k t ∧ Below w.heap.size w wr
set_option maxRecDepth 100000 in
set_option maxHeartbeats 4000000 in
theorem jstring_any (v : Value) (l : List UInt8) (g : Nat) (w : World) (hv : View w g v l) (hm : l.length ≤ 1000000) :
    Calls Tryd.prog 63 #[v] w (StrResR (jstrR l) w) := by
  have HV := hid hv
  obtain ⟨ao, cap, rfl, hcell⟩ := view_open hv
  have HC := hid hcell
  clear hv hcell
  go_enter Tryd.func63, Tryd.ntmps63
  go_wp2_with fail
  go_loopw [5, 6] (fun out at_ wr => SInv l w out at_ wr) (fun _ at_ _ => l.length - (intOf at_).toNat)
  case atStart => exact ⟨1, [], Nat.le_refl _, .inr rfl, rfl, OwnB.nil _ _ _, by simp, rest_start l, Below.refl _ _⟩
  case round =>
    obtain ⟨k, t, hk1, hkl, rfl, hown, htl, hj, hbr⟩ := hrel
    have HJ := hid hj
    have HB := hid hbr
    have HO := hid hown
    clear hj hbr
    by_cases hlt : k < l.length
    · have hdr := List.drop_eq_getElem_cons hlt
      obtain ⟨o, rfl, hck⟩ := HC.out k hlt
      have hck2 := (HB.out.cell (World.block_lt_of_cell? _ _ hck)).trans hck
      have hL := strRA_cons l[k] (l.drop (k + 1)) t
      rw [← hdr] at hL
      obtain ⟨c, hc⟩ : ∃ c, c = l[k] := ⟨_, rfl⟩
      rw [← hc] at hL hck2 hdr
      have HD := hid hdr
      clear hck hc hdr
      have hk0 : (0 : Int) ≤ (k : Int) + 1 := by omega
      by_cases h1 : c.toNat = 34
      · have hR : jstrR l = .ok (t, k + 1) := by
          rw [HJ.out]; unfold restR; rw [hL, if_pos h1]; simp only [List.length_drop]; congr 2; omega
        have HR := hid hR
        have q1 : ((c.toNat : Int) == 34) = true := by simp; omega
        clear hL hR h1 hown
        go_wp2_with (first
          | (refine wpList_string_own _ rfl _ 28 9 rfl w.heap.size 5 Tryd.underlying28 Tryd.underlying5 Tryd.underlying9 _ t rfl HO.out ?_)
          | fail)
        go_ret3
        rw [HR.out]
        exact .ok HB.out rfl
      · rw [if_neg h1] at hL
        have q1 : ((c.toNat : Int) == 34) = false := by simp; omega
        by_cases h2 : c.toNat < 32
        · have hR : jstrR l = .error 0 := by
            rw [HJ.out]; unfold restR; rw [hL, if_pos h2]
          have HR := hid hR
          have q2 : (c.toNat : Int) < 32 := by omega
          clear hL hR h1 h2 hown
          go_wp2_with fail
          go_ret3
          rw [HR.out]
          exact .no HB.out rfl
        · rw [if_neg h2] at hL
          have q2 : ¬ ((c.toNat : Int) < 32) := by omega
          by_cases h3 : c.toNat = 92
          · rw [if_pos h3] at hL
            have q3 : ((c.toNat : Int) == 92) = true := by simp; omega
            have HE : Hid (∀ (v' : Value) (w' : World), View w' g v' (l.drop (k + 1)) → Calls Tryd.prog 79 #[v'] w' (EscRes (escR (l.drop (k + 1))) w')) := hid fun v' w' h => escapeR_any v' _ g w' h (by simp; omega)
            have hk2 : ((k : Int) + 1) ≤ (l.length : Int) := by omega
            have HVr := hid (HV.out.below HB.out)
            have hsame := esc_same 92 (l.drop (k + 1))
            rcases he : escR (l.drop (k + 1)) with j | ⟨b, n⟩
            · rw [he] at hL HE hsame
              have hj2 : j = 2 ∨ j = 0 := by
                rcases hsame with h | h
                · exact .inl h
                · exact .inr h.1
              have hR : jstrR l = .error j := by rw [HJ.out]; unfold restR; rw [hL]
              have HR := hid hR
              clear hL hR h1 h2 h3 hown hsame he
              rcases hj2 with rfl | rfl
              all_goals
                go_wp2_with (first
                  | ((with_reducible refine is_from ?_); refine wpList_slice_from _ (by rfl) _ _ 28 5 rfl Tryd.underlying28 info5u _ _ _ rfl HVr.out _ ((k : Int) + 1) rfl (by omega) (by omega) ?_; intro vs1 hvs1; rw [show ((k : Int) + 1).toNat = k + 1 by omega] at hvs1; obtain ⟨ao1, n1, cp1, rfl⟩ := hvs1.slice4; have HS1 := hid hvs1; clear hvs1)
                  | (go_at_call 79; refine (Calls.mono (HE.out _ _ HS1.out) ?_); rintro e w1 ⟨hb1, rfl⟩; have HB1 := hid (HB.out.trans (hb1.mono HB.out.size)); clear hb1)
                  | fail)
                go_ret3
                rw [HR.out]
                exact .no HB1.out rfl
            · rw [he] at hL HE
              have hn := escR_le he
              have hn1 : k + 1 + n ≤ l.length := by have := hn.1; simp at this; omega
              have hR : jstrR l = restR l (k + (1 + n)) (t ++ b) := by rw [HJ.out]; unfold restR; rw [hL]; simp only; rw [List.drop_drop, show k + 1 + n = k + (1 + n) by omega]
              have HR := hid hR
              have hbl := hn.2
              clear hL hR h1 h2 h3 hsame he hn hown
              go_wp2_with (first
                | ((with_reducible refine is_from ?_); refine wpList_slice_from _ (by rfl) _ _ 28 5 rfl Tryd.underlying28 info5u _ _ _ rfl HVr.out _ ((k : Int) + 1) rfl (by omega) (by omega) ?_; intro vs1 hvs1; rw [show ((k : Int) + 1).toNat = k + 1 by omega] at hvs1; obtain ⟨ao1, n1, cp1, rfl⟩ := hvs1.slice4; have HS1 := hid hvs1; clear hvs1)
                | (go_at_call 79; refine (Calls.mono (HE.out _ _ HS1.out) ?_); rintro e w1 ⟨hb1, v1, g1, rfl, hv1⟩; obtain ⟨ao3, n3, cp3, rfl⟩ := hv1.slice4; have HV1 := hid hv1; have HB1 := hid (HB.out.trans (hb1.mono HB.out.size)); have HO1 := hid (HO.out.below hb1); clear hb1 hv1)
                | (refine wpList_append_view _ rfl _ _ 28 rfl w.heap.size 5 Tryd.underlying28 info5u _ t rfl HO1.out HB1.out (Nat.le_refl _) g1 _ b rfl HV1.out (by omega) ?_; intro v2 w2 ho2 hb2 _; have HO2 := hid ho2; have HB2 := hid hb2; clear ho2 hb2)
                | fail)
              go_roundw
              case rel => exact ⟨k + (1 + n), t ++ b, by omega, .inl (by omega), by go_num, HO2.out, by simp; omega, HR.out, HB2.out⟩
              case measure => simp [intOf]; omega
          · rw [if_neg h3] at hL
            have q3 : ((c.toNat : Int) == 92) = false := by simp; omega
            have HVr := hid (HV.out.below HB.out)
            have hu := size2_eq (c :: l.drop (k + 1))
            have hul := u8size_le c (l.drop (k + 1))
            rw [← HD.out] at hu hul
            have HU : Hid (∀ (v' : Value) (w' : World), View w' g v' (l.drop k) → Calls Tryd.prog 58 #[v'] w' fun e w2 => e = .returned (.int .i64 (u8size (l.drop k) : Int)) ∧ Below w'.heap.size w' w2) := hid fun v' w' h => by
              rw [hu]
              rw [HD.out] at h ⊢
              exact utf8Size_any v' c _ g w' h (by have := congrArg List.length HD.out; simp at this ⊢; omega)
            have hkl2 : (k : Int) ≤ (l.length : Int) := by omega
            have hk00 : (0 : Int) ≤ (k : Int) := by omega
            simp only [List.length_drop] at hul
            generalize u8size (l.drop k) = n at *
            by_cases h4 : n = 0
            · rw [if_pos h4] at hL
              have hR : jstrR l = .error 0 := by rw [HJ.out]; unfold restR; rw [hL]
              have HR := hid hR
              clear hL hR h1 h2 h3 hu hown
              subst h4
              go_wp2_with (first
                | ((with_reducible refine is_from ?_); refine wpList_slice_from _ (by rfl) _ _ 28 5 rfl Tryd.underlying28 info5u _ _ _ rfl HVr.out _ ((k : Int)) rfl (by omega) (by omega) ?_; intro vs1 hvs1; rw [show ((k : Int)).toNat = k by omega] at hvs1; obtain ⟨ao1, n1, cp1, rfl⟩ := hvs1.slice4; have HS1 := hid hvs1; clear hvs1)
                | (go_at_call 58; refine (Calls.mono (HU.out _ _ HS1.out) ?_); rintro e w1 ⟨rfl, hb1⟩; have HB1 := hid (HB.out.trans (hb1.mono HB.out.size)); clear hb1)
                | fail)
              go_ret3
              rw [HR.out]
              exact .no HB1.out rfl
            · rw [if_neg h4] at hL
              have hR : jstrR l = restR l (k + n) (t ++ (l.drop k).take n) := by rw [HJ.out]; unfold restR; rw [hL, List.drop_drop]
              have HR := hid hR
              have h4b : ((n : Int) == 0) = false := by simp; omega
              have hkn : (k : Int) + (n : Int) ≤ (l.length : Int) := by omega
              have hkk : (k : Int) ≤ (k : Int) + (n : Int) := by omega
              have htk : ((l.drop k).take n).length ≤ n := by simp; omega
              clear hL hR h1 h2 h3 hu hown
              go_wp2_with (first
                | ((with_reducible refine is_from ?_); refine wpList_slice_from _ (by rfl) _ _ 28 5 rfl Tryd.underlying28 info5u _ _ _ rfl HVr.out _ ((k : Int)) rfl (by omega) (by omega) ?_; intro vs1 hvs1; rw [show ((k : Int)).toNat = k by omega] at hvs1; obtain ⟨ao1, n1, cp1, rfl⟩ := hvs1.slice4; have HS1 := hid hvs1; clear hvs1)
                | (go_at_call 58; refine (Calls.mono (HU.out _ _ HS1.out) ?_); rintro e w1 ⟨rfl, hb1⟩; have HB1 := hid (HB.out.trans (hb1.mono HB.out.size)); have HO1 := hid (HO.out.below hb1); have HV1 := hid (HVr.out.below hb1); clear hb1)
                | ((with_reducible refine is_both ?_); refine wpList_slice_view _ (by rfl) _ _ _ 28 5 rfl Tryd.underlying28 info5u _ _ _ rfl HV1.out _ _ (k : Int) ((k : Int) + (n : Int)) rfl rfl (by omega) (by omega) (by omega) ?_; intro vs2 hvs2; rw [show ((k : Int) + (n : Int)).toNat - (k : Int).toNat = n by omega, Int.toNat_natCast] at hvs2; obtain ⟨ao2, n2, cp2, rfl⟩ := hvs2.slice4; have HS2 := hid hvs2; clear hvs2)
                | (refine wpList_append_view _ rfl _ _ 28 rfl w.heap.size 5 Tryd.underlying28 info5u _ t rfl HO1.out HB1.out (Nat.le_refl _) g _ ((l.drop k).take n) rfl HS2.out (by omega) ?_; intro v2 w2 ho2 hb2 _; have HO2 := hid ho2; have HB2 := hid hb2; clear ho2 hb2)
                | fail)
              go_roundw
              case rel => exact ⟨k + n, t ++ (l.drop k).take n, by omega, .inl (by omega), by go_num, HO2.out, by simp only [List.length_append]; omega, HR.out, HB2.out⟩
              case measure => simp [intOf]; omega
    · have hR : jstrR l = .error 0 := by
        rw [HJ.out]; unfold restR; rw [List.drop_eq_nil_of_le (by omega)]; try rfl
      have HR := hid hR
      have hdk : decide ((k : Int) < (l.length : Int)) = false := by simp; omega
      clear hR hown
      go_wp2_with fail
      go_ret3
      rw [HR.out]
      exact .no HB.out rfl
end Go.Proofs.YtjkmmhnhhiopiaaDoor

namespace Go.Proofs.YtjkmmhnhhiopiaaDoor
open Go.ChangeShapes Go.WideShapes Go.ChangeAt Go.RowKit

theorem prefixR_take : ∀ (t l : List UInt8), t.isPrefixOf l = true ↔ l.take t.length = t
  | [], l => by simp
  | a :: t, [] => by simp
  | a :: t, b :: l => by
    rw [List.isPrefixOf_cons_cons, List.length_cons, List.take_succ_cons, Bool.and_eq_true, beq_iff_eq, prefixR_take t l, List.cons.injEq]
    exact ⟨fun h => ⟨h.1.symm, h.2⟩, fun h => ⟨h.1.symm, h.2⟩⟩
theorem wordD_short {t l : List UInt8} (h : l.length < t.length) : wordD t l = false := by
  cases hw : wordD t l with
  | false => rfl
  | true => have := wordD_len hw; omega
theorem wordD_other {t l : List UInt8} (h : l.take t.length ≠ t) : wordD t l = false := by
  unfold wordD
  cases hp : t.isPrefixOf l with
  | false => rfl
  | true => exact absurd ((prefixR_take t l).1 hp) h
theorem wordR_end {t l : List UInt8} (h : l.take t.length = t) (he : l.drop t.length = []) : wordD t l = true := by
  unfold wordD
  rw [(prefixR_take t l).2 h, he]; try rfl
theorem wordD_next {t l : List UInt8} {c : UInt8} {r : List UInt8} (h : l.take t.length = t) (he : l.drop t.length = c :: r) : wordD t l = !notDel c := by
  unfold wordD
  rw [(prefixR_take t l).2 h, he]; try rfl
theorem view_at_string {P : Program} {w : World} {g : Nat} {v : Value} {bs : List UInt8} (hv : View w g v bs) (src dst e : TypeId) (hs : P.underlying src = some (.slice e)) (he : P.underlying e = some (.int .u8)) (hd : P.underlying dst = some .string) :
    ∀ m, (convert src dst v).run P (w.drewN m) = .ok (.string ⟨bs.toArray⟩) (w.drewN m) := fun m => view_string (w := w.drewN m) (hv.below ⟨rfl, rfl, rfl, Nat.le_refl _, fun _ _ => rfl⟩) src dst e hs he hd
variable {B p g : Nat} {bs : List UInt8} {vb vo vl : Value}
theorem RDid.of {v : Value} {r' : RS} {w w' : World} {e : Ending} (h : e = .returned v) {vo' vl' : Value} (h2 : RW B p g bs vb vo' vl' r' w') (h3 : JStep p vo vl w vo' vl' w') : RDid B p g bs vb vo vl r' v w e w' := ⟨h, vo', vl', h2, h3⟩
set_option maxRecDepth 100000 in
set_option maxHeartbeats 4000000 in
theorem rword_any (text : List UInt8) (kind : Nat) (tru : Bool) (r : RS) (w : World) (h : RW B p g bs vb vo vl r w) (hm : bs.length ≤ 100000000) (hll : r.l.length ≤ 900000) (ht : text.length ≤ 10) :
    Calls Tryd.prog 64 #[.pointer (some ⟨p, 0, none⟩), .string ⟨text.toArray⟩, .agg #[.int .i64 kind, .int .i64 0, .string ⟨#[]⟩, .string ⟨#[]⟩, .bool tru]] w
      (RDid B p g bs vb vo vl (wordR bs text kind tru r).1 (.bool (wordR bs text kind tru r).2) w) := by
  have hltp := h.lt
  have HH := hid h
  obtain ⟨c0, c1, -⟩ := h.c
  obtain ⟨ao, cp, hvb, hcell⟩ := view_open h.inn
  have HV := hid h.inn
  subst hvb
  have HC := hid hcell
  have hle := h.le
  obtain ⟨k, hk⟩ : ∃ k, k = r.at_ := ⟨_, rfl⟩
  rw [← hk] at c1 hle
  obtain ⟨n, hn⟩ : ∃ n, n = text.length := ⟨_, rfl⟩
  have hsz : (⟨text.toArray⟩ : ByteArray).size = n := by rw [hn]; exact size_mk text
  have HW : Hid (wordR bs text kind tru r = if wordD text (bs.drop k) then (behR (addR bs kind [] tru n r), true) else (r, false)) := hid (by unfold wordR; rw [hk, hn])
  have HK := hid hk
  have HN := hid hn
  rw [← hn] at ht
  clear h hcell hk hn
  by_cases h1 : bs.length - k < n
  · have HF : Hid (wordR bs text kind tru r = (r, false)) := hid (by rw [HW.out, wordD_short (by simp; rw [← HN.out]; exact h1)]; try rfl)
    have hd1 : decide ((bs.length : Int) - (k : Int) < (n : Int)) = true := by simp; omega
    have hwr : IntKind.i64.wrap ((bs.length : Int) - (k : Int)) = (bs.length : Int) - (k : Int) := IntWalk.i64_in _ (by omega)
    clear h1
    go_enter Tryd.func64, Tryd.ntmps64
    go_wp2_with fail
    go_quiet (fail)
    go_wp2_with fail
    go_ret
    rw [HF.out]
    exact .of rfl ((HH.out.alloc _).drewN _) ((JStep.of_below ((Below.refl _ _).alloc (Nat.le_refl _) _)).trans (JStep.of_below ⟨rfl, rfl, rfl, Nat.le_refl _, fun _ _ => rfl⟩))
  · have hkn : k + n ≤ bs.length ∨ bs.length < k + n := by omega
    have hkn : k + n ≤ bs.length := by omega
    have hd1 : decide ((bs.length : Int) - (k : Int) < (n : Int)) = false := by simp; omega
    have hwr : IntKind.i64.wrap ((bs.length : Int) - (k : Int)) = (bs.length : Int) - (k : Int) := IntWalk.i64_in _ (by omega)
    have hwr2 : IntKind.i64.wrap ((k : Int) + (n : Int)) = (k : Int) + (n : Int) := IntWalk.i64_in _ (by omega)
    obtain ⟨v', hsl, hv'⟩ := view_both (P := Tryd.prog) HV.out 28 5 Tryd.underlying28 info5u .i64 .i64 (k : Int) ((k : Int) + (n : Int)) k (k + n) rfl (by omega) (by omega) hkn
    rw [Nat.add_sub_cancel_left] at hv'
    have hb0 : Below w.heap.size w (w.alloc (.cells #[.int .i64 kind, .int .i64 0, .string ⟨#[]⟩, .string ⟨#[]⟩, .bool tru] 41)) := (Below.refl _ _).alloc (Nat.le_refl _) _
    have hcv := view_at_string (P := Tryd.prog) (hv'.below hb0) 28 9 5 Tryd.underlying28 Tryd.underlying5 Tryd.underlying9
    have HT := hid (show (bs.drop k).take n = (bs.drop k).take text.length by rw [HN.out])
    clear hv' hb0
    obtain ⟨T, hT⟩ : ∃ T, T = (bs.drop k).take n := ⟨_, rfl⟩
    rw [← hT] at hcv HT
    by_cases h2 : T = text
    · have HP : Hid ((bs.drop k).take text.length = text) := hid (by rw [← HT.out]; exact h2)
      subst h2
      clear h1 hT
      have hdr : (bs.drop k).drop T.length = bs.drop (k + n) := by rw [List.drop_drop, HN.out]
      by_cases h3 : k + n < bs.length
      · have hd3 : decide ((k : Int) + (n : Int) < (bs.length : Int)) = true := by simp; omega
        obtain ⟨o, rfl, hck⟩ := HC.out (k + n) h3
        have hdr2 := List.drop_eq_getElem_cons h3
        rw [← hdr] at hdr2
        have hw := wordD_next HP.out hdr2
        have hgl := World.block_lt_of_cell? _ _ hck
        simp only at hgl
        generalize bs[k + n] = c at *
        have HWB := hid (wordByte_any c)
        have htn : ((k : Int) + (n : Int)).toNat = k + n := by omega
        have hlo : (0 : Int) ≤ (k : Int) + (n : Int) := by omega
        clear hdr hdr2
        cases hnd : notDel c with
        | true =>
          have HF : Hid (wordR bs T kind tru r = (r, false)) := hid (by rw [HW.out, hw, hnd]; try rfl)
          rw [hnd] at HWB
          clear hw hnd
          go_enter Tryd.func64, Tryd.ntmps64
          go_wp2_with fail
          go_quiet ((go_at_call 66; exact Calls.quiet_of_same ((HWB.out _).mono fun _ _ h => ⟨h.1, h.2.symm⟩)))
          go_wp2_with fail
          go_ret
          rw [HF.out]
          exact .of rfl ((HH.out.alloc _).drewN _) ((JStep.of_below ((Below.refl _ _).alloc (Nat.le_refl _) _)).trans (JStep.of_below ⟨rfl, rfl, rfl, Nat.le_refl _, fun _ _ => rfl⟩))
        | false =>
          have HF : Hid (wordR bs T kind tru r = (behR (addR bs kind [] tru n r), true)) := hid (by rw [HW.out, hw, hnd]; try rfl)
          rw [hnd] at HWB
          clear hw hnd
          go_enter Tryd.func64, Tryd.ntmps64
          go_wp2_with fail
          go_quiet ((go_at_call 66; exact Calls.quiet_of_same ((HWB.out _).mono fun _ _ h => ⟨h.1, h.2.symm⟩)))
          go_wp2_with fail
          have hbw : Below w.heap.size w ((w.alloc (.cells #[.int .i64 kind, .int .i64 0, .string ⟨#[]⟩, .string ⟨#[]⟩, .bool tru] 41)).drewN nq) := ((Below.refl _ _).alloc (Nat.le_refl _) _).trans ⟨rfl, rfl, rfl, Nat.le_refl _, fun _ _ => rfl⟩
          refine (radd_any kind n [] tru r _ (HH.out.below hbw) hm (by rw [← HK.out]; exact hkn) hll).mono ?_
          rintro e w3 ⟨rfl, vo3, vl3, hr3, hj3⟩
          have HR3 := hid hr3
          have HJ3 := hid ((JStep.of_below hbw).trans hj3)
          clear hr3 hj3 hbw
          go_wp2_with (first | (go_at_call 61; refine (rbehind_any _ _ HR3.out).mono ?_; rintro e w4 ⟨rfl, vo4, vl4, hr4, hj4⟩; have HR4 := hid hr4; have HJ4 := hid (HJ3.out.trans hj4); clear hr4 hj4) | fail)
          go_ret
          rw [HF.out]
          exact .of rfl HR4.out HJ4.out
      · have hw := wordR_end HP.out (by rw [hdr]; exact List.drop_eq_nil_of_le (by omega))
        have HF : Hid (wordR bs T kind tru r = (behR (addR bs kind [] tru n r), true)) := hid (by rw [HW.out, hw]; try rfl)
        have hd3 : decide ((k : Int) + (n : Int) < (bs.length : Int)) = false := by simp; omega
        clear hdr hw
        go_enter Tryd.func64, Tryd.ntmps64
        go_wp2_with fail
        go_quiet (fail)
        go_wp2_with fail
        have hbw : Below w.heap.size w ((w.alloc (.cells #[.int .i64 kind, .int .i64 0, .string ⟨#[]⟩, .string ⟨#[]⟩, .bool tru] 41)).drewN nq) := ((Below.refl _ _).alloc (Nat.le_refl _) _).trans ⟨rfl, rfl, rfl, Nat.le_refl _, fun _ _ => rfl⟩
        refine (radd_any kind n [] tru r _ (HH.out.below hbw) hm (by rw [← HK.out]; exact hkn) hll).mono ?_
        rintro e w3 ⟨rfl, vo3, vl3, hr3, hj3⟩
        have HR3 := hid hr3
        have HJ3 := hid ((JStep.of_below hbw).trans hj3)
        clear hr3 hj3 hbw
        go_wp2_with (first | (go_at_call 61; refine (rbehind_any _ _ HR3.out).mono ?_; rintro e w4 ⟨rfl, vo4, vl4, hr4, hj4⟩; have HR4 := hid hr4; have HJ4 := hid (HJ3.out.trans hj4); clear hr4 hj4) | fail)
        go_ret
        rw [HF.out]
        exact .of rfl HR4.out HJ4.out
    · have HF : Hid (wordR bs text kind tru r = (r, false)) := hid (by rw [HW.out, wordD_other (by rw [← HT.out]; exact h2)]; try rfl)
      have hne : (T == text) = false := by simpa using h2
      clear h1 h2 hT
      go_enter Tryd.func64, Tryd.ntmps64
      go_wp2_with fail
      go_quiet (fail)
      go_wp2_with fail
      go_ret
      rw [HF.out]
      exact .of rfl ((HH.out.alloc _).drewN _) ((JStep.of_below ((Below.refl _ _).alloc (Nat.le_refl _) _)).trans (JStep.of_below ⟨rfl, rfl, rfl, Nat.le_refl _, fun _ _ => rfl⟩))
end Go.Proofs.YtjkmmhnhhiopiaaDoor

namespace Go.Proofs.YtjkmmhnhhiopiaaDoor
open Go.ChangeShapes Go.WideShapes Go.ChangeAt Go.RowKit
attribute [local go_sem ↓] Go.wp_at_zero Go.wp_at_succ

section
variable {P : Program} {ops : Array Oper} {rest : List Oper} {o : Oper} {a : Act} {Q : Exit → Act → World → Prop} {K : Act → World → Prop} {E : Prop}
theorem step_append_one (w : World) (hgd : o.guard = none) (s x : Operand) (t : TypeId)
    (ho : o.op = .call { callee := .builtin .append, args := #[s, x], argTypes := #[t, t] })
    (B : Nat) (e : TypeId) (ht : P.underlying t = some (.slice e)) (hinfo : (P.info? e).map (fun i => (i.zero, i.size, i.bytes)) = some (some (.int .u8 0), 1, 1))
    (v : Value) (bs : List UInt8) (hs : a.eval s = v) (hown : OwnB w B e v bs) (ad : Addr) (c : Nat) (y : UInt8) (hx : a.eval x = .slice (some ad) 1 c) (hc : w.cell? ad = some (.int .u8 (y.toNat : Int))) (hbase : B ≤ w.heap.size)
    (hlen : bs.length + 1 ≤ 140737488355328)
    (h : ∀ v' w', Appd w B e v v' (bs ++ [y]) w' → K (a.put o.dst v') w') : if Region.wanted o (yielded ops a.tmps) = true then o.wp P a w K Q else E := by
  obtain ⟨i, hi, hz, hz1, hz2⟩ := info_parts hinfo
  refine step_append_lies w hgd s x t ho B e i (.int .u8 0) 1 1 ht hi hz hz1 hz2 rfl (by decide) v bs.length (byteCells bs) hs hown ad 1 c [.int .u8 (y.toNat : Int)] hx rfl ?_ (by intro u hu; simp at hu; subst hu; rfl) (by omega) (by unfold maxLen; omega) (by omega) hbase w.heap.size rfl ?_
  · intro j u hj
    match j, hj with
    | 0, hj => simp at hj; subst hj; simpa [Addr.add] using hc
  · intro g cap w' hown' hgrow hat hlt
    refine h _ w' ⟨?_, hgrow, ?_⟩
    · have e1 : byteCells bs ++ [Value.int .u8 (y.toNat : Int)] = byteCells (bs ++ [y]) := by rw [byteCells_append]; try rfl
      rw [e1] at hown'
      unfold OwnB
      simpa using hown'
    · rcases hat with h | h
      · exact .inl h.symm
      · exact .inr (by simp [Value.ownBlock, h])
end
theorem opB_snoc (o : List Nat) (c : UInt8) : opB (o ++ [c.toNat]) = opB o ++ [c] := by simp [opB]
variable {B p g : Nat} {bs : List UInt8} {vb vo vl : Value}
def Mid (B p g : Nat) (bs : List UInt8) (vb vo vl : Value) (r' : RS) (w w' : World) : Prop := ∃ vo' vl', RW B p g bs vb vo' vl' r' w' ∧ JStep p vo vl w vo' vl' w'
set_option maxRecDepth 100000 in
set_option maxHeartbeats 4000000 in
theorem ropens_any (kind want : Nat) (r : RS) (w : World) (h : RW B p g bs vb vo vl r w) (hm : bs.length ≤ 100000000) (hll : r.l.length ≤ 900000) (hol : r.opn.length ≤ 100000000) (hlt : r.at_ < bs.length) :
    Calls Tryd.prog 62 #[.pointer (some ⟨p, 0, none⟩), .int .i64 (kind : Int), .int .i64 (want : Int)] w
      (RDid B p g bs vb vo vl (opensR bs kind want r).1 (.bool true) w) := by
  have hltp := h.lt
  have HH := hid h
  obtain ⟨c0, c1, c2, -⟩ := h.c
  have f2 := h.f 2 (by decide)
  obtain ⟨ao, cp, rfl, hcell⟩ := view_open h.inn
  obtain ⟨o, rfl, hck⟩ := hcell r.at_ hlt
  have hop := opB_len r.opn
  have HP := hid (pkR_at hlt)
  have HPC : Hid (opensR bs kind want r = ({ addR bs kind [] false 1 { r with opn := r.opn ++ [pkR bs r.at_] } with want := want }, true)) := hid rfl
  obtain ⟨k, hk⟩ : ∃ k, k = r.at_ := ⟨_, rfl⟩
  generalize bs[r.at_] = c at *
  rw [← hk] at c1 hck
  have HK := hid hk
  have hlt2 : (k : Int) < (bs.length : Int) := by omega
  have hgl := World.block_lt_of_cell? _ _ hck
  simp only at hgl
  have hj := h
  clear h hcell hk
  go_enter Tryd.func62, Tryd.ntmps62
  go_upto_region 1 with fail
  go_cut [] (fun wx => Mid B p g bs (.slice (some ⟨g, o, none⟩) bs.length cp) vo vl { r with opn := r.opn ++ [c.toNat] } w wx)
  case first =>
    go_region_law
      (first
       | (refine step_append_one _ (by rfl) _ _ _ (by rfl) B 5 Tryd.underlying28 info5u vo (opB r.opn) (by rfl) (hj.drew.alloc _).opn ⟨w.heap.size, 0, none⟩ 1 c (by rfl) (by simp [go_sem]) (hj.drew.alloc _).base (by omega) ?_; intro v4 w4 ha4; obtain ⟨hc4, hf4⟩ := (hj.drew.alloc _).appd ha4; have HA := hid ((hj.drew.alloc _).push (o' := r.opn ++ [c.toNat]) ha4.grown (by rw [opB_snoc]; exact ha4.own) ha4.lies); have HJ := hid ((JStep.refl p vo vl w).drew.alloc (.cells #[.int .u8 (c.toNat : Int)] 5)); obtain ⟨ao4, cc4, rfl⟩ := ha4.own.slice; clear ha4)
       | (refine step_append_one _ (by rfl) _ _ _ (by rfl) B 5 Tryd.underlying28 info5u vo (opB r.opn) (by rfl) (hj.alloc _).drew.opn ⟨w.heap.size, 0, none⟩ 1 c (by rfl) (by simp [go_sem]) (hj.alloc _).drew.base (by omega) ?_; intro v4 w4 ha4; obtain ⟨hc4, hf4⟩ := (hj.alloc _).drew.appd ha4; have HA := hid ((hj.alloc _).drew.push (o' := r.opn ++ [c.toNat]) ha4.grown (by rw [opB_snoc]; exact ha4.own) ha4.lies); have HJ := hid (((JStep.refl p vo vl w).alloc (.cells #[.int .u8 (c.toNat : Int)] 5)).drew); obtain ⟨ao4, cc4, rfl⟩ := ha4.own.slice; clear ha4)
       )
    all_goals
      have HA2 := HA.out
      simp only [List.length_append, List.length_cons, List.length_nil, Nat.zero_add, hop] at HA2
      go_wp2_with fail
      go_meet
      exact ⟨_, _, HA2.1, HJ.out.trans HA2.2⟩
  case rest =>
    obtain ⟨vo1, vl1, hr1, hj1⟩ := hcut
    have HR1 := hid hr1
    have HJ1 := hid hj1
    have hwc := hj1.size
    clear hr1 hj1 hj
    go_wp2_with (first
      | (go_at_call 60; refine (radd_any kind 1 [] false _ _ HR1.out hm (by rw [← HK.out] at *; omega) hll).mono ?_; rintro e w3 ⟨rfl, vo3, vl3, hr3, hj3⟩; have HR3 := hid hr3; have HJ3 := hid (HJ1.out.trans hj3); have c3 := hr3.c.2.2.2.1; have f3 := hr3.f 3 (by decide); clear hr3 hj3)
      | fail)
    go_ret
    refine .of rfl (vo' := vo3) (vl' := vl3) ?_ (HJ3.out.trans (JStep.picked (grownBy_set w3 p 3 (.int .i64 (want : Int)))))
    rw [HPC.out, HP.out]
    exact HR3.out.setWant want
theorem opB_last {o : List Nat} {m y : Nat} (hm : o.length = m + 1) (hy : o.getLast? = some y) : (opB o)[m]? = some (UInt8.ofNat y) := by
  unfold opB
  rw [List.getLast?_eq_getElem?, hm, Nat.add_sub_cancel] at hy
  rw [List.getElem?_map, hy]; try rfl
set_option maxRecDepth 100000 in
set_option maxHeartbeats 4000000 in
theorem rcloses_any (kind of_ : Nat) (r : RS) (w : World) (h : RW B p g bs vb vo vl r w) (hm : bs.length ≤ 100000000) (hll : r.l.length ≤ 900000) (hol : r.opn.length ≤ 100000000) (hob : ∀ x ∈ r.opn, x < 256) (hlt : r.at_ < bs.length) (hof : of_ < 256) :
    Calls Tryd.prog 42 #[.pointer (some ⟨p, 0, none⟩), .int .i64 (kind : Int), .int .u8 (of_ : Int)] w
      (RDid B p g bs vb vo vl (closesR bs kind of_ r).1 (.bool (closesR bs kind of_ r).2) w) := by
  have hltp := h.lt
  rcases hop : r.opn.getLast? with _ | y
  · have hnil : r.opn = [] := List.getLast?_eq_none_iff.1 hop
    have HF : Hid (closesR bs kind of_ r = (r, false)) := hid (by unfold closesR; rw [if_neg (by rw [hop]; simp)])
    obtain ⟨ao, cp, rfl⟩ := h.opn.slice
    rw [hnil] at h ⊢
    have c2 := h.c.2.2.1
    have hl0 : (opB ([] : List Nat)).length = 0 := rfl
    rw [hl0] at h c2 ⊢
    have HH := hid h
    clear h hop hnil hob hl0
    go_enter Tryd.func42, Tryd.ntmps42
    go_wp2_with fail
    go_ret
    rw [HF.out]
    exact .of rfl HH.out (JStep.refl _ _ _ _)
  · obtain ⟨m, hml⟩ : ∃ m, r.opn.length = m + 1 := ⟨r.opn.length - 1, by
      have : r.opn ≠ [] := by intro e; rw [e] at hop; cases hop
      have := List.length_pos_iff.2 this
      omega⟩
    have hlen := (opB_len r.opn).trans hml
    have hy := hob y (List.mem_of_getLast? hop)
    obtain ⟨q, cap, hvo, hqB, hql⟩ := World.ownsRow.form h.opn (by rw [hlen]; omega)
    subst hvo
    have hcl : w.cell? ⟨q, m, none⟩ = some (.int .u8 (y : Int)) := by
      have h1 := (OwnB.cells h.opn).2 m (by rw [hlen]; omega)
      have h2 := opB_last hml hop
      rw [List.getElem?_eq_getElem (by rw [hlen]; omega), Option.some.injEq] at h2
      rw [h2, Addr.add_lit, Nat.zero_add] at h1
      rw [h1, show (UInt8.ofNat y).toNat = y by simp; omega]
    rw [hlen] at h ⊢
    have HH := hid h
    have c2 := h.c.2.2.1
    have f2 := h.f 2 (by decide)
    have hm0 : ((m : Int) + 1 == 0) = false := by simp; omega
    have hcap : (m : Int) ≤ (cap : Int) := by
      rcases h.opn.2 with ⟨e, _⟩ | ⟨q', cap', cur, e, hb, hg, hnc, _⟩
      · cases e
      · injection e with e1 e2 e3
        rw [e3]
        have := opB_len r.opn
        omega
    have hm2 : (m : Int) < (m : Int) + 1 := by omega
    have HML := hid hml
    have hmb : m ≤ 100000000 := by omega
    clear h hlen hml hob hol
    by_cases hyo : y = of_
    · subst hyo
      have HF : Hid (closesR bs kind y r = (behR (addR bs kind [] false 1 { r with opn := r.opn.dropLast }), true)) := hid (by unfold closesR; rw [if_pos hop])
      have hpop := HH.out.pop HML.out
      have HP := hid hpop
      clear hop hpop
      go_enter Tryd.func42, Tryd.ntmps42
      go_wp2_with (first
        | (go_at_call 60; refine (radd_any kind 1 [] false _ _ HP.out.1 hm hlt hll).mono ?_; rintro e w3 ⟨rfl, vo3, vl3, hr3, hj3⟩; have HR3 := hid hr3; have HJ3 := hid (HP.out.2.trans hj3); clear hr3 hj3)
        | (go_at_call 61; refine (rbehind_any _ _ HR3.out).mono ?_; rintro e w4 ⟨rfl, vo4, vl4, hr4, hj4⟩; have HR4 := hid hr4; have HJ4 := hid (HJ3.out.trans hj4); clear hr4 hj4)
        | fail)
      go_ret
      rw [HF.out]
      exact .of rfl HR4.out HJ4.out
    · have HF : Hid (closesR bs kind of_ r = (r, false)) := hid (by unfold closesR; rw [if_neg (by rw [hop]; simpa using hyo)])
      have hne : ((y : Int) != (of_ : Int)) = true := by simp; omega
      clear hop
      go_enter Tryd.func42, Tryd.ntmps42
      go_wp2_with fail
      go_ret
      rw [HF.out]
      exact .of rfl HH.out (JStep.refl _ _ _ _)
end Go.Proofs.YtjkmmhnhhiopiaaDoor

namespace Go.Proofs.YtjkmmhnhhiopiaaDoor
open Go.ChangeShapes Go.WideShapes Go.ChangeAt Go.RowKit

variable {B p g : Nat} {bs : List UInt8} {vb vo vl : Value}
set_option maxRecDepth 100000 in
set_option maxHeartbeats 4000000 in
theorem rvalue_any (r : RS) (w : World) (h : RW B p g bs vb vo vl r w) (hm : bs.length ≤ 1000000) (hll : r.l.length ≤ 900000) (hol : r.opn.length ≤ 100000000) :
    Calls Tryd.prog 43 #[.pointer (some ⟨p, 0, none⟩)] w (RDid B p g bs vb vo vl (valueR bs r).1 (.bool (valueR bs r).2) w) := by
  have HH := hid h
  have hltof : pkR bs r.at_ ≠ 0 → r.at_ < bs.length := fun hne => by
    rcases Nat.lt_or_ge r.at_ bs.length with h | h
    · exact h
    · exact absurd (pkR_end (by omega)) hne
  obtain ⟨P, hP⟩ : ∃ P, P = pkR bs r.at_ := ⟨_, rfl⟩
  have hV : valueR bs r = if P = 123 then opensR bs 64 3 r else if P = 91 then opensR bs 256 1 r else if P = 34 then quoR bs r
    else if P = 110 then wordR bs [110, 117, 108, 108] 2 false r else if P = 116 then wordR bs [116, 114, 117, 101] 4 true r else if P = 102 then wordR bs [102, 97, 108, 115, 101] 4 false r else numR bs r := by rw [hP]; try rfl
  rw [← hP] at hltof
  have HP := hid hP.symm
  have HV := hid hV
  clear h hP hV
  by_cases c1 : P = 123
  · have hlt := hltof (by omega)
    have HF : Hid (valueR bs r = opensR bs 64 3 r) := hid (by rw [HV.out, if_pos c1])
    have q1 : ((P : Int) == 123) = true := by simp; omega
    clear hltof c1
    go_enter Tryd.func43, Tryd.ntmps43
    go_wp2_with (first | (go_at_call 41; refine (rpeek_any r w HH.out (by omega)).mono ?_; rintro e w1 ⟨rfl, hb1⟩; rw [HP.out]; have HR1 := hid (HH.out.below hb1); have HJ1 := hid (JStep.of_below (p := p) (vb := vo) (vl := vl) hb1); clear hb1) | (go_at_call 62; refine (ropens_any 64 3 r _ HR1.out (by omega) hll hol hlt).mono ?_; rintro e w2 ⟨rfl, vo2, vl2, hr2, hj2⟩; have HR2 := hid hr2; have HJ2 := hid (HJ1.out.trans hj2); clear hr2 hj2) | fail)
    go_ret
    rw [HF.out]
    exact .of rfl HR2.out HJ2.out
  · have q1 : ((P : Int) == 123) = false := by simp; omega
    by_cases c2 : P = 91
    · have hlt := hltof (by omega)
      have HF : Hid (valueR bs r = opensR bs 256 1 r) := hid (by rw [HV.out, if_neg c1, if_pos c2])
      have q2 : ((P : Int) == 91) = true := by simp; omega
      clear hltof c1 c2
      go_enter Tryd.func43, Tryd.ntmps43
      go_wp2_with (first | (go_at_call 41; refine (rpeek_any r w HH.out (by omega)).mono ?_; rintro e w1 ⟨rfl, hb1⟩; rw [HP.out]; have HR1 := hid (HH.out.below hb1); have HJ1 := hid (JStep.of_below (p := p) (vb := vo) (vl := vl) hb1); clear hb1) | (go_at_call 62; refine (ropens_any 256 1 r _ HR1.out (by omega) hll hol hlt).mono ?_; rintro e w2 ⟨rfl, vo2, vl2, hr2, hj2⟩; have HR2 := hid hr2; have HJ2 := hid (HJ1.out.trans hj2); clear hr2 hj2) | fail)
      go_ret
      rw [HF.out]
      exact .of rfl HR2.out HJ2.out
    · have q2 : ((P : Int) == 91) = false := by simp; omega
      by_cases c3 : P = 34
      · have hlt := hltof (by omega)
        have HF : Hid (valueR bs r = quoR bs r) := hid (by rw [HV.out, if_neg c1, if_neg c2, if_pos c3])
        have q3 : ((P : Int) == 34) = true := by simp; omega
        have hQ : quoR bs r = match jstrR (bs.drop r.at_) with
          | .error k => ({ r with told := k }, false)
          | .ok (t, n) => (behR (addR bs 16 t false n r), true) := rfl
        have hs := jstr_same (bs.drop r.at_)
        have HJS : Hid (∀ (v' : Value) (w' : World), View w' g v' (bs.drop r.at_) → Calls Tryd.prog 63 #[v'] w' (StrResR (jstrR (bs.drop r.at_)) w')) := hid fun v' w' hv => jstring_any v' _ g w' hv (by simp; omega)
        clear hltof c1 c2 c3
        go_enter Tryd.func43, Tryd.ntmps43
        go_upto_region 7 with (first | (go_at_call 41; refine (rpeek_any r w HH.out (by omega)).mono ?_; rintro e w1 ⟨rfl, hb1⟩; rw [HP.out]; have HR1 := hid (HH.out.below hb1); have HJ1 := hid (JStep.of_below (p := p) (vb := vo) (vl := vl) hb1); clear hb1) | fail)
        obtain ⟨d0, d1, -⟩ := HR1.out.c
        obtain ⟨v', hsl, hv'⟩ := view_from (P := Tryd.prog) HR1.out.inn 28 5 Tryd.underlying28 info5u .i64 (r.at_ : Int) r.at_ rfl (by omega)
        have HV1 := hid (hv'.below (Below.refl _ w1).drew)
        obtain ⟨ao', n', cp', rfl⟩ := hv'.slice4
        have HR1d := hid HR1.out.drew
        have HJ1d := hid HJ1.out.drew
        have K1 : Hid (w1.drew.cell? ⟨p, 0, none⟩ = some vb ∧ w1.drew.cell? ⟨p, 1, none⟩ = some (.int .i64 (r.at_ : Int))) := hid ⟨d0, d1⟩
        clear hv' d0 d1
        rcases hj : jstrR (bs.drop r.at_) with k | ⟨t, n⟩
        · rw [hj] at hs HJS hQ
          have hk : k = 2 ∨ k = 0 := by
            rcases hs with h | h
            · exact .inl h
            · exact .inr h.1
          have HQ := hid hQ
          clear hs hj hQ
          rcases hk with rfl | rfl
          all_goals
            go_region_held3 (fun w' => w'.cell? ⟨p, 0, none⟩ = some vb ∧ w'.cell? ⟨p, 1, none⟩ = some (.int .i64 (r.at_ : Int))) (first | with_reducible exact K1.out | with_reducible exact K3.out)
              (first
                | (go_at_call 63; refine (Calls.mono (HJS.out _ _ HV1.out) ?_); rintro e w3 ⟨hb3, rfl⟩; have HR3 := hid (HR1d.out.below hb3); have HJ3 := hid (HJ1d.out.trans (JStep.of_below hb3)); have K3 : Hid (w3.cell? ⟨p, 0, none⟩ = some vb ∧ w3.cell? ⟨p, 1, none⟩ = some (.int .i64 (r.at_ : Int))) := hid ⟨HR3.out.c.1, HR3.out.c.2.1⟩; have c4 := HR3.out.c.2.2.2.2.1; have f4 := HR3.out.f 4 (by decide); clear hb3))
            go_wp2_with fail
            go_ret
            rw [HF.out, HQ.out]
            exact .of rfl (HR3.out.setTold _) (HJ3.out.trans (JStep.picked (grownBy_set _ p 4 _)))
        · rw [hj] at hs HJS hQ
          have hle := strJ_le hs
          have HQ := hid hQ
          have hn1 : r.at_ + n ≤ bs.length := by have := hle.2.1; simp at this; omega
          clear hs hj hQ hle
          go_region_held3 (fun w' => w'.cell? ⟨p, 0, none⟩ = some vb ∧ w'.cell? ⟨p, 1, none⟩ = some (.int .i64 (r.at_ : Int))) (first | with_reducible exact K1.out | with_reducible exact K3.out)
            (first
              | (go_at_call 63; refine (Calls.mono (HJS.out _ _ HV1.out) ?_); rintro e w3 ⟨hb3, rfl⟩; have HR3 := hid (HR1d.out.below hb3); have HJ3 := hid (HJ1d.out.trans (JStep.of_below hb3)); have K3 : Hid (w3.cell? ⟨p, 0, none⟩ = some vb ∧ w3.cell? ⟨p, 1, none⟩ = some (.int .i64 (r.at_ : Int))) := hid ⟨HR3.out.c.1, HR3.out.c.2.1⟩; clear hb3))
          go_wp2_with (first
            | (go_at_call 60; refine (radd_any 16 n t false r _ HR3.out (by omega) hn1 hll).mono ?_; rintro e w4 ⟨rfl, vo4, vl4, hr4, hj4⟩; have HR4 := hid hr4; have HJ4 := hid (HJ3.out.trans hj4); clear hr4 hj4)
            | (go_at_call 61; refine (rbehind_any _ _ HR4.out).mono ?_; rintro e w5 ⟨rfl, vo5, vl5, hr5, hj5⟩; have HR5 := hid hr5; have HJ5 := hid (HJ4.out.trans hj5); clear hr5 hj5)
            | fail)
          go_ret
          rw [HF.out, HQ.out]
          exact .of rfl HR5.out HJ5.out
      · have q3 : ((P : Int) == 34) = false := by simp; omega
        by_cases c4 : P = 110
        · have HF : Hid (valueR bs r = wordR bs [110, 117, 108, 108] 2 false r) := hid (by rw [HV.out, if_neg c1, if_neg c2, if_neg c3, if_pos c4])
          have q4 : ((P : Int) == 110) = true := by simp; omega
          clear hltof c1 c2 c3 c4
          go_enter Tryd.func43, Tryd.ntmps43
          go_wp2_with (first | (go_at_call 41; refine (rpeek_any r w HH.out (by omega)).mono ?_; rintro e w1 ⟨rfl, hb1⟩; rw [HP.out]; have HR1 := hid (HH.out.below hb1); have HJ1 := hid (JStep.of_below (p := p) (vb := vo) (vl := vl) hb1); clear hb1) | (go_at_call 64; refine (rword_any [110, 117, 108, 108] 2 false r _ HR1.out (by omega) hll (by decide)).mono ?_; rintro e w2 ⟨rfl, vo2, vl2, hr2, hj2⟩; have HR2 := hid hr2; have HJ2 := hid (HJ1.out.trans hj2); clear hr2 hj2) | fail)
          go_ret
          rw [HF.out]
          exact .of rfl HR2.out HJ2.out
        · have q4 : ((P : Int) == 110) = false := by simp; omega
          by_cases c5 : P = 116
          · have HF : Hid (valueR bs r = wordR bs [116, 114, 117, 101] 4 true r) := hid (by rw [HV.out, if_neg c1, if_neg c2, if_neg c3, if_neg c4, if_pos c5])
            have q5 : ((P : Int) == 116) = true := by simp; omega
            clear hltof c1 c2 c3 c4 c5
            go_enter Tryd.func43, Tryd.ntmps43
            go_wp2_with (first | (go_at_call 41; refine (rpeek_any r w HH.out (by omega)).mono ?_; rintro e w1 ⟨rfl, hb1⟩; rw [HP.out]; have HR1 := hid (HH.out.below hb1); have HJ1 := hid (JStep.of_below (p := p) (vb := vo) (vl := vl) hb1); clear hb1) | (go_at_call 64; refine (rword_any [116, 114, 117, 101] 4 true r _ HR1.out (by omega) hll (by decide)).mono ?_; rintro e w2 ⟨rfl, vo2, vl2, hr2, hj2⟩; have HR2 := hid hr2; have HJ2 := hid (HJ1.out.trans hj2); clear hr2 hj2) | fail)
            go_ret
            rw [HF.out]
            exact .of rfl HR2.out HJ2.out
          · have q5 : ((P : Int) == 116) = false := by simp; omega
            by_cases c6 : P = 102
            · have HF : Hid (valueR bs r = wordR bs [102, 97, 108, 115, 101] 4 false r) := hid (by rw [HV.out, if_neg c1, if_neg c2, if_neg c3, if_neg c4, if_neg c5, if_pos c6])
              have q6 : ((P : Int) == 102) = true := by simp; omega
              clear hltof c1 c2 c3 c4 c5 c6
              go_enter Tryd.func43, Tryd.ntmps43
              go_wp2_with (first | (go_at_call 41; refine (rpeek_any r w HH.out (by omega)).mono ?_; rintro e w1 ⟨rfl, hb1⟩; rw [HP.out]; have HR1 := hid (HH.out.below hb1); have HJ1 := hid (JStep.of_below (p := p) (vb := vo) (vl := vl) hb1); clear hb1) | (go_at_call 64; refine (rword_any [102, 97, 108, 115, 101] 4 false r _ HR1.out (by omega) hll (by decide)).mono ?_; rintro e w2 ⟨rfl, vo2, vl2, hr2, hj2⟩; have HR2 := hid hr2; have HJ2 := hid (HJ1.out.trans hj2); clear hr2 hj2) | fail)
              go_ret
              rw [HF.out]
              exact .of rfl HR2.out HJ2.out
            · have HF : Hid (valueR bs r = numR bs r) := hid (by rw [HV.out, if_neg c1, if_neg c2, if_neg c3, if_neg c4, if_neg c5, if_neg c6])
              have q6 : ((P : Int) == 102) = false := by simp; omega
              have hN : numR bs r = if jnumR (bs.drop r.at_) = 0 ∨ endN (bs.drop r.at_) (jnumR (bs.drop r.at_)) = false then ({ r with told := if halfR (bs.drop r.at_) then 2 else r.told }, false) else (behR (addR bs 8 [] false (jnumR (bs.drop r.at_)) r), true) := rfl
              have hns := num_same (bs.drop r.at_)
              have HJN : Hid (∀ (v' : Value) (w' : World), View w' g v' (bs.drop r.at_) → Calls Tryd.prog 65 #[v'] w' fun e w2 => e = .returned (.int .i64 (jnumR (bs.drop r.at_) : Int)) ∧ w' = w2) := hid fun v' w' hv => jnumber_any v' _ g w' hv (by simp; omega)
              have HHP : Hid (∀ (v' : Value) (w' : World), View w' g v' (bs.drop r.at_) → Calls Tryd.prog 67 #[v'] w' fun e w2 => e = .returned (.bool (halfR (bs.drop r.at_))) ∧ w' = w2) := hid fun v' w' hv => half_any v' _ g w' hv (by simp; omega)
              have hle := HH.out.le
              obtain ⟨k, hk⟩ : ∃ k, k = r.at_ := ⟨_, rfl⟩
              have HK := hid hk
              have hen : ∀ n, endN (bs.drop r.at_) n = match bs.drop (k + n) with
                | c :: _ => !notDel c
                | [] => true := fun n => by unfold endN; rw [List.drop_drop, hk]; try rfl
              rw [hen] at hN hns
              have hnl : ∀ n, numJ (bs.drop r.at_) = some n → k + n ≤ bs.length := fun n h => by have := (numJ_le h).2; simp at this; omega
              clear hltof c1 c2 c3 c4 c5 c6 hen
              go_enter Tryd.func43, Tryd.ntmps43
              go_upto_region 20 with (first | (go_at_call 41; refine (rpeek_any r w HH.out (by omega)).mono ?_; rintro e w1 ⟨rfl, hb1⟩; rw [HP.out]; have HR1 := hid (HH.out.below hb1); have HJ1 := hid (JStep.of_below (p := p) (vb := vo) (vl := vl) hb1); clear hb1) | fail)
              obtain ⟨d0, d1, -⟩ := HR1.out.c
              rw [← hk] at d1 hle
              obtain ⟨v', hsl, hv'⟩ := view_from (P := Tryd.prog) HR1.out.inn 28 5 Tryd.underlying28 info5u .i64 (k : Int) k rfl (by omega)
              rw [hk] at hv'
              have HV1 : Hid (∀ n, View (w1.drewN n) g v' (bs.drop r.at_)) := hid fun n => hv'.below ⟨rfl, rfl, rfl, Nat.le_refl _, fun _ _ => rfl⟩
              obtain ⟨ao', n', cp', rfl⟩ := hv'.slice4
              clear hv' hk
              generalize jnumR (bs.drop r.at_) = N at *
              generalize halfR (bs.drop r.at_) = hb at *
              go_quiet ((go_at_call 65; exact Calls.quiet_of_same ((HJN.out _ _ (HV1.out _)).mono fun _ _ h => ⟨h.1, h.2.symm⟩)))
              have HR2 := hid (HR1.out.drewN nq)
              have HJ2 := hid (HJ1.out.trans (JStep.of_below (p := p) (vb := vo) (vl := vl) (w' := w1.drewN nq) ⟨rfl, rfl, rfl, Nat.le_refl _, fun _ _ => rfl⟩))
              have HV2 : Hid (∀ n, View ((w1.drewN nq).drewN n) g (.slice ao' n' cp') (bs.drop r.at_)) := hid fun n => (HV1.out nq).below ⟨rfl, rfl, rfl, Nat.le_refl _, fun _ _ => rfl⟩
              have e0 : (w1.drewN nq).cell? ⟨p, 0, none⟩ = some vb := d0
              have e1 : (w1.drewN nq).cell? ⟨p, 1, none⟩ = some (.int .i64 (k : Int)) := d1
              clear d0 d1 HV1
              generalize w1.drewN nq = w2 at *
              obtain ⟨ao, cp, hvb, hcell⟩ := view_open HR2.out.inn
              have HC := hid hcell
              clear hcell
              by_cases hz : N = 0
              · have HFN : Hid (numR bs r = ({ r with told := if hb then 2 else r.told }, false)) := hid (by rw [hN, if_pos (.inl hz)])
                have hzb : ((N : Int) == 0) = true := by simp; omega
                clear hN hns hnl hz hvb
                go_upto_region 21 with fail
                go_quiet (fail)
                have HR3 := hid (HR2.out.drewN nq)
                have HJ3 := hid (HJ2.out.trans (JStep.of_below (p := p) (vb := vo) (vl := vl) (w' := w2.drewN nq) ⟨rfl, rfl, rfl, Nat.le_refl _, fun _ _ => rfl⟩))
                have HV3 : Hid (∀ n, View ((w2.drewN nq).drewN n) g (.slice ao' n' cp') (bs.drop r.at_)) := hid fun n => (HV2.out nq).below ⟨rfl, rfl, rfl, Nat.le_refl _, fun _ _ => rfl⟩
                replace e0 : (w2.drewN nq).cell? ⟨p, 0, none⟩ = some vb := e0
                replace e1 : (w2.drewN nq).cell? ⟨p, 1, none⟩ = some (.int .i64 (k : Int)) := e1
                clear HV2
                generalize w2.drewN nq = w3 at *
                go_upto_region 22 with fail
                go_quiet ((go_at_call 67; exact Calls.quiet_of_same ((HHP.out _ _ (HV3.out _)).mono fun _ _ h => ⟨h.1, h.2.symm⟩)))
                have HR4 := hid (HR3.out.drewN nq)
                have HJ4 := hid (HJ3.out.trans (JStep.of_below (p := p) (vb := vo) (vl := vl) (w' := w3.drewN nq) ⟨rfl, rfl, rfl, Nat.le_refl _, fun _ _ => rfl⟩))
                generalize w3.drewN nq = w4 at *
                have f4 := HR4.out.f 4 (by decide)
                have e4 := HR4.out.c.2.2.2.2.1
                rcases hb with _ | _
                · go_wp2_with fail
                  go_ret
                  rw [HF.out, HFN.out]
                  exact .of rfl HR4.out HJ4.out
                · go_wp2_with fail
                  go_ret
                  rw [HF.out, HFN.out]
                  exact .of rfl (HR4.out.setTold 2) (HJ4.out.trans (JStep.picked (grownBy_set w4 p 4 _)))
              · have hzb : ((N : Int) == 0) = false := by simp; omega
                have hwr : IntKind.i64.wrap ((k : Int) + (N : Int)) = (k : Int) + (N : Int) → True := fun _ => trivial
                by_cases h3 : k + N < bs.length
                · have hd3 : decide ((k : Int) + (N : Int) < (bs.length : Int)) = true := by simp; omega
                  have hwr2 : IntKind.i64.wrap ((k : Int) + (N : Int)) = (k : Int) + (N : Int) := IntWalk.i64_in _ (by omega)
                  obtain ⟨o, hao, hck⟩ := HC.out (k + N) h3
                  rw [hao] at hvb
                  rw [hvb] at e0
                  have hdr := List.drop_eq_getElem_cons h3
                  rw [hdr] at hN hns
                  simp only at hN hns
                  generalize bs[k + N] = c at *
                  have HWB := hid (wordByte_any c)
                  have htn : ((k : Int) + (N : Int)).toNat = k + N := by omega
                  have hlo : (0 : Int) ≤ (k : Int) + (N : Int) := by omega
                  clear hao hdr hwr
                  cases hnd : notDel c with
                  | true =>
                    have HFN : Hid (numR bs r = ({ r with told := if hb then 2 else r.told }, false)) := hid (by rw [hN, if_pos (.inr (by rw [hnd]; try rfl))])
                    rw [hnd] at HWB
                    have HVB := hid hvb
                    clear hN hns hnl hz hnd hvb
                    go_upto_region 21 with fail
                    go_quiet ((go_at_call 66; exact Calls.quiet_of_same ((HWB.out _).mono fun _ _ h => ⟨h.1, h.2.symm⟩)))
                    rw [← HVB.out] at e0
                    have HR3 := hid (HR2.out.drewN nq)
                    have HJ3 := hid (HJ2.out.trans (JStep.of_below (p := p) (vb := vo) (vl := vl) (w' := w2.drewN nq) ⟨rfl, rfl, rfl, Nat.le_refl _, fun _ _ => rfl⟩))
                    have HV3 : Hid (∀ n, View ((w2.drewN nq).drewN n) g (.slice ao' n' cp') (bs.drop r.at_)) := hid fun n => (HV2.out nq).below ⟨rfl, rfl, rfl, Nat.le_refl _, fun _ _ => rfl⟩
                    replace e0 : (w2.drewN nq).cell? ⟨p, 0, none⟩ = some vb := e0
                    replace e1 : (w2.drewN nq).cell? ⟨p, 1, none⟩ = some (.int .i64 (k : Int)) := e1
                    clear HV2
                    generalize w2.drewN nq = w3 at *
                    go_upto_region 22 with fail
                    go_quiet ((go_at_call 67; exact Calls.quiet_of_same ((HHP.out _ _ (HV3.out _)).mono fun _ _ h => ⟨h.1, h.2.symm⟩)))
                    have HR4 := hid (HR3.out.drewN nq)
                    have HJ4 := hid (HJ3.out.trans (JStep.of_below (p := p) (vb := vo) (vl := vl) (w' := w3.drewN nq) ⟨rfl, rfl, rfl, Nat.le_refl _, fun _ _ => rfl⟩))
                    generalize w3.drewN nq = w4 at *
                    have f4 := HR4.out.f 4 (by decide)
                    have e4 := HR4.out.c.2.2.2.2.1
                    rcases hb with _ | _
                    · go_wp2_with fail
                      go_ret
                      rw [HF.out, HFN.out]
                      exact .of rfl HR4.out HJ4.out
                    · go_wp2_with fail
                      go_ret
                      rw [HF.out, HFN.out]
                      exact .of rfl (HR4.out.setTold 2) (HJ4.out.trans (JStep.picked (grownBy_set w4 p 4 _)))
                  | false =>
                    have hcond : ¬ (N = 0 ∨ (!notDel c) = false) := by rw [hnd]; simpa using hz
                    have HFN : Hid (numR bs r = (behR (addR bs 8 [] false N r), true)) := hid (by rw [hN, if_neg hcond])
                    have hn1 : k + N ≤ bs.length := by omega
                    rw [hnd] at HWB
                    clear hN hns hnl hz hnd hvb hcond
                    go_upto_region 21 with fail
                    go_quiet ((go_at_call 66; exact Calls.quiet_of_same ((HWB.out _).mono fun _ _ h => ⟨h.1, h.2.symm⟩)))
                    have HR3 := hid (HR2.out.drewN nq)
                    have HJ3 := hid (HJ2.out.trans (JStep.of_below (p := p) (vb := vo) (vl := vl) (w' := w2.drewN nq) ⟨rfl, rfl, rfl, Nat.le_refl _, fun _ _ => rfl⟩))
                    generalize w2.drewN nq = w3 at *
                    go_wp2_with (first
                      | (go_at_call 60; refine (radd_any 8 N [] false r _ HR3.out (by omega) (by rw [← HK.out]; exact hn1) hll).mono ?_; rintro e w4 ⟨rfl, vo4, vl4, hr4, hj4⟩; have HR4 := hid hr4; have HJ4 := hid (HJ3.out.trans hj4); clear hr4 hj4)
                      | (go_at_call 61; refine (rbehind_any _ _ HR4.out).mono ?_; rintro e w5 ⟨rfl, vo5, vl5, hr5, hj5⟩; have HR5 := hid hr5; have HJ5 := hid (HJ4.out.trans hj5); clear hr5 hj5)
                      | fail)
                    go_ret
                    rw [HF.out, HFN.out]
                    exact .of rfl HR5.out HJ5.out
                · have hdr : bs.drop (k + N) = [] := List.drop_eq_nil_of_le (by omega)
                  rw [hdr] at hN hns
                  simp only at hN hns
                  have hcond : ¬ (N = 0 ∨ true = false) := by simpa using hz
                  have HFN : Hid (numR bs r = (behR (addR bs 8 [] false N r), true)) := hid (by rw [hN, if_neg hcond])
                  rw [if_neg hcond] at hns
                  have hn1 := hnl N hns
                  have hd3 : decide ((k : Int) + (N : Int) < (bs.length : Int)) = false := by simp; omega
                  have hwr2 : IntKind.i64.wrap ((k : Int) + (N : Int)) = (k : Int) + (N : Int) := IntWalk.i64_in _ (by omega)
                  rw [hvb] at e0
                  clear hN hns hnl hz hvb hcond hdr hwr
                  go_upto_region 21 with fail
                  go_quiet (fail)
                  have HR3 := hid (HR2.out.drewN nq)
                  have HJ3 := hid (HJ2.out.trans (JStep.of_below (p := p) (vb := vo) (vl := vl) (w' := w2.drewN nq) ⟨rfl, rfl, rfl, Nat.le_refl _, fun _ _ => rfl⟩))
                  generalize w2.drewN nq = w3 at *
                  go_wp2_with (first
                    | (go_at_call 60; refine (radd_any 8 N [] false r _ HR3.out (by omega) (by rw [← HK.out]; exact hn1) hll).mono ?_; rintro e w4 ⟨rfl, vo4, vl4, hr4, hj4⟩; have HR4 := hid hr4; have HJ4 := hid (HJ3.out.trans hj4); clear hr4 hj4)
                    | (go_at_call 61; refine (rbehind_any _ _ HR4.out).mono ?_; rintro e w5 ⟨rfl, vo5, vl5, hr5, hj5⟩; have HR5 := hid hr5; have HJ5 := hid (HJ4.out.trans hj5); clear hr5 hj5)
                    | fail)
                  go_ret
                  rw [HF.out, HFN.out]
                  exact .of rfl HR5.out HJ5.out
end Go.Proofs.YtjkmmhnhhiopiaaDoor

namespace Go.Proofs.YtjkmmhnhhiopiaaDoor
open Go.ChangeShapes Go.WideShapes Go.ChangeAt Go.RowKit
attribute [local go_sem ↓] Go.wp_at_zero Go.wp_at_succ

variable {B p g : Nat} {bs : List UInt8} {vb vo vl : Value}
set_option maxRecDepth 100000 in
set_option maxHeartbeats 4000000 in
theorem rname_any (r : RS) (w : World) (h : RW B p g bs vb vo vl r w) (hm : bs.length ≤ 1000000) (hll : r.l.length ≤ 900000) :
    Calls Tryd.prog 44 #[.pointer (some ⟨p, 0, none⟩)] w (RDid B p g bs vb vo vl (nameR bs r).1 (.bool (nameR bs r).2) w) := by
  have HH := hid h
  have hltof : pkR bs r.at_ ≠ 0 → r.at_ < bs.length := fun hne => by
    rcases Nat.lt_or_ge r.at_ bs.length with h | h
    · exact h
    · exact absurd (pkR_end (by omega)) hne
  obtain ⟨P, hP⟩ : ∃ P, P = pkR bs r.at_ := ⟨_, rfl⟩
  have hV : nameR bs r = if P ≠ 34 then (r, false) else match jstrR (bs.drop r.at_) with
    | .error k => ({ r with told := k }, false)
    | .ok (t, n) => if pkR bs (spR bs (r.at_ + n)) ≠ 58 then ({ r with at_ := spR bs (r.at_ + n) }, false)
      else ({ r with at_ := spR bs (r.at_ + n) + 1, want := 0, l := r.l ++ [⟨32, r.at_, (bs.drop r.at_).take n, t, false⟩] }, true) := by rw [hP]; try rfl
  rw [← hP] at hltof
  have HP := hid hP.symm
  clear h hP
  by_cases c1 : P = 34
  · have hlt := hltof (by omega)
    rw [if_neg (by omega)] at hV
    have q1 : ((P : Int) != 34) = false := by simp; omega
    have hs := jstr_same (bs.drop r.at_)
    have HJS : Hid (∀ (v' : Value) (w' : World), View w' g v' (bs.drop r.at_) → Calls Tryd.prog 63 #[v'] w' (StrResR (jstrR (bs.drop r.at_)) w')) := hid fun v' w' hv => jstring_any v' _ g w' hv (by simp; omega)
    clear hltof c1
    go_enter Tryd.func44, Tryd.ntmps44
    go_upto_region 3 with (first
      | (go_at_call 41; refine (rpeek_any r w HH.out (by omega)).mono ?_; rintro e w1 ⟨rfl, hb1⟩; rw [HP.out]; have HR1 := hid (HH.out.below hb1); have HJ1 := hid (JStep.of_below (p := p) (vb := vo) (vl := vl) hb1); clear hb1)
      | fail)
    obtain ⟨d0, d1, -⟩ := HR1.out.c
    obtain ⟨v', hsl, hv'⟩ := view_from (P := Tryd.prog) HR1.out.inn 28 5 Tryd.underlying28 info5u .i64 (r.at_ : Int) r.at_ rfl (by omega)
    have HV1 := hid (hv'.below (Below.refl _ w1).drew)
    obtain ⟨ao', n', cp', rfl⟩ := hv'.slice4
    have HR1d := hid HR1.out.drew
    have HJ1d := hid HJ1.out.drew
    have K1 : Hid (w1.drew.cell? ⟨p, 0, none⟩ = some vb ∧ w1.drew.cell? ⟨p, 1, none⟩ = some (.int .i64 (r.at_ : Int))) := hid ⟨d0, d1⟩
    clear hv' d0 d1
    rcases hj : jstrR (bs.drop r.at_) with k | ⟨t, n⟩
    · rw [hj] at hs HJS hV
      have hk : k = 2 ∨ k = 0 := by
        rcases hs with h | h
        · exact .inl h
        · exact .inr h.1
      have HQ := hid hV
      clear hs hj hV
      rcases hk with rfl | rfl
      all_goals
        go_region_held3 (fun w' => w'.cell? ⟨p, 0, none⟩ = some vb ∧ w'.cell? ⟨p, 1, none⟩ = some (.int .i64 (r.at_ : Int))) (first | with_reducible exact K1.out | with_reducible exact K3.out)
          (first
            | (go_at_call 63; refine (Calls.mono (HJS.out _ _ HV1.out) ?_); rintro e w3 ⟨hb3, rfl⟩; have HR3 := hid (HR1d.out.below hb3); have HJ3 := hid (HJ1d.out.trans (JStep.of_below hb3)); have K3 : Hid (w3.cell? ⟨p, 0, none⟩ = some vb ∧ w3.cell? ⟨p, 1, none⟩ = some (.int .i64 (r.at_ : Int))) := hid ⟨HR3.out.c.1, HR3.out.c.2.1⟩; have c4 := HR3.out.c.2.2.2.2.1; have f4 := HR3.out.f 4 (by decide); clear hb3))
        go_wp2_with fail
        go_ret
        rw [HQ.out]
        exact .of rfl (HR3.out.setTold _) (HJ3.out.trans (JStep.picked (grownBy_set _ p 4 _)))
    · rw [hj] at hs HJS hV
      have hle := strJ_le hs
      have HQ := hid hV
      have hn1 : r.at_ + n ≤ bs.length := by have := hle.2.1; simp at this; omega
      clear hs hj hV hle
      go_cut [3, 4, 5] (fun s n' k wx => s = .string ⟨t.toArray⟩ ∧ n' = .int .i64 (n : Int) ∧ k = .int .i64 1 ∧ RW B p g bs vb vo vl r wx ∧ JStep p vo vl w vo vl wx)
      case first =>
        go_region_held3 (fun w' => w'.cell? ⟨p, 0, none⟩ = some vb ∧ w'.cell? ⟨p, 1, none⟩ = some (.int .i64 (r.at_ : Int))) (first | with_reducible exact K1.out | with_reducible exact K3.out)
          (first
            | (go_at_call 63; refine (Calls.mono (HJS.out _ _ HV1.out) ?_); rintro e w3 ⟨hb3, rfl⟩; have HR3 := hid (HR1d.out.below hb3); have HJ3 := hid (HJ1d.out.trans (JStep.of_below hb3)); have K3 : Hid (w3.cell? ⟨p, 0, none⟩ = some vb ∧ w3.cell? ⟨p, 1, none⟩ = some (.int .i64 (r.at_ : Int))) := hid ⟨HR3.out.c.1, HR3.out.c.2.1⟩; clear hb3))
        go_wp2_with fail
        go_meet
        exact ⟨rfl, rfl, rfl, HR3.out, HJ3.out⟩
      case rest =>
        obtain ⟨rfl, rfl, rfl, hr3, hj3⟩ := hcut
        have HR3 := hid hr3
        have HJ3 := hid hj3
        obtain ⟨-, d1, -⟩ := hr3.c
        have f1 := hr3.f 1 (by decide)
        have HR4 := hid (hr3.setAt hn1)
        have HJ4 := hid (hj3.trans (JStep.picked (grownBy_set wc p 1 (.int .i64 ((r.at_ + n : Nat) : Int)))))
        have hsn := HR3.out.le
        clear hr3 hj3 HR1d HJ1d HV1 K1 HR1 HJ1 hsl
        obtain ⟨S, hS⟩ : ∃ S, S = spR bs (r.at_ + n) := ⟨_, rfl⟩
        obtain ⟨Q, hQ⟩ : ∃ Q, Q = pkR bs S := ⟨_, rfl⟩
        have hV := HQ.out
        simp only at hV
        rw [← hS, ← hQ] at hV
        have HSP : Hid (∀ w' , RW B p g bs vb vo vl { r with at_ := r.at_ + n } w' → Calls Tryd.prog 29 #[.pointer (some ⟨p, 0, none⟩)] w' (RDid B p g bs vb vo vl { r with at_ := S } (.tuple #[]) w')) := hid fun w' h => by
          rw [hS]; exact rspace_any _ w' h (by omega)
        have HPQ := hid hQ.symm
        clear HQ hS hQ hsn
        by_cases c2 : Q = 58
        · rw [if_neg (by omega)] at hV
          have HQ := hid hV
          have q2 : ((Q : Int) != 58) = false := by simp; omega
          have hSlt : S < bs.length := by
            rcases Nat.lt_or_ge S bs.length with h | h
            · exact h
            · have := HPQ.out; rw [pkR_end (by omega)] at this; omega
          clear hV c2
          go_upto_region 13 with (first
            | (go_at_call 29; refine (Calls.mono (HSP.out _ HR4.out) ?_); rintro e w5 ⟨rfl, vo5, vl5, hr5, hj5⟩; have HR5 := hid hr5; have HJ5 := hid (HJ4.out.trans hj5); clear hr5 hj5)
            | (go_at_call 41; refine (rpeek_any _ _ HR5.out (by omega)).mono ?_; rintro e w6 ⟨rfl, hb6⟩; rw [show (pkR bs ({ r with at_ := S } : RS).at_) = Q from HPQ.out]; have HR6 := hid (HR5.out.below hb6); have HJ6 := hid (HJ5.out.trans (JStep.of_below hb6)); have e1 := HR6.out.c.2.1; have g1 := HR6.out.f 1 (by decide); clear hb6)
            | fail)
          have HR7 := hid (HR6.out.setAt (n := S + 1) hSlt)
          have HJ7 := hid (HJ6.out.trans (JStep.picked (grownBy_set w6 p 1 (.int .i64 ((S + 1 : Nat) : Int)))))
          clear HR6 HJ6 HR5 HJ5 HR4 HJ4 e1 g1 HSP
          rw [show (((S + 1 : Nat) : Int)) = (S : Int) + 1 from rfl] at HR7 HJ7
          generalize World.setCell w6 _ _ = w7 at *
          obtain ⟨d0, -, -, -, -, d5⟩ := HR7.out.c
          have f5 := HR7.out.f 5 (by decide)
          obtain ⟨k, hk⟩ : ∃ k, k = r.at_ := ⟨_, rfl⟩
          obtain ⟨v2, hsl, hv2⟩ := view_both (P := Tryd.prog) HR7.out.inn 28 5 Tryd.underlying28 info5u .i64 .i64 (k : Int) ((k : Int) + (n : Int)) k (k + n) rfl (by omega) (by omega) (by rw [hk]; exact hn1)
          rw [Nat.add_sub_cancel_left] at hv2
          have hcv : (convert 28 9 v2).run Tryd.prog w7.drew = .ok (.string ⟨((bs.drop k).take n).toArray⟩) w7.drew := view_string (P := Tryd.prog) hv2.drew 28 9 5 Tryd.underlying28 Tryd.underlying5 Tryd.underlying9
          have hwr : IntKind.i64.wrap ((k : Int) + (n : Int)) = (k : Int) + (n : Int) := IntWalk.i64_in _ (by omega)
          rw [← hk]
          rw [← hk] at HQ
          have HK := hid hk
          have hj7 := HR7.out
          have hlp7 := HR7.out.lt
          clear hk hv2
          obtain ⟨T, hT⟩ : ∃ T, T = (bs.drop k).take n := ⟨_, rfl⟩
          rw [← hT] at hcv HQ
          clear hT
          go_cut [] (fun wx => Mid B p g bs vb vo5 vl5 { r with at_ := S + 1, l := r.l ++ [(⟨32, k, T, t, false⟩ : JT)] } w7 wx)
          case first =>
            go_region_law
              (first
               | (refine step_append_tok _ (by rfl) _ _ _ (by rfl) B Tryd.underlying37 tokInfo vl5 r.l (by rfl) (hj7.drew.alloc _).l ⟨w7.heap.size, 0, none⟩ 1 ⟨32, k, T, t, false⟩ (by rfl) (World.news_of_block (cs := #[.int .i64 32, .int .i64 k, .string ⟨T.toArray⟩, .string ⟨t.toArray⟩, .bool false]) (t := 41) (fr := (0, 0)) (heap_alloc_new w7.drew _)) (hj7.drew.alloc _).base (by omega) ?_; intro v4 w4 ha4; obtain ⟨hc4, hf4⟩ := (hj7.drew.alloc _).appt ha4; have HA := hid ((hj7.drew.alloc _).add ha4); obtain ⟨ao4, cc4, rfl⟩ := ha4.own.slice; clear ha4)
               )
            all_goals
              have HA2 := HA.out
              simp only [List.length_append, List.length_cons, List.length_nil, Nat.zero_add] at HA2
              go_wp2_with fail
              go_meet
              exact ⟨_, _, HA2.1, ((JStep.refl p vo5 vl5 w7).drew.alloc _).trans HA2.2⟩
          case rest =>
            obtain ⟨vo8, vl8, hr8, hj8⟩ := hcut
            have HR8 := hid hr8
            have HJ8 := hid (HJ7.out.trans hj8)
            have c3 := hr8.c.2.2.2.1
            have f3 := hr8.f 3 (by decide)
            clear hr8 hj8 hj7 d0 d5 f5 hsl hcv hwr
            go_wp2_with fail
            go_ret
            rw [HQ.out]
            exact .of rfl (HR8.out.setWant 0) (HJ8.out.trans (JStep.picked (grownBy_set _ p 3 _)))
        · rw [if_pos c2] at hV
          have HQ := hid hV
          have q2 : ((Q : Int) != 58) = true := by simp; omega
          clear hV c2
          go_wp2_with (first
            | (go_at_call 29; refine (Calls.mono (HSP.out _ HR4.out) ?_); rintro e w5 ⟨rfl, vo5, vl5, hr5, hj5⟩; have HR5 := hid hr5; have HJ5 := hid (HJ4.out.trans hj5); clear hr5 hj5)
            | (go_at_call 41; refine (rpeek_any _ _ HR5.out (by omega)).mono ?_; rintro e w6 ⟨rfl, hb6⟩; rw [show (pkR bs ({ r with at_ := S } : RS).at_) = Q from HPQ.out]; have HR6 := hid (HR5.out.below hb6); have HJ6 := hid (HJ5.out.trans (JStep.of_below hb6)); clear hb6)
            | fail)
          go_ret
          rw [HQ.out]
          exact .of rfl HR6.out HJ6.out
  · have HF : Hid (nameR bs r = (r, false)) := hid (by rw [hV, if_pos c1])
    have q1 : ((P : Int) != 34) = true := by simp; omega
    clear hltof c1 hV
    go_enter Tryd.func44, Tryd.ntmps44
    go_wp2_with (first
      | (go_at_call 41; refine (rpeek_any r w HH.out (by omega)).mono ?_; rintro e w1 ⟨rfl, hb1⟩; rw [HP.out]; have HR1 := hid (HH.out.below hb1); have HJ1 := hid (JStep.of_below (p := p) (vb := vo) (vl := vl) hb1); clear hb1)
      | fail)
    go_ret
    rw [HF.out]
    exact .of rfl HR1.out HJ1.out
end Go.Proofs.YtjkmmhnhhiopiaaDoor

namespace Go.Proofs.YtjkmmhnhhiopiaaDoor
open Go.ChangeShapes Go.WideShapes Go.ChangeAt Go.RowKit

variable {B p g : Nat} {bs : List UInt8} {vb vo vl : Value}
set_option maxRecDepth 100000 in
set_option maxHeartbeats 4000000 in
theorem rmore_any (r : RS) (w : World) (h : RW B p g bs vb vo vl r w) (hm : bs.length ≤ 1000000) (hll : r.l.length ≤ 900000) (hol : r.opn.length ≤ 100000000) (hob : ∀ x ∈ r.opn, x < 256) (hne : r.opn ≠ []) :
    Calls Tryd.prog 45 #[.pointer (some ⟨p, 0, none⟩), .int .u8 (pkR bs r.at_ : Int)] w (RDid B p g bs vb vo vl (moreR bs r).1 (.bool (moreR bs r).2) w) := by
  obtain ⟨y, hop⟩ : ∃ y, r.opn.getLast? = some y := by
    rcases hg : r.opn.getLast? with _ | y
    · exact absurd (List.getLast?_eq_none_iff.1 hg) hne
    · exact ⟨y, rfl⟩
  obtain ⟨m, hml⟩ : ∃ m, r.opn.length = m + 1 := ⟨r.opn.length - 1, by have := List.length_pos_iff.2 hne; omega⟩
  have hlen := (opB_len r.opn).trans hml
  have hy := hob y (List.mem_of_getLast? hop)
  obtain ⟨q, cap, hvo, hqB, hql⟩ := World.ownsRow.form h.opn (by rw [hlen]; omega)
  subst hvo
  have hcl : w.cell? ⟨q, m, none⟩ = some (.int .u8 (y : Int)) := by
    have h1 := (OwnB.cells h.opn).2 m (by rw [hlen]; omega)
    have h2 := opB_last hml hop
    rw [List.getElem?_eq_getElem (by rw [hlen]; omega), Option.some.injEq] at h2
    rw [h2, Addr.add_lit, Nat.zero_add] at h1
    rw [h1, show (UInt8.ofNat y).toNat = y by simp; omega]
  rw [hlen] at h ⊢
  have HH := hid h
  have c2 := h.c.2.2.1
  have hm2 : (m : Int) < (m : Int) + 1 := by omega
  have hmb : m ≤ 100000000 := by omega
  have hwr : IntKind.i64.wrap ((m : Int) + 1 - 1) = (m : Int) := by rw [Int.add_sub_cancel]; exact IntWalk.i64_in _ (by omega)
  have hltof : pkR bs r.at_ ≠ 0 → r.at_ < bs.length := fun hne => by
    rcases Nat.lt_or_ge r.at_ bs.length with h | h
    · exact h
    · exact absurd (pkR_end (by omega)) hne
  obtain ⟨P, hP⟩ : ∃ P, P = pkR bs r.at_ := ⟨_, rfl⟩
  have hV : moreR bs r = if P = 125 then closesR bs 128 123 r else if P = 93 then closesR bs 512 91 r else if P ≠ 44 then (r, false)
    else if y = 123 then nameR bs { r with at_ := spR bs (r.at_ + 1) } else valueR bs { r with at_ := spR bs (r.at_ + 1) } := by
    unfold moreR
    rw [← hP, hop]
    simp only [Option.some.injEq]
  rw [← hP] at hltof ⊢
  clear h hP hlen hml hne
  go_enter Tryd.func45, Tryd.ntmps45
  go_upto_region 1 with fail
  go_quiet (fail)
  have HR1 := hid (HH.out.drewN nq)
  have HJ1 := hid (JStep.of_below (p := p) (vb := .slice (some ⟨q, 0, none⟩) (m + 1) cap) (vl := vl) (w := w) (w' := w.drewN nq) ⟨rfl, rfl, rfl, Nat.le_refl _, fun _ _ => rfl⟩)
  have d1 := HR1.out.c.2.1
  have f1 := HR1.out.f 1 (by decide)
  clear hcl c2 hwr
  generalize w.drewN nq = w1 at *
  by_cases c1 : P = 125
  · have hlt := hltof (by omega)
    rw [if_pos c1] at hV
    have HV := hid hV
    have q1 : ((P : Int) == 125) = true := by simp; omega
    clear hltof c1 hV
    go_wp2_with (first | (go_at_call 42; refine (rcloses_any 128 123 r _ HR1.out (by omega) hll hol hob hlt (by decide)).mono ?_; rintro e w2 ⟨rfl, vo2, vl2, hr2, hj2⟩; have HR2 := hid hr2; have HJ2 := hid (HJ1.out.trans hj2); clear hr2 hj2) | fail)
    go_ret
    rw [HV.out]
    exact .of rfl HR2.out HJ2.out
  · rw [if_neg c1] at hV
    have q1 : ((P : Int) == 125) = false := by simp; omega
    by_cases c3 : P = 93
    · have hlt := hltof (by omega)
      rw [if_pos c3] at hV
      have HV := hid hV
      have q2 : ((P : Int) == 93) = true := by simp; omega
      clear hltof c1 c3 hV
      go_wp2_with (first | (go_at_call 42; refine (rcloses_any 512 91 r _ HR1.out (by omega) hll hol hob hlt (by decide)).mono ?_; rintro e w2 ⟨rfl, vo2, vl2, hr2, hj2⟩; have HR2 := hid hr2; have HJ2 := hid (HJ1.out.trans hj2); clear hr2 hj2) | fail)
      go_ret
      rw [HV.out]
      exact .of rfl HR2.out HJ2.out
    · rw [if_neg c3] at hV
      have q2 : ((P : Int) == 93) = false := by simp; omega
      by_cases c4 : P = 44
      · have hlt := hltof (by omega)
        rw [if_neg (by omega)] at hV
        have q3 : ((P : Int) != 44) = false := by simp; omega
        have HR2 := hid (HR1.out.setAt (n := r.at_ + 1) hlt)
        have HJ2 := hid (HJ1.out.trans (JStep.picked (grownBy_set w1 p 1 (.int .i64 ((r.at_ + 1 : Nat) : Int)))))
        have hat := HR1.out.le
        clear hltof c1 c3 c4
        by_cases hy1 : y = 123
        · rw [if_pos hy1] at hV
          have HV := hid hV
          have q4 : ((y : Int) == 123) = true := by simp; omega
          clear hy1 hV hob hop hy
          go_wp2_with (first
            | (go_at_call 29; refine (rspace_any _ _ HR2.out (by omega)).mono ?_; rintro e w5 ⟨rfl, vo5, vl5, hr5, hj5⟩; have HR5 := hid hr5; have HJ5 := hid (HJ2.out.trans hj5); clear hr5 hj5)
            | (go_at_call 44; refine (rname_any _ _ HR5.out hm hll).mono ?_; rintro e w6 ⟨rfl, vo6, vl6, hr6, hj6⟩; have HR6 := hid hr6; have HJ6 := hid (HJ5.out.trans hj6); clear hr6 hj6)
            | fail)
          go_ret
          rw [HV.out]
          exact .of rfl HR6.out HJ6.out
        · rw [if_neg hy1] at hV
          have HV := hid hV
          have q4 : ((y : Int) == 123) = false := by simp; omega
          clear hy1 hV hob hop hy
          go_wp2_with (first
            | (go_at_call 29; refine (rspace_any _ _ HR2.out (by omega)).mono ?_; rintro e w5 ⟨rfl, vo5, vl5, hr5, hj5⟩; have HR5 := hid hr5; have HJ5 := hid (HJ2.out.trans hj5); clear hr5 hj5)
            | (go_at_call 43; refine (rvalue_any _ _ HR5.out hm hll hol).mono ?_; rintro e w6 ⟨rfl, vo6, vl6, hr6, hj6⟩; have HR6 := hid hr6; have HJ6 := hid (HJ5.out.trans hj6); clear hr6 hj6)
            | fail)
          go_ret
          rw [HV.out]
          exact .of rfl HR6.out HJ6.out
      · rw [if_pos c4] at hV
        have HV := hid hV
        have q3 : ((P : Int) != 44) = true := by simp; omega
        clear hltof c1 c3 c4 hV hob hop
        go_wp2_with fail
        go_ret
        rw [HV.out]
        exact .of rfl HR1.out HJ1.out
/-- what holds of the reader always -/
structure GoodR (bs : List UInt8) (r : RS) : Prop where
  opn : ∀ x ∈ r.opn, x < 256
  ol : r.opn.length ≤ r.at_
  ll : r.l.length ≤ r.at_
  want : r.want ≤ 5
  told : r.told ≤ 2
  more : r.want = 4 → r.opn ≠ []
set_option maxRecDepth 100000 in
set_option maxHeartbeats 4000000 in
theorem rnext_any (r : RS) (w : World) (h : RW B p g bs vb vo vl r w) (hm : bs.length ≤ 800000) (hg : GoodR bs r) :
    Calls Tryd.prog 30 #[.pointer (some ⟨p, 0, none⟩)] w (RDid B p g bs vb vo vl (nextR bs r).1 (.bool (nextR bs r).2) w) := by
  have hle := h.le
  have hll : r.l.length ≤ 900000 := by have := hg.ll; omega
  have hol : r.opn.length ≤ 100000000 := by have := hg.ol; omega
  have hob := hg.opn
  have HH := hid h
  obtain ⟨P, hP⟩ : ∃ P, P = pkR bs (spR bs r.at_) := ⟨_, rfl⟩
  have hltof : P ≠ 0 → spR bs r.at_ < bs.length := fun hne => by
    rcases Nat.lt_or_ge (spR bs r.at_) bs.length with h | h
    · exact h
    · rw [hP] at hne; exact absurd (pkR_end (by omega)) hne
  have hV : nextR bs r = if r.want = 1 then (if P = 93 then closesR bs 512 91 { r with at_ := spR bs r.at_ } else valueR bs { r with at_ := spR bs r.at_ }) else if r.want = 2 then nameR bs { r with at_ := spR bs r.at_ }
    else if r.want = 3 then (if P = 125 then closesR bs 128 123 { r with at_ := spR bs r.at_ } else nameR bs { r with at_ := spR bs r.at_ }) else if r.want = 4 then moreR bs { r with at_ := spR bs r.at_ } else valueR bs { r with at_ := spR bs r.at_ } := by rw [hP]; try rfl
  have HP := hid hP.symm
  have hmm : bs.length ≤ 1000000 := by omega
  have hne4 := hg.more
  clear h hP hg hle
  replace hm := hmm
  clear hmm
  by_cases w1 : r.want = 1
  · rw [if_pos w1] at hV
    have a1 : ((r.want : Int) == 1) = true := by simp; omega
    clear w1 hne4
    by_cases c1 : P = 93
    · have hlt := hltof (by omega)
      rw [if_pos c1] at hV
      have HV := hid hV
      have q1 : ((P : Int) == 93) = true := by simp; omega
      clear hV c1 hltof
      go_enter Tryd.func30, Tryd.ntmps30
      go_wp2_with (first | (go_at_call 29; refine (rspace_any r w HH.out (by omega)).mono ?_; rintro e w1 ⟨rfl, vo1, vl1, hr1, hj1⟩; have HR1 := hid hr1; have HJ1 := hid hj1; have cw := hr1.c.2.2.2.1; clear hr1 hj1) | (go_at_call 41; refine (rpeek_any _ _ HR1.out (by omega)).mono ?_; rintro e w2 ⟨rfl, hb2⟩; rw [show pkR bs ({ r with at_ := spR bs r.at_ } : RS).at_ = P from HP.out]; have HR2 := hid (HR1.out.below hb2); have HJ2 := hid (HJ1.out.trans (JStep.of_below hb2)); have dw := HR2.out.c.2.2.2.1; clear hb2 cw) | (go_at_call 42; refine (rcloses_any 512 91 _ _ HR2.out (by omega) hll hol hob hlt (by decide)).mono ?_; rintro e w3 ⟨rfl, vo3, vl3, hr3, hj3⟩; have HR3 := hid hr3; have HJ3 := hid (HJ2.out.trans hj3); clear hr3 hj3) | fail)
      go_ret
      rw [HV.out]
      exact .of rfl HR3.out HJ3.out
    · rw [if_neg c1] at hV
      have HV := hid hV
      have q1 : ((P : Int) == 93) = false := by simp; omega
      clear hV c1 hltof hob
      go_enter Tryd.func30, Tryd.ntmps30
      go_wp2_with (first | (go_at_call 29; refine (rspace_any r w HH.out (by omega)).mono ?_; rintro e w1 ⟨rfl, vo1, vl1, hr1, hj1⟩; have HR1 := hid hr1; have HJ1 := hid hj1; have cw := hr1.c.2.2.2.1; clear hr1 hj1) | (go_at_call 41; refine (rpeek_any _ _ HR1.out (by omega)).mono ?_; rintro e w2 ⟨rfl, hb2⟩; rw [show pkR bs ({ r with at_ := spR bs r.at_ } : RS).at_ = P from HP.out]; have HR2 := hid (HR1.out.below hb2); have HJ2 := hid (HJ1.out.trans (JStep.of_below hb2)); have dw := HR2.out.c.2.2.2.1; clear hb2 cw) | (go_at_call 43; refine (rvalue_any _ _ HR2.out hm hll hol).mono ?_; rintro e w3 ⟨rfl, vo3, vl3, hr3, hj3⟩; have HR3 := hid hr3; have HJ3 := hid (HJ2.out.trans hj3); clear hr3 hj3) | fail)
      go_ret
      rw [HV.out]
      exact .of rfl HR3.out HJ3.out
  · rw [if_neg w1] at hV
    have a1 : ((r.want : Int) == 1) = false := by simp; omega
    by_cases w2 : r.want = 2
    · rw [if_pos w2] at hV
      have HV := hid hV
      have a2 : ((r.want : Int) == 2) = true := by simp; omega
      clear hV w1 w2 hltof hob hne4
      go_enter Tryd.func30, Tryd.ntmps30
      go_wp2_with (first | (go_at_call 29; refine (rspace_any r w HH.out (by omega)).mono ?_; rintro e w1 ⟨rfl, vo1, vl1, hr1, hj1⟩; have HR1 := hid hr1; have HJ1 := hid hj1; have cw := hr1.c.2.2.2.1; clear hr1 hj1) | (go_at_call 41; refine (rpeek_any _ _ HR1.out (by omega)).mono ?_; rintro e w2 ⟨rfl, hb2⟩; rw [show pkR bs ({ r with at_ := spR bs r.at_ } : RS).at_ = P from HP.out]; have HR2 := hid (HR1.out.below hb2); have HJ2 := hid (HJ1.out.trans (JStep.of_below hb2)); have dw := HR2.out.c.2.2.2.1; clear hb2 cw) | (go_at_call 44; refine (rname_any _ _ HR2.out hm hll).mono ?_; rintro e w3 ⟨rfl, vo3, vl3, hr3, hj3⟩; have HR3 := hid hr3; have HJ3 := hid (HJ2.out.trans hj3); clear hr3 hj3) | fail)
      go_ret
      rw [HV.out]
      exact .of rfl HR3.out HJ3.out
    · rw [if_neg w2] at hV
      have a2 : ((r.want : Int) == 2) = false := by simp; omega
      by_cases w3 : r.want = 3
      · rw [if_pos w3] at hV
        have a3 : ((r.want : Int) == 3) = true := by simp; omega
        clear w1 w2 w3 hne4
        by_cases c1 : P = 125
        · have hlt := hltof (by omega)
          rw [if_pos c1] at hV
          have HV := hid hV
          have q1 : ((P : Int) == 125) = true := by simp; omega
          clear hV c1 hltof
          go_enter Tryd.func30, Tryd.ntmps30
          go_wp2_with (first | (go_at_call 29; refine (rspace_any r w HH.out (by omega)).mono ?_; rintro e w1 ⟨rfl, vo1, vl1, hr1, hj1⟩; have HR1 := hid hr1; have HJ1 := hid hj1; have cw := hr1.c.2.2.2.1; clear hr1 hj1) | (go_at_call 41; refine (rpeek_any _ _ HR1.out (by omega)).mono ?_; rintro e w2 ⟨rfl, hb2⟩; rw [show pkR bs ({ r with at_ := spR bs r.at_ } : RS).at_ = P from HP.out]; have HR2 := hid (HR1.out.below hb2); have HJ2 := hid (HJ1.out.trans (JStep.of_below hb2)); have dw := HR2.out.c.2.2.2.1; clear hb2 cw) | (go_at_call 42; refine (rcloses_any 128 123 _ _ HR2.out (by omega) hll hol hob hlt (by decide)).mono ?_; rintro e w3 ⟨rfl, vo3, vl3, hr3, hj3⟩; have HR3 := hid hr3; have HJ3 := hid (HJ2.out.trans hj3); clear hr3 hj3) | fail)
          go_ret
          rw [HV.out]
          exact .of rfl HR3.out HJ3.out
        · rw [if_neg c1] at hV
          have HV := hid hV
          have q1 : ((P : Int) == 125) = false := by simp; omega
          clear hV c1 hltof hob
          go_enter Tryd.func30, Tryd.ntmps30
          go_wp2_with (first | (go_at_call 29; refine (rspace_any r w HH.out (by omega)).mono ?_; rintro e w1 ⟨rfl, vo1, vl1, hr1, hj1⟩; have HR1 := hid hr1; have HJ1 := hid hj1; have cw := hr1.c.2.2.2.1; clear hr1 hj1) | (go_at_call 41; refine (rpeek_any _ _ HR1.out (by omega)).mono ?_; rintro e w2 ⟨rfl, hb2⟩; rw [show pkR bs ({ r with at_ := spR bs r.at_ } : RS).at_ = P from HP.out]; have HR2 := hid (HR1.out.below hb2); have HJ2 := hid (HJ1.out.trans (JStep.of_below hb2)); have dw := HR2.out.c.2.2.2.1; clear hb2 cw) | (go_at_call 44; refine (rname_any _ _ HR2.out hm hll).mono ?_; rintro e w3 ⟨rfl, vo3, vl3, hr3, hj3⟩; have HR3 := hid hr3; have HJ3 := hid (HJ2.out.trans hj3); clear hr3 hj3) | fail)
          go_ret
          rw [HV.out]
          exact .of rfl HR3.out HJ3.out
      · rw [if_neg w3] at hV
        have a3 : ((r.want : Int) == 3) = false := by simp; omega
        by_cases w4 : r.want = 4
        · rw [if_pos w4] at hV
          have HV := hid hV
          have a4 : ((r.want : Int) == 4) = true := by simp; omega
          have hne := hne4 w4
          clear hV w1 w2 w3 w4 hltof hne4
          go_enter Tryd.func30, Tryd.ntmps30
          go_wp2_with (first | (go_at_call 29; refine (rspace_any r w HH.out (by omega)).mono ?_; rintro e w1 ⟨rfl, vo1, vl1, hr1, hj1⟩; have HR1 := hid hr1; have HJ1 := hid hj1; have cw := hr1.c.2.2.2.1; clear hr1 hj1) | (go_at_call 41; refine (rpeek_any _ _ HR1.out (by omega)).mono ?_; rintro e w2 ⟨rfl, hb2⟩; rw [show pkR bs ({ r with at_ := spR bs r.at_ } : RS).at_ = P from HP.out]; have HR2 := hid (HR1.out.below hb2); have HJ2 := hid (HJ1.out.trans (JStep.of_below hb2)); have dw := HR2.out.c.2.2.2.1; clear hb2 cw) | (go_at_call 45; rw [← HP.out]; refine (rmore_any { r with at_ := spR bs r.at_ } _ HR2.out hm hll hol hob hne).mono ?_; rintro e w3 ⟨rfl, vo3, vl3, hr3, hj3⟩; have HR3 := hid hr3; have HJ3 := hid (HJ2.out.trans hj3); clear hr3 hj3) | fail)
          go_ret
          rw [HV.out]
          exact .of rfl HR3.out HJ3.out
        · rw [if_neg w4] at hV
          have HV := hid hV
          have a4 : ((r.want : Int) == 4) = false := by simp; omega
          clear hV w1 w2 w3 w4 hltof hob hne4
          go_enter Tryd.func30, Tryd.ntmps30
          go_wp2_with (first | (go_at_call 29; refine (rspace_any r w HH.out (by omega)).mono ?_; rintro e w1 ⟨rfl, vo1, vl1, hr1, hj1⟩; have HR1 := hid hr1; have HJ1 := hid hj1; have cw := hr1.c.2.2.2.1; clear hr1 hj1) | (go_at_call 41; refine (rpeek_any _ _ HR1.out (by omega)).mono ?_; rintro e w2 ⟨rfl, hb2⟩; rw [show pkR bs ({ r with at_ := spR bs r.at_ } : RS).at_ = P from HP.out]; have HR2 := hid (HR1.out.below hb2); have HJ2 := hid (HJ1.out.trans (JStep.of_below hb2)); have dw := HR2.out.c.2.2.2.1; clear hb2 cw) | (go_at_call 43; refine (rvalue_any _ _ HR2.out hm hll hol).mono ?_; rintro e w3 ⟨rfl, vo3, vl3, hr3, hj3⟩; have HR3 := hid hr3; have HJ3 := hid (HJ2.out.trans hj3); clear hr3 hj3) | fail)
          go_ret
          rw [HV.out]
          exact .of rfl HR3.out HJ3.out
end Go.Proofs.YtjkmmhnhhiopiaaDoor

namespace Go.Proofs.YtjkmmhnhhiopiaaDoor

def stR (o : List Nat) : List Nat := o.map fun x => if x = 123 then 64 else 256
theorem stR_snoc (o : List Nat) (x : Nat) : stR (o ++ [x]) = stR o ++ [if x = 123 then 64 else 256] := by simp [stR]
theorem stR_nil (o : List Nat) : stR o = [] ↔ o = [] := by simp [stR]
theorem stR_last (o : List Nat) : (stR o).getLast? = o.getLast?.map fun x => if x = 123 then 64 else 256 := by unfold stR; rw [List.getLast?_map]
theorem stR_drop (o : List Nat) : (stR o).dropLast = stR o.dropLast := by unfold stR; rw [List.map_dropLast]
def toTKR (t : JT) : TK := ⟨t.kind, t.pos, t.raw, t.tru, t.str⟩
abbrev VEnd (n : Nat) : Prop := n = 2 ∨ n = 4 ∨ n = 8 ∨ n = 16 ∨ n = 128 ∨ n = 512
theorem goR_add (bs : List UInt8) (n m : Nat) : goN bs n m = goN bs (n + m) 0 := by unfold goN; rw [Nat.add_zero]
theorem wsR_drop : ∀ l : List UInt8, wsN (l.drop (wsN l)) = 0
  | [] => rfl
  | c :: l => by
    cases h : wsC c with
    | false => rw [wsN_cons, h]; simp only [Bool.false_eq_true, if_false, List.drop_zero]; rw [wsN_cons, h]; try rfl
    | true => rw [wsN_cons, h, if_pos rfl, List.drop_succ_cons, wsR_drop l]
theorem goR_idem (bs : List UInt8) (n : Nat) : goN bs (goN bs n 0) 0 = goN bs n 0 := by
  unfold goN
  rw [Nat.add_zero, Nat.add_zero, ← List.drop_drop, wsR_drop, Nat.add_zero]
theorem spR_go (bs : List UInt8) (n : Nat) : spR bs n = goN bs n 0 := by unfold spR goN; rw [Nat.add_zero]

structure RelR (bs : List UInt8) (s : DS) (r : RS) : Prop where
  peeked : s.peeked = false
  bad : s.bad = false
  le : s.k ≤ bs.length
  ale : r.at_ ≤ bs.length
  pos : goN bs s.k 0 = goN bs r.at_ 0
  st : s.st = stR r.opn
  opn : ∀ x ∈ r.opn, x = 123 ∨ x = 91
  told : r.told = 0
  want : (r.want = 0 ∧ valN s.st s.tok.kind = true ∧ (s.tok.kind = 0 ∨ s.tok.kind = 32) ∧ (s.st = [] → goN bs s.k 0 < bs.length)) ∨ (r.want = 1 ∧ s.st.getLast? = some 256 ∧ s.tok.kind = 256) ∨ (r.want = 3 ∧ s.st.getLast? = some 64 ∧ s.tok.kind = 64) ∨
    (r.want = 4 ∧ s.st ≠ [] ∧ VEnd s.tok.kind) ∨ (r.want = 5 ∧ s.st = [] ∧ VEnd s.tok.kind)

/-- one step: both tell the same token, or the reference refuses, and so does the package -/
def Step (bs : List UInt8) (s : DS) (r : RS) (x : RS × Bool) : Prop :=
  if x.2 = true then ∃ s', readC bs s = (s', true) ∧ s'.tok.kind ≠ 1 ∧ s'.tok.kind ≠ 1024 ∧ RelR bs s' x.1 ∧ x.1.l.map toTKR = r.l.map toTKR ++ [s'.tok] ∧ r.at_ < x.1.at_
  else x.1.told = 2 ∨ x.1.told = 0 ∧ (readC bs s).2 = false ∧ x.1.l = r.l
theorem Step.ok {bs : List UInt8} {s s' : DS} {r r' : RS} (h1 : readC bs s = (s', true)) (h2 : s'.tok.kind ≠ 1) (h3 : s'.tok.kind ≠ 1024) (h4 : RelR bs s' r') (h5 : r'.l.map toTKR = r.l.map toTKR ++ [s'.tok]) (h6 : r.at_ < r'.at_) : Step bs s r (r', true) := by
  unfold Step; rw [if_pos rfl]; exact ⟨s', h1, h2, h3, h4, h5, h6⟩
theorem Step.no {bs : List UInt8} {s : DS} {r r' : RS} (h : r'.told = 2 ∨ r'.told = 0 ∧ (readC bs s).2 = false ∧ r'.l = r.l) : Step bs s r (r', false) := by
  unfold Step; rw [if_neg (by simp)]; exact h

/-! ### the package's reader, by the kind of the token that comes -/
section
variable {bs : List UInt8} {s : DS} {kd n : Nat} {b : Bool} {t : List UInt8}
theorem readCR_none (h : nextJ (bs.drop (goN bs s.k 0)) = none) : (readC bs s).2 = false := by unfold readC; simp only; rw [h]
def readK (bs : List UInt8) (s : DS) (kd n : Nat) (b : Bool) (t : List UInt8) : DS × Bool :=
    if kd = 1 then (if s.st = [] then (⟨false, ⟨kd, goN bs s.k 0, (bs.drop (goN bs s.k 0)).take n, b, t⟩, s.bad, s.st, goN bs (goN bs s.k 0) n⟩, true) else ({ s with peeked := false, k := goN bs (goN bs s.k 0) n }, false))
    else if kd = 2 ∨ kd = 4 ∨ kd = 8 then (if valN s.st s.tok.kind then (⟨false, ⟨kd, goN bs s.k 0, (bs.drop (goN bs s.k 0)).take n, b, t⟩, s.bad, s.st, goN bs (goN bs s.k 0) n⟩, true) else ({ s with peeked := false, k := goN bs (goN bs s.k 0) n }, false))
    else if kd = 16 then (if valN s.st s.tok.kind then (⟨false, ⟨kd, goN bs s.k 0, (bs.drop (goN bs s.k 0)).take n, b, t⟩, s.bad, s.st, goN bs (goN bs s.k 0) n⟩, true) else if s.tok.kind = 64 ∨ s.tok.kind = 1024 then (match bs.drop (goN bs (goN bs s.k 0) n) with
      | c :: _ => if c.toNat = 58 then (⟨false, ⟨32, goN bs s.k 0, (bs.drop (goN bs s.k 0)).take n, b, t⟩, s.bad, s.st, goN bs (goN bs (goN bs s.k 0) n) 1⟩, true) else ({ s with peeked := false, k := goN bs (goN bs s.k 0) n }, false)
      | [] => ({ s with peeked := false, k := goN bs (goN bs s.k 0) n }, false)) else ({ s with peeked := false, k := goN bs (goN bs s.k 0) n }, false))
    else if kd = 64 ∨ kd = 256 then (if valN s.st s.tok.kind then (⟨false, ⟨kd, goN bs s.k 0, (bs.drop (goN bs s.k 0)).take n, b, t⟩, s.bad, s.st ++ [kd], goN bs (goN bs s.k 0) n⟩, true) else ({ s with peeked := false, k := goN bs (goN bs s.k 0) n }, false))
    else if kd = 128 then (if s.st.getLast? = some 64 ∧ s.tok.kind ≠ 32 ∧ s.tok.kind ≠ 1024 then (⟨false, ⟨kd, goN bs s.k 0, (bs.drop (goN bs s.k 0)).take n, b, t⟩, s.bad, s.st.dropLast, goN bs (goN bs s.k 0) n⟩, true) else ({ s with peeked := false, k := goN bs (goN bs s.k 0) n }, false))
    else if kd = 512 then (if s.st.getLast? = some 256 ∧ s.tok.kind ≠ 1024 then (⟨false, ⟨kd, goN bs s.k 0, (bs.drop (goN bs s.k 0)).take n, b, t⟩, s.bad, s.st.dropLast, goN bs (goN bs s.k 0) n⟩, true) else ({ s with peeked := false, k := goN bs (goN bs s.k 0) n }, false))
    else (if s.st ≠ [] ∧ VEnd s.tok.kind then (⟨false, ⟨kd, goN bs s.k 0, (bs.drop (goN bs s.k 0)).take n, b, t⟩, s.bad, s.st, goN bs (goN bs s.k 0) n⟩, true) else ({ s with peeked := false, k := goN bs (goN bs s.k 0) n }, false))
theorem readC_some1 (h : nextJ (bs.drop (goN bs s.k 0)) = some (kd, n, b, t)) : readC bs s = readK bs s kd n b t := by
  unfold readC; simp only; rw [h]; try rfl
theorem readC_leaf (h : nextJ (bs.drop (goN bs s.k 0)) = some (kd, n, b, t)) (hk : kd = 2 ∨ kd = 4 ∨ kd = 8 ∨ kd = 16) (hv : valN s.st s.tok.kind = true) :
    readC bs s = (⟨false, ⟨kd, goN bs s.k 0, (bs.drop (goN bs s.k 0)).take n, b, t⟩, s.bad, s.st, goN bs (goN bs s.k 0) n⟩, true) := by
  rw [readC_some1 h]
  unfold readK
  rw [if_neg (by omega)]
  by_cases h16 : kd = 16
  · subst h16
    rw [if_neg (by decide), if_pos rfl, if_pos hv]
  · rw [if_pos (by omega), if_pos hv]
theorem readC_opens (h : nextJ (bs.drop (goN bs s.k 0)) = some (kd, n, b, t)) (hk : kd = 64 ∨ kd = 256) (hv : valN s.st s.tok.kind = true) :
    readC bs s = (⟨false, ⟨kd, goN bs s.k 0, (bs.drop (goN bs s.k 0)).take n, b, t⟩, s.bad, s.st ++ [kd], goN bs (goN bs s.k 0) n⟩, true) := by
  rw [readC_some1 h]
  unfold readK
  rw [if_neg (by omega), if_neg (by omega), if_neg (by omega), if_pos hk, if_pos hv]
theorem readC_closes (h : nextJ (bs.drop (goN bs s.k 0)) = some (kd, n, b, t)) (hk : kd = 128 ∧ s.st.getLast? = some 64 ∧ s.tok.kind ≠ 32 ∧ s.tok.kind ≠ 1024 ∨ kd = 512 ∧ s.st.getLast? = some 256 ∧ s.tok.kind ≠ 1024) :
    readC bs s = (⟨false, ⟨kd, goN bs s.k 0, (bs.drop (goN bs s.k 0)).take n, b, t⟩, s.bad, s.st.dropLast, goN bs (goN bs s.k 0) n⟩, true) := by
  rw [readC_some1 h]
  unfold readK
  rcases hk with ⟨rfl, hk⟩ | ⟨rfl, hk⟩
  · rw [if_neg (by decide), if_neg (by decide), if_neg (by decide), if_neg (by decide), if_pos rfl, if_pos hk]
  · rw [if_neg (by decide), if_neg (by decide), if_neg (by decide), if_neg (by decide), if_neg (by decide), if_pos rfl, if_pos hk]
theorem readC_comma (h : nextJ (bs.drop (goN bs s.k 0)) = some (1024, n, b, t)) (hst : s.st ≠ []) (hv : VEnd s.tok.kind) :
    readC bs s = (⟨false, ⟨1024, goN bs s.k 0, (bs.drop (goN bs s.k 0)).take n, b, t⟩, s.bad, s.st, goN bs (goN bs s.k 0) n⟩, true) := by
  rw [readC_some1 h]
  unfold readK
  rw [if_neg (by decide), if_neg (by decide), if_neg (by decide), if_neg (by decide), if_neg (by decide), if_neg (by decide), if_pos ⟨hst, hv⟩]
theorem readC_end (h : nextJ (bs.drop (goN bs s.k 0)) = some (1, n, b, t)) (hst : s.st = []) : (readC bs s).2 = true ∧ (readC bs s).1.tok.kind = 1 := by
  rw [readC_some1 h]
  unfold readK
  rw [if_pos rfl, if_pos hst]
  exact ⟨rfl, rfl⟩
/-- a token that may not come here -/
theorem readC_fail (h : nextJ (bs.drop (goN bs s.k 0)) = some (kd, n, b, t)) (h1 : kd = 1 → s.st ≠ []) (h2 : kd = 2 ∨ kd = 4 ∨ kd = 8 ∨ kd = 16 ∨ kd = 64 ∨ kd = 256 → valN s.st s.tok.kind = false)
    (h3 : kd = 16 → (s.tok.kind = 64 ∨ s.tok.kind = 1024) → ∀ c r, bs.drop (goN bs (goN bs s.k 0) n) = c :: r → c.toNat ≠ 58)
    (h4 : kd = 128 → ¬ (s.st.getLast? = some 64 ∧ s.tok.kind ≠ 32 ∧ s.tok.kind ≠ 1024)) (h5 : kd = 512 → ¬ (s.st.getLast? = some 256 ∧ s.tok.kind ≠ 1024))
    (h6 : kd = 1024 → ¬ (s.st ≠ [] ∧ VEnd s.tok.kind)) : (readC bs s).2 = false := by
  have hok := (nextJ_ok h).2
  rw [readC_some1 h]
  unfold readK
  by_cases c1 : kd = 1
  · rw [if_pos c1, if_neg (h1 c1)]
  · rw [if_neg c1]
    by_cases c2 : kd = 2 ∨ kd = 4 ∨ kd = 8
    · rw [if_pos c2, if_neg (by rw [h2 (by omega)]; simp)]
    · rw [if_neg c2]
      by_cases c3 : kd = 16
      · rw [if_pos c3, if_neg (by rw [h2 (by omega)]; simp)]
        by_cases c4 : s.tok.kind = 64 ∨ s.tok.kind = 1024
        · rw [if_pos c4]
          rcases hd : bs.drop (goN bs (goN bs s.k 0) n) with _ | ⟨c, r⟩
          · rfl
          · simp only
            rw [if_neg (h3 c3 c4 c r hd)]
        · rw [if_neg c4]
      · rw [if_neg c3]
        by_cases c4 : kd = 64 ∨ kd = 256
        · rw [if_pos c4, if_neg (by rw [h2 (by omega)]; simp)]
        · rw [if_neg c4]
          by_cases c5 : kd = 128
          · rw [if_pos c5, if_neg (h4 c5)]
          · rw [if_neg c5]
            by_cases c6 : kd = 512
            · rw [if_pos c6, if_neg (h5 c6)]
            · rw [if_neg c6, if_neg (h6 (by omega))]
theorem readC_name (h : nextJ (bs.drop (goN bs s.k 0)) = some (16, n, b, t)) (hv : valN s.st s.tok.kind = false) (hl : s.tok.kind = 64 ∨ s.tok.kind = 1024) {c : UInt8} {r : List UInt8} (hc : bs.drop (goN bs (goN bs s.k 0) n) = c :: r) (h58 : c.toNat = 58) :
    readC bs s = (⟨false, ⟨32, goN bs s.k 0, (bs.drop (goN bs s.k 0)).take n, b, t⟩, s.bad, s.st, goN bs (goN bs (goN bs s.k 0) n) 1⟩, true) := by
  rw [readC_some1 h]
  unfold readK
  rw [if_neg (by decide), if_neg (by decide), if_pos rfl, if_neg (by rw [hv]; simp), if_pos hl, hc]
  simp only
  rw [if_pos h58]
end

/-! ### a value -/
theorem rel_behind {bs : List UInt8} {r : RS} {kd n p : Nat} {b : Bool} {str : List UInt8} {bad : Bool} {st : List Nat} (hb : bad = false) (hp : p = r.at_) (hle : r.at_ + n ≤ bs.length) (hst : st = stR r.opn) (ho : ∀ x ∈ r.opn, x = 123 ∨ x = 91) (ht : r.told = 0) (hv : VEnd kd) :
    RelR bs ⟨false, ⟨kd, p, (bs.drop p).take n, b, str⟩, bad, st, goN bs p n⟩ (behR (addR bs kd str b n r)) := by
  subst hp
  refine ⟨rfl, hb, (goN_le hle).2, hle, ?_, hst, ho, ht, ?_⟩
  · show goN bs (goN bs r.at_ n) 0 = goN bs (r.at_ + n) 0
    rw [goR_add bs r.at_ n, goR_idem]
  · show ((if r.opn = [] then 5 else 4) = 0 ∧ _) ∨ ((if r.opn = [] then 5 else 4) = 1 ∧ _) ∨ ((if r.opn = [] then 5 else 4) = 3 ∧ _) ∨ ((if r.opn = [] then 5 else 4) = 4 ∧ _) ∨ ((if r.opn = [] then 5 else 4) = 5 ∧ _)
    by_cases h0 : r.opn = []
    · rw [if_pos h0]; exact .inr (.inr (.inr (.inr ⟨rfl, by show st = []; rw [hst, h0]; try rfl, hv⟩)))
    · rw [if_neg h0]; exact .inr (.inr (.inr (.inl ⟨rfl, by show st ≠ []; rw [hst]; exact fun e => h0 ((stR_nil _).1 e), hv⟩)))
section
variable {bs : List UInt8} {s : DS} {r : RS}
/-- a value of one token -/
theorem leaf_step {kd n : Nat} {b : Bool} {t : List UInt8} (hb : s.bad = false) (hk : goN bs s.k 0 = r.at_) (hal : r.at_ ≤ bs.length) (hst : s.st = stR r.opn) (ho : ∀ x ∈ r.opn, x = 123 ∨ x = 91) (ht : r.told = 0)
    (hv : valN s.st s.tok.kind = true) (h : nextJ (bs.drop r.at_) = some (kd, n, b, t)) (hkd : kd = 2 ∨ kd = 4 ∨ kd = 8 ∨ kd = 16) : Step bs s r (behR (addR bs kd t b n r), true) := by
  have hok := nextJ_ok h
  simp only [List.length_drop] at hok
  rw [← hk] at h
  refine Step.ok (readC_leaf h hkd hv) (by show kd ≠ 1; omega) (by show kd ≠ 1024; omega) (rel_behind hb hk (by omega) hst ho ht (by unfold VEnd; omega)) ?_ ?_
  · show (r.l ++ [_]).map toTKR = _
    rw [List.map_append, hk]; try rfl
  · show r.at_ < r.at_ + n; omega
theorem opens_step {kd x w : Nat} (hb : s.bad = false) (hk : goN bs s.k 0 = r.at_) (hal : r.at_ < bs.length) (hst : s.st = stR r.opn) (ho : ∀ x ∈ r.opn, x = 123 ∨ x = 91) (ht : r.told = 0)
    (hv : valN s.st s.tok.kind = true) (h : nextJ (bs.drop r.at_) = some (kd, 1, false, [])) (hx : pkR bs r.at_ = x) (hkd : kd = 64 ∧ x = 123 ∧ w = 3 ∨ kd = 256 ∧ x = 91 ∧ w = 1) : Step bs s r (opensR bs kd w r) := by
  rw [← hk] at h
  have hxx : (if x = 123 then 64 else 256) = kd := by rcases hkd with ⟨rfl, rfl, _⟩ | ⟨rfl, rfl, _⟩ <;> rfl
  unfold opensR
  refine Step.ok (readC_opens h (by omega) hv) (by show kd ≠ 1; omega) (by show kd ≠ 1024; omega) ?_ ?_ ?_
  · refine ⟨rfl, hb, ?_, ?_, ?_, ?_, ?_, ht, ?_⟩
    · show goN bs (goN bs s.k 0) 1 ≤ bs.length
      rw [hk]; exact (goN_le (by omega)).2
    · show r.at_ + 1 ≤ bs.length; omega
    · show goN bs (goN bs (goN bs s.k 0) 1) 0 = goN bs (r.at_ + 1) 0
      rw [hk, goR_add bs r.at_ 1, goR_idem]
    · show s.st ++ [kd] = stR (r.opn ++ [pkR bs r.at_])
      rw [stR_snoc, hst, hx, hxx]
    · show ∀ y ∈ r.opn ++ [pkR bs r.at_], y = 123 ∨ y = 91
      intro y hy
      rw [List.mem_append, List.mem_singleton] at hy
      rcases hy with hy | hy
      · exact ho y hy
      · omega
    · show (w = 0 ∧ _) ∨ (w = 1 ∧ (s.st ++ [kd]).getLast? = some 256 ∧ kd = 256) ∨ (w = 3 ∧ (s.st ++ [kd]).getLast? = some 64 ∧ kd = 64) ∨ _
      rcases hkd with ⟨rfl, rfl, rfl⟩ | ⟨rfl, rfl, rfl⟩
      · exact .inr (.inr (.inl ⟨rfl, by simp, rfl⟩))
      · exact .inr (.inl ⟨rfl, by simp, rfl⟩)
  · show (r.l ++ [_]).map toTKR = _
    rw [List.map_append, hk]; try rfl
  · show r.at_ < r.at_ + 1; omega
theorem pk_cons {c : UInt8} {l : List UInt8} {k : Nat} (h : bs.drop k = c :: l) : pkR bs k = c.toNat := by unfold pkR; rw [h]
theorem lt_of_drop {c : UInt8} {l : List UInt8} {k : Nat} (h : bs.drop k = c :: l) : k < bs.length := by
  have := congrArg List.length h
  simp at this; omega
theorem valN_kinds {st : List Nat} {last : Nat} (h : valN st last = true) (_hl : last = 0 ∨ last = 32 ∨ last = 256 ∨ last = 1024) :
    st = [] ∧ last = 0 ∨ st.getLast? = some 64 ∧ last = 32 ∨ (∃ x, st.getLast? = some x ∧ x ≠ 64) ∧ (last = 256 ∨ last = 1024) := by
  unfold valN at h
  rcases hg : st.getLast? with _ | x
  · rw [hg] at h
    simp at h
    exact .inl ⟨List.getLast?_eq_none_iff.1 hg, h⟩
  · rw [hg] at h
    simp only at h
    by_cases hx : x = 64
    · rw [if_pos hx] at h; simp at h; exact .inr (.inl ⟨by rw [hx], h⟩)
    · rw [if_neg hx] at h
      simp at h
      exact .inr (.inr ⟨⟨x, rfl, hx⟩, by omega⟩)
/-- what may not come where a value is to come -/
theorem value_fail {kd n : Nat} {b : Bool} {t : List UInt8} (hv : valN s.st s.tok.kind = true) (hl : s.tok.kind = 0 ∨ s.tok.kind = 32 ∨ s.tok.kind = 256 ∨ s.tok.kind = 1024)
    (h : nextJ (bs.drop (goN bs s.k 0)) = some (kd, n, b, t)) (hkd : kd = 1 ∨ kd = 128 ∨ kd = 512 ∨ kd = 1024) (h1 : kd = 1 → s.st ≠ []) (h93 : kd = 512 → s.tok.kind ≠ 256) : (readC bs s).2 = false := by
  have hc := valN_kinds hv hl
  refine readC_fail h h1 (fun h => by clear hc; omega) (fun h => by clear hc; omega) (fun h4 => ?_) (fun h5 => ?_) (fun h6 => ?_)
  · rintro ⟨e1, e2, e3⟩
    rcases hc with ⟨c1, _⟩ | ⟨_, c2⟩ | ⟨⟨x, c3, c4⟩, _⟩
    · rw [c1] at e1; cases e1
    · exact e2 c2
    · rw [c3] at e1; injection e1 with e1; exact c4 e1
  · rintro ⟨e1, e2⟩
    have := h93 h5
    rcases hc with ⟨c1, _⟩ | ⟨c1, c2⟩ | ⟨_, c4⟩
    · rw [c1] at e1; cases e1
    · rw [c1] at e1; injection e1 with e1; omega
    · omega
  · rintro ⟨_, e2⟩
    unfold VEnd at e2
    omega
theorem value_step (hb : s.bad = false) (hk : goN bs s.k 0 = r.at_) (hal : r.at_ ≤ bs.length) (hst : s.st = stR r.opn) (ho : ∀ x ∈ r.opn, x = 123 ∨ x = 91) (ht : r.told = 0)
    (hv : valN s.st s.tok.kind = true) (hl : s.tok.kind = 0 ∨ s.tok.kind = 32 ∨ s.tok.kind = 256 ∨ s.tok.kind = 1024) (h93 : s.tok.kind = 256 → pkR bs r.at_ ≠ 93) (hne : s.st = [] → r.at_ < bs.length) : Step bs s r (valueR bs r) := by
  rcases hd : bs.drop r.at_ with _ | ⟨c, l⟩
  · have hp : pkR bs r.at_ = 0 := by unfold pkR; rw [hd]
    unfold valueR
    rw [hp, if_neg (by decide), if_neg (by decide), if_neg (by decide), if_neg (by decide), if_neg (by decide), if_neg (by decide)]
    unfold numR
    rw [hd, if_pos (.inl rfl)]
    refine Step.no (.inr ⟨by simpa [halfR] using ht, ?_, rfl⟩)
    refine value_fail hv hl (kd := 1) (n := 0) (b := false) (t := []) (by rw [hk, hd]; try rfl) (.inl rfl) (fun _ e => ?_) (fun h => by cases h)
    have := hne e
    have := congrArg List.length hd
    simp at this; omega
  · have hp := pk_cons hd
    have hlt := lt_of_drop hd
    unfold valueR
    rw [hp]
    have hnx := nextJ_cons c l
    by_cases c1 : c.toNat = 123
    · rw [if_pos c1]
      rw [if_neg (by omega), if_neg (by omega), if_neg (by omega), if_neg (by unfold isDg; simp; omega), if_neg (by omega), if_pos c1, ← hd] at hnx
      exact opens_step hb hk hlt hst ho ht hv hnx hp (.inl ⟨rfl, c1, rfl⟩)
    · rw [if_neg c1]
      by_cases c2 : c.toNat = 91
      · rw [if_pos c2]
        rw [if_neg (by omega), if_neg (by omega), if_neg (by omega), if_neg (by unfold isDg; simp; omega), if_neg (by omega), if_neg c1, if_neg (by omega), if_pos c2, ← hd] at hnx
        exact opens_step hb hk hlt hst ho ht hv hnx hp (.inr ⟨rfl, c2, rfl⟩)
      · rw [if_neg c2]
        by_cases c3 : c.toNat = 34
        · rw [if_pos c3]
          rw [if_neg (by omega), if_neg (by omega), if_neg (by omega), if_neg (by unfold isDg; simp; omega), if_pos c3, ← hd] at hnx
          have hs := jstr_same (bs.drop r.at_)
          unfold quoR
          rcases hj : jstrR (bs.drop r.at_) with k | ⟨t, n⟩
          · rw [hj] at hs
            simp only at hs ⊢
            refine Step.no ?_
            rcases hs with rfl | ⟨rfl, hs⟩
            · exact .inl rfl
            · rw [hs] at hnx
              exact .inr ⟨rfl, readCR_none (by rw [hk]; exact hnx), rfl⟩
          · rw [hj] at hs
            simp only at hs ⊢
            rw [hs] at hnx
            exact leaf_step hb hk hal hst ho ht hv hnx (by omega)
        · rw [if_neg c3]
          have word : ∀ {w : List UInt8} {kd : Nat} {tru : Bool}, (kd = 2 ∨ kd = 4) → nextJ (c :: l) = (if wordD w (c :: l) then some (kd, w.length, tru, []) else none) → Step bs s r (wordR bs w kd tru r) := by
            intro w kd tru hkd hw
            unfold wordR
            rw [← hd] at hw
            cases hwd : wordD w (bs.drop r.at_) with
            | true =>
              rw [if_pos rfl]
              rw [hwd, if_pos rfl] at hw
              exact leaf_step hb hk hal hst ho ht hv hw (by omega)
            | false =>
              rw [if_neg (by simp)]
              rw [hwd, if_neg (by simp)] at hw
              exact Step.no (.inr ⟨ht, readCR_none (by rw [hk]; exact hw), rfl⟩)
          by_cases c4 : c.toNat = 110
          · rw [if_pos c4]
            rw [if_pos c4] at hnx
            exact word (.inl rfl) hnx
          · rw [if_neg c4]
            rw [if_neg c4] at hnx
            by_cases c5 : c.toNat = 116
            · rw [if_pos c5]
              rw [if_pos c5] at hnx
              exact word (.inr rfl) hnx
            · rw [if_neg c5]
              rw [if_neg c5] at hnx
              by_cases c6 : c.toNat = 102
              · rw [if_pos c6]
                rw [if_pos c6] at hnx
                exact word (.inr rfl) hnx
              · rw [if_neg c6]
                rw [if_neg c6] at hnx
                have hn := num_same (c :: l)
                unfold numR
                rw [hd]
                by_cases hz : jnumR (c :: l) = 0 ∨ endN (c :: l) (jnumR (c :: l)) = false
                · rw [if_pos hz]
                  rw [if_pos hz] at hn
                  refine Step.no ?_
                  cases hh : halfR (c :: l) with
                  | true => exact .inl (by simp)
                  | false =>
                    rw [hh] at hn
                    replace hn : numJ (c :: l) = none := by simpa using hn
                    refine .inr ⟨by simpa using ht, ?_, rfl⟩
                    by_cases c7 : c.toNat = 45 ∨ isDg c = true
                    · rw [if_pos c7, hn, ← hd] at hnx
                      exact readCR_none (by rw [hk]; exact hnx)
                    · rw [if_neg c7, if_neg c3, if_neg c1] at hnx
                      by_cases c8 : c.toNat = 125
                      · rw [if_pos c8, ← hd, ← hk] at hnx
                        exact value_fail hv hl hnx (by omega) (fun h => by omega) (fun h => by omega)
                      · rw [if_neg c8, if_neg c2] at hnx
                        by_cases c9 : c.toNat = 93
                        · rw [if_pos c9, ← hd, ← hk] at hnx
                          exact value_fail hv hl hnx (by omega) (fun h => by omega) (fun _ e => h93 e (by rw [hp, c9]))
                        · rw [if_neg c9] at hnx
                          by_cases c10 : c.toNat = 44
                          · rw [if_pos c10, ← hd, ← hk] at hnx
                            exact value_fail hv hl hnx (by omega) (fun h => by omega) (fun h => by omega)
                          · rw [if_neg c10, ← hd, ← hk] at hnx
                            exact readCR_none hnx
                · rw [if_neg hz]
                  rw [if_neg hz] at hn
                  obtain ⟨c', r', he, hc7⟩ := num_head hn
                  injection he with he _
                  subst he
                  rw [if_pos hc7, hn] at hnx
                  rw [← hd] at hnx
                  rw [← hd]
                  exact leaf_step hb hk hal hst ho ht hv hnx (by omega)

/-! ### a name, an end, what stands behind a value -/
theorem nextJ_kind {c : UInt8} {l : List UInt8} {kd n : Nat} {b : Bool} {t : List UInt8} (h : nextJ (c :: l) = some (kd, n, b, t)) :
    (kd = 16 → c.toNat = 34) ∧ (kd = 128 → c.toNat = 125) ∧ (kd = 512 → c.toNat = 93) ∧ (kd = 1024 → c.toNat = 44) ∧ kd ≠ 1 := by
  rw [nextJ_cons] at h
  by_cases c1 : c.toNat = 110
  · rw [if_pos c1] at h
    split at h
    · simp only [Option.some.injEq, Prod.mk.injEq] at h; omega
    · cases h
  · rw [if_neg c1] at h
    by_cases c2 : c.toNat = 116
    · rw [if_pos c2] at h
      split at h
      · simp only [Option.some.injEq, Prod.mk.injEq] at h; omega
      · cases h
    · rw [if_neg c2] at h
      by_cases c3 : c.toNat = 102
      · rw [if_pos c3] at h
        split at h
        · simp only [Option.some.injEq, Prod.mk.injEq] at h; omega
        · cases h
      · rw [if_neg c3] at h
        by_cases c4 : c.toNat = 45 ∨ isDg c = true
        · rw [if_pos c4] at h
          rcases hn : numJ (c :: l) with _ | m
          · rw [hn] at h; cases h
          · rw [hn] at h; simp only [Option.some.injEq, Prod.mk.injEq] at h; omega
        · rw [if_neg c4] at h
          by_cases c5 : c.toNat = 34
          · rw [if_pos c5] at h
            rcases hn : strJ (c :: l) with _ | ⟨s, m⟩
            · rw [hn] at h; cases h
            · rw [hn] at h; simp only [Option.some.injEq, Prod.mk.injEq] at h; omega
          · rw [if_neg c5] at h
            by_cases c6 : c.toNat = 123
            · rw [if_pos c6] at h; simp only [Option.some.injEq, Prod.mk.injEq] at h; omega
            · rw [if_neg c6] at h
              by_cases c7 : c.toNat = 125
              · rw [if_pos c7] at h; simp only [Option.some.injEq, Prod.mk.injEq] at h; omega
              · rw [if_neg c7] at h
                by_cases c8 : c.toNat = 91
                · rw [if_pos c8] at h; simp only [Option.some.injEq, Prod.mk.injEq] at h; omega
                · rw [if_neg c8] at h
                  by_cases c9 : c.toNat = 93
                  · rw [if_pos c9] at h; simp only [Option.some.injEq, Prod.mk.injEq] at h; omega
                  · rw [if_neg c9] at h
                    by_cases c10 : c.toNat = 44
                    · rw [if_pos c10] at h; simp only [Option.some.injEq, Prod.mk.injEq] at h; omega
                    · rw [if_neg c10] at h; cases h
theorem pk_some {k x : Nat} (h : pkR bs k = x) (hx : x ≠ 0) : ∃ c l, bs.drop k = c :: l ∧ c.toNat = x := by
  unfold pkR at h
  rcases hd : bs.drop k with _ | ⟨c, l⟩
  · rw [hd] at h; exact absurd h.symm hx
  · rw [hd] at h; exact ⟨c, l, rfl, h⟩
/-- where the token that comes has none of the kinds that may come -/
theorem fail_by (h1 : ∀ n b t, nextJ (bs.drop (goN bs s.k 0)) = some (1, n, b, t) → s.st ≠ []) (h2 : valN s.st s.tok.kind = false)
    (h3 : ∀ n b t, nextJ (bs.drop (goN bs s.k 0)) = some (16, n, b, t) → (s.tok.kind = 64 ∨ s.tok.kind = 1024) → ∀ c r, bs.drop (goN bs (goN bs s.k 0) n) = c :: r → c.toNat ≠ 58)
    (h4 : ∀ n b t, nextJ (bs.drop (goN bs s.k 0)) = some (128, n, b, t) → ¬ (s.st.getLast? = some 64 ∧ s.tok.kind ≠ 32 ∧ s.tok.kind ≠ 1024))
    (h5 : ∀ n b t, nextJ (bs.drop (goN bs s.k 0)) = some (512, n, b, t) → ¬ (s.st.getLast? = some 256 ∧ s.tok.kind ≠ 1024))
    (h6 : ∀ n b t, nextJ (bs.drop (goN bs s.k 0)) = some (1024, n, b, t) → ¬ (s.st ≠ [] ∧ VEnd s.tok.kind)) : (readC bs s).2 = false := by
  rcases hn : nextJ (bs.drop (goN bs s.k 0)) with _ | ⟨kd, n, b, t⟩
  · exact readCR_none hn
  · exact readC_fail hn (fun e => by subst e; exact h1 _ _ _ hn) (fun _ => h2) (fun e => by subst e; exact h3 _ _ _ hn) (fun e => by subst e; exact h4 _ _ _ hn) (fun e => by subst e; exact h5 _ _ _ hn) (fun e => by subst e; exact h6 _ _ _ hn)
theorem name_step (hb : s.bad = false) (hk : goN bs s.k 0 = r.at_) (hst : s.st = stR r.opn) (ho : ∀ x ∈ r.opn, x = 123 ∨ x = 91) (ht : r.told = 0)
    (htop : s.st.getLast? = some 64) (hl : s.tok.kind = 64 ∨ s.tok.kind = 1024) (h125 : s.tok.kind = 64 → pkR bs r.at_ ≠ 125) : Step bs s r (nameR bs r) := by
  have hne : s.st ≠ [] := by intro e; rw [e] at htop; cases htop
  have hv : valN s.st s.tok.kind = false := by unfold valN; rw [htop]; simp; omega
  have fail : (∀ n b t, nextJ (bs.drop (goN bs s.k 0)) = some (16, n, b, t) → ∀ c r, bs.drop (goN bs (goN bs s.k 0) n) = c :: r → c.toNat ≠ 58) → (readC bs s).2 = false := fun h16 =>
    fail_by (fun _ _ _ _ => hne) hv (fun n b t h _ => h16 n b t h)
      (fun n b t h e => by
        rw [hk] at h
        rcases hd : bs.drop r.at_ with _ | ⟨c, l⟩
        · rw [hd] at h; cases h
        · rw [hd] at h
          have := (nextJ_kind h).2.1 rfl
          have hp := pk_cons hd
          rcases hl with hl | hl
          · exact h125 hl (hp.trans this)
          · exact e.2.2 hl)
      (fun n b t h e => by rw [htop] at e; simp at e) (fun n b t h e => by have := e.2; unfold VEnd at this; omega)
  unfold nameR
  by_cases c1 : pkR bs r.at_ = 34
  · rw [if_neg (by omega)]
    obtain ⟨c, l, hd, hc⟩ := pk_some c1 (by decide)
    have hnx := nextJ_cons c l
    rw [if_neg (by omega), if_neg (by omega), if_neg (by omega), if_neg (by unfold isDg; simp; omega), if_pos hc, ← hd] at hnx
    have hs := jstr_same (bs.drop r.at_)
    rcases hj : jstrR (bs.drop r.at_) with k | ⟨t, n⟩
    · rw [hj] at hs
      simp only at hs ⊢
      refine Step.no ?_
      rcases hs with rfl | ⟨rfl, hs⟩
      · exact .inl rfl
      · rw [hs] at hnx
        exact .inr ⟨rfl, readCR_none (by rw [hk]; exact hnx), rfl⟩
    · rw [hj] at hs
      simp only at hs ⊢
      rw [hs] at hnx
      simp only at hnx
      have hle := strJ_le hs
      simp only [List.length_drop] at hle
      have hk2 : goN bs (goN bs s.k 0) n = spR bs (r.at_ + n) := by rw [hk, spR_go, goR_add]
      by_cases c2 : pkR bs (spR bs (r.at_ + n)) = 58
      · rw [if_neg (by omega)]
        obtain ⟨c', l', hd', hc'⟩ := pk_some c2 (by decide)
        have hlt := lt_of_drop hd'
        have hge : r.at_ + n ≤ spR bs (r.at_ + n) := by unfold spR; omega
        have hg3 := goN_le (bs := bs) (k := spR bs (r.at_ + n)) (n := 1) (by omega)
        rw [← hk] at hnx
        have hrd := readC_name hnx hv hl (by rw [hk2]; exact hd') hc'
        rw [hk2] at hrd
        refine Step.ok hrd (by show (32 : Nat) ≠ 1; decide) (by show (32 : Nat) ≠ 1024; decide) ?_ ?_ ?_
        · refine ⟨rfl, hb, hg3.2, by show spR bs (r.at_ + n) + 1 ≤ bs.length; omega, ?_, hst, ho, ht, .inl ⟨rfl, ?_, .inr rfl, fun e => absurd e hne⟩⟩
          · show goN bs (goN bs (spR bs (r.at_ + n)) 1) 0 = goN bs (spR bs (r.at_ + n) + 1) 0
            rw [goR_add bs (spR bs (r.at_ + n)) 1, goR_idem]
          · show valN s.st 32 = true
            unfold valN; rw [htop]; try rfl
        · show (r.l ++ [_]).map toTKR = _
          rw [List.map_append, hk]; try rfl
        · show r.at_ < spR bs (r.at_ + n) + 1; omega
      · rw [if_pos c2]
        refine Step.no (.inr ⟨ht, fail fun n' b' t' h' c' l' hd' hc' => ?_, rfl⟩)
        rw [hk] at h'
        rw [hnx] at h'
        simp only [Option.some.injEq, Prod.mk.injEq] at h'
        obtain ⟨_, rfl, _⟩ := h'
        rw [hk2] at hd'
        exact c2 ((pk_cons hd').trans hc')
  · rw [if_pos c1]
    refine Step.no (.inr ⟨ht, fail fun n b t h => ?_, rfl⟩)
    rw [hk] at h
    rcases hd : bs.drop r.at_ with _ | ⟨c, l⟩
    · rw [hd] at h; cases h
    · rw [hd] at h
      exact absurd ((pk_cons hd).trans ((nextJ_kind h).1 rfl)) c1
theorem closes_step {kd of_ : Nat} {c : UInt8} {l : List UInt8} (hb : s.bad = false) (hk : goN bs s.k 0 = r.at_) (hst : s.st = stR r.opn) (ho : ∀ x ∈ r.opn, x = 123 ∨ x = 91) (ht : r.told = 0)
    (hd : bs.drop r.at_ = c :: l) (hkd : kd = 128 ∧ of_ = 123 ∧ c.toNat = 125 ∧ s.tok.kind ≠ 32 ∧ s.tok.kind ≠ 1024 ∨ kd = 512 ∧ of_ = 91 ∧ c.toNat = 93 ∧ s.tok.kind ≠ 1024) : Step bs s r (closesR bs kd of_ r) := by
  have hlt := lt_of_drop hd
  have hnx : nextJ (bs.drop (goN bs s.k 0)) = some (kd, 1, false, []) := by
    rw [hk, hd, nextJ_cons, if_neg (by omega), if_neg (by omega), if_neg (by omega), if_neg (by unfold isDg; simp; omega), if_neg (by omega), if_neg (by omega)]
    rcases hkd with ⟨rfl, _, hc, _⟩ | ⟨rfl, _, hc, _⟩
    · rw [if_pos hc]
    · rw [if_neg (by omega), if_neg (by omega), if_pos hc]
  have hlast := stR_last r.opn
  rw [← hst] at hlast
  unfold closesR
  by_cases h : r.opn.getLast? = some of_
  · rw [if_pos h]
    rw [h] at hlast
    have hrd := readC_closes hnx (by
      rcases hkd with ⟨rfl, rfl, _, a, b⟩ | ⟨rfl, rfl, _, a⟩
      · exact .inl ⟨rfl, hlast, a, b⟩
      · exact .inr ⟨rfl, hlast, a⟩)
    refine Step.ok hrd (by show kd ≠ 1; omega) (by show kd ≠ 1024; omega) ?_ ?_ ?_
    · exact rel_behind (r := { r with opn := r.opn.dropLast }) hb hk (by show r.at_ + 1 ≤ _; omega) (by show s.st.dropLast = _; rw [hst, stR_drop]) (fun x hx => ho x ((List.dropLast_sublist _).subset hx)) ht (by unfold VEnd; omega)
    · show (r.l ++ [_]).map toTKR = _
      rw [List.map_append, hk]; try rfl
    · show r.at_ < r.at_ + 1; omega
  · rw [if_neg h]
    have key : ∀ {x y : Nat}, s.st.getLast? = some x → r.opn.getLast? = some y → x = if y = 123 then 64 else 256 := by
      intro x y e1 e2
      rw [e2] at hlast
      rw [hlast] at e1
      injection e1 with e1; exact e1.symm
    have hex : ∀ {x : Nat}, s.st.getLast? = some x → ∃ y, r.opn.getLast? = some y ∧ (y = 123 ∨ y = 91) := by
      intro x e
      rcases hg : r.opn.getLast? with _ | y
      · rw [hg] at hlast; rw [hlast] at e; cases e
      · exact ⟨y, rfl, ho y (List.mem_of_getLast? hg)⟩
    refine Step.no (.inr ⟨ht, readC_fail hnx (by omega) (by omega) (by omega) (fun e1 e2 => ?_) (fun e1 e2 => ?_) (by omega), rfl⟩)
    · obtain ⟨y, hy, hy2⟩ := hex e2.1
      have := key e2.1 hy
      rcases hy2 with rfl | rfl
      · exact h (by rw [hy]; congr 1; omega)
      · simp at this
    · obtain ⟨y, hy, hy2⟩ := hex e2.1
      have := key e2.1 hy
      rcases hy2 with rfl | rfl
      · simp at this
      · exact h (by rw [hy]; congr 1; omega)

/-! ### a whole Read -/
def StepF (bs : List UInt8) (s : DS) (r : RS) (x : RS × Bool) : Prop :=
  if x.2 = true then ∃ s', readF bs s = (s', true) ∧ s'.tok.kind ≠ 1 ∧ RelR bs s' x.1 ∧ x.1.l.map toTKR = r.l.map toTKR ++ [s'.tok] ∧ r.at_ < x.1.at_
  else x.1.told = 2 ∨ x.1.told = 0 ∧ (readF bs s).2 = false ∧ x.1.l = r.l
theorem Step.read {bs : List UInt8} {s : DS} {r r0 : RS} {x : RS × Bool} (h : Step bs s r x) (hl : r.l = r0.l) (ha : r0.at_ ≤ r.at_) : StepF bs s r0 x := by
  unfold Step at h
  unfold StepF readF
  split
  · rename_i hx
    rw [if_pos hx] at h
    obtain ⟨s', h1, h2, h3, h4, h5, h6⟩ := h
    refine ⟨s', ?_, h2, h4, by rw [h5, hl], by omega⟩
    rw [h1]; simp only; rw [if_neg h3]
  · rename_i hx
    rw [if_neg hx] at h
    rcases h with h | ⟨h1, h2, h3⟩
    · exact .inl h
    · refine .inr ⟨h1, ?_, h3.trans hl⟩
      rcases hr : readC bs s with ⟨s', b⟩
      rw [hr] at h2
      simp only at h2
      subst h2; rfl
theorem Step.comma {bs : List UInt8} {s s1 : DS} {r r0 : RS} {x : RS × Bool} (h : Step bs s1 r x) (hc : readC bs s = (s1, true)) (h1024 : s1.tok.kind = 1024) (hl : r.l = r0.l) (ha : r0.at_ ≤ r.at_) : StepF bs s r0 x := by
  unfold Step at h
  unfold StepF readF
  rw [hc]
  simp only
  rw [if_pos h1024]
  split
  · rename_i hx
    rw [if_pos hx] at h
    obtain ⟨s', h1, h2, h3, h4, h5, h6⟩ := h
    exact ⟨s', h1, h2, h4, by rw [h5, hl], by omega⟩
  · rename_i hx
    rw [if_neg hx] at h
    rcases h with h | ⟨h1, h2, h3⟩
    · exact .inl h
    · exact .inr ⟨h1, h2, h3.trans hl⟩
theorem valN_end {st : List Nat} {last : Nat} (hne : st ≠ []) (h : VEnd last) : valN st last = false := by
  unfold VEnd at h
  unfold valN
  rcases hg : st.getLast? with _ | x
  · exact absurd (List.getLast?_eq_none_iff.1 hg) hne
  · simp only
    split
    · simp; omega
    · simp; omega
theorem more_step (hb : s.bad = false) (hk : goN bs s.k 0 = r.at_) (hst : s.st = stR r.opn) (ho : ∀ x ∈ r.opn, x = 123 ∨ x = 91) (ht : r.told = 0) (hne : s.st ≠ []) (hve : VEnd s.tok.kind) : StepF bs s r (moreR bs r) := by
  have hve' := hve
  unfold VEnd at hve'
  unfold moreR
  by_cases c1 : pkR bs r.at_ = 125
  · rw [if_pos c1]
    obtain ⟨c, l, hd, hc⟩ := pk_some c1 (by decide)
    exact (closes_step hb hk hst ho ht hd (.inl ⟨rfl, rfl, hc, by omega, by omega⟩)).read rfl (Nat.le_refl _)
  · rw [if_neg c1]
    by_cases c2 : pkR bs r.at_ = 93
    · rw [if_pos c2]
      obtain ⟨c, l, hd, hc⟩ := pk_some c2 (by decide)
      exact (closes_step hb hk hst ho ht hd (.inr ⟨rfl, rfl, hc, by omega⟩)).read rfl (Nat.le_refl _)
    · rw [if_neg c2]
      by_cases c3 : pkR bs r.at_ = 44
      · rw [if_neg (by omega)]
        obtain ⟨c, l, hd, hc⟩ := pk_some c3 (by decide)
        have hlt := lt_of_drop hd
        have hnx : nextJ (bs.drop (goN bs s.k 0)) = some (1024, 1, false, []) := by
          rw [hk, hd, nextJ_cons, if_neg (by omega), if_neg (by omega), if_neg (by omega), if_neg (by unfold isDg; simp; omega), if_neg (by omega), if_neg (by omega), if_neg (by omega), if_neg (by omega), if_neg (by omega), if_pos hc]
        have hrd := readC_comma hnx hne hve
        have hsp : goN bs (goN bs (goN bs s.k 0) 1) 0 = spR bs (r.at_ + 1) := by rw [hk, spR_go, goR_add bs r.at_ 1, goR_idem]
        have hsle : spR bs (r.at_ + 1) ≤ bs.length := by rw [spR_go]; exact (goN_le (by omega)).2
        have hsge : r.at_ ≤ spR bs (r.at_ + 1) := by unfold spR; omega
        have hlast := stR_last r.opn
        rw [← hst] at hlast
        by_cases h123 : r.opn.getLast? = some 123
        · rw [if_pos h123]
          rw [h123] at hlast
          refine Step.comma (r := { r with at_ := spR bs (r.at_ + 1) }) ?_ hrd rfl rfl hsge
          exact name_step hb hsp hst ho ht hlast (.inr rfl) (fun h => by cases h)
        · rw [if_neg h123]
          have hv : valN s.st 1024 = true := by
            unfold valN
            rcases hg : r.opn.getLast? with _ | y
            · rw [hg] at hlast; exact absurd (List.getLast?_eq_none_iff.1 hlast) hne
            · rw [hg] at hlast
              rw [hlast]
              have : y ≠ 123 := fun e => h123 (by rw [hg, e])
              simp [this]
          refine Step.comma (r := { r with at_ := spR bs (r.at_ + 1) }) ?_ hrd rfl rfl hsge
          exact value_step hb hsp hsle hst ho ht hv (.inr (.inr (.inr rfl))) (fun h => by cases h) (fun e => absurd e hne)
      · rw [if_pos c3]
        have kind : ∀ {n : Nat} {b : Bool} {t : List UInt8} {kd : Nat}, nextJ (bs.drop (goN bs s.k 0)) = some (kd, n, b, t) → kd ≠ 128 ∧ kd ≠ 512 ∧ kd ≠ 1024 := by
          intro n b t kd h
          rw [hk] at h
          rcases hd : bs.drop r.at_ with _ | ⟨c, l⟩
          · rw [hd] at h
            have : (1, 0, false, ([] : List UInt8)) = (kd, n, b, t) := by injection h
            simp only [Prod.mk.injEq] at this
            omega
          · rw [hd] at h
            have hp := pk_cons hd
            have hn := nextJ_kind h
            refine ⟨fun e => c1 (hp.trans (hn.2.1 e)), fun e => c2 (hp.trans (hn.2.2.1 e)), fun e => c3 (hp.trans (hn.2.2.2.1 e))⟩
        have hf : (readC bs s).2 = false := fail_by (fun _ _ _ _ => hne) (valN_end hne hve) (fun _ _ _ _ e => by omega) (fun _ _ _ h => absurd rfl (kind h).1) (fun _ _ _ h => absurd rfl (kind h).2.1) (fun _ _ _ h => absurd rfl (kind h).2.2)
        exact (Step.no (.inr ⟨ht, hf, rfl⟩)).read rfl (Nat.le_refl _)
theorem next_step (h : RelR bs s r) (h5 : r.want ≠ 5) : StepF bs s r (nextR bs r) := by
  obtain ⟨at_, opn, want, told, l⟩ := r
  simp only at h5
  have hk : goN bs s.k 0 = spR bs at_ := by rw [h.pos, spR_go]
  have hal : spR bs at_ ≤ bs.length := by rw [spR_go]; exact (goN_le (by have := h.ale; omega)).2
  have hge : at_ ≤ spR bs at_ := by unfold spR; omega
  unfold nextR
  simp only
  have hw := h.want
  simp only at hw
  rcases hw with ⟨rfl, h1, h2, h3⟩ | ⟨rfl, h1, h2⟩ | ⟨rfl, h1, h2⟩ | ⟨rfl, h1, h2⟩ | ⟨w, _⟩
  · rw [if_neg (by decide), if_neg (by decide), if_neg (by decide), if_neg (by decide)]
    refine Step.read (r := ⟨spR bs at_, opn, 0, told, l⟩) (r0 := ⟨at_, opn, 0, told, l⟩) ?_ rfl hge
    exact value_step h.bad hk hal h.st h.opn h.told h1 (by omega) (fun e => by omega) (fun e => by rw [← hk]; exact h3 e)
  · rw [if_pos rfl]
    have hne : s.st ≠ [] := by intro e; rw [e] at h1; cases h1
    refine Step.read (r := ⟨spR bs at_, opn, 1, told, l⟩) (r0 := ⟨at_, opn, 1, told, l⟩) ?_ rfl hge
    by_cases c1 : pkR bs (spR bs at_) = 93
    · rw [if_pos c1]
      obtain ⟨c, l, hd, hc⟩ := pk_some c1 (by decide)
      exact closes_step h.bad hk h.st h.opn h.told hd (.inr ⟨rfl, rfl, hc, by omega⟩)
    · rw [if_neg c1]
      exact value_step h.bad hk hal h.st h.opn h.told (by unfold valN; rw [h1]; simp; omega) (by omega) (fun _ => c1) (fun e => absurd e hne)
  · rw [if_neg (by decide), if_neg (by decide), if_pos rfl]
    refine Step.read (r := ⟨spR bs at_, opn, 3, told, l⟩) (r0 := ⟨at_, opn, 3, told, l⟩) ?_ rfl hge
    by_cases c1 : pkR bs (spR bs at_) = 125
    · rw [if_pos c1]
      obtain ⟨c, l, hd, hc⟩ := pk_some c1 (by decide)
      exact closes_step h.bad hk h.st h.opn h.told hd (.inl ⟨rfl, rfl, hc, by omega, by omega⟩)
    · rw [if_neg c1]
      exact name_step h.bad hk h.st h.opn h.told h1 (.inl h2) (fun _ => c1)
  · rw [if_neg (by decide), if_neg (by decide), if_neg (by decide), if_pos rfl]
    have := more_step (r := ⟨spR bs at_, opn, 4, told, l⟩) h.bad hk h.st h.opn h.told h1 h2
    unfold StepF at this ⊢
    by_cases hx : (moreR bs ⟨spR bs at_, opn, 4, told, l⟩).2 = true
    · rw [if_pos hx] at this ⊢
      obtain ⟨s', a1, a2, a3, a4, a5⟩ := this
      exact ⟨s', a1, a2, a3, a4, Nat.lt_of_le_of_lt hge a5⟩
    · rw [if_neg hx] at this ⊢
      exact this
  · exact absurd w h5
/-- behind the value: the end, or an error -/
theorem end_step (h : RelR bs s r) (h5 : r.want = 5) : if spR bs r.at_ < bs.length then (readF bs s).2 = false else ∃ s', readF bs s = (s', true) ∧ s'.tok.kind = 1 := by
  have hk : goN bs s.k 0 = spR bs r.at_ := by rw [h.pos, spR_go]
  obtain ⟨hst, hve⟩ : s.st = [] ∧ VEnd s.tok.kind := by
    rcases h.want with ⟨w, _⟩ | ⟨w, _⟩ | ⟨w, _⟩ | ⟨w, _⟩ | ⟨_, a, b⟩
    · omega
    · omega
    · omega
    · omega
    · exact ⟨a, b⟩
  have hve' := hve
  unfold VEnd at hve'
  split
  · rename_i hlt
    have hf : (readC bs s).2 = false := by
      refine fail_by (fun n b t hn e => ?_) (by rw [hst]; unfold valN; simp; omega) (fun _ _ _ _ e => by omega) (fun _ _ _ _ e => by rw [hst] at e; simp at e) (fun _ _ _ _ e => by rw [hst] at e; simp at e) (fun _ _ _ _ e => e.1 hst)
      rw [hk] at hn
      rcases hd : bs.drop (spR bs r.at_) with _ | ⟨c, l⟩
      · have := congrArg List.length hd
        simp at this; omega
      · rw [hd] at hn
        exact (nextJ_kind hn).2.2.2.2 rfl
    unfold readF
    rcases hr : readC bs s with ⟨s', b⟩
    rw [hr] at hf
    simp only at hf
    subst hf; rfl
  · rename_i hlt
    have hn : nextJ (bs.drop (goN bs s.k 0)) = some (1, 0, false, []) := by
      rw [hk, List.drop_eq_nil_of_le (by omega)]; try rfl
    obtain ⟨h1, h2⟩ := readC_end hn hst
    unfold readF
    rcases hr : readC bs s with ⟨s', b⟩
    rw [hr] at h1 h2
    simp only at h1 h2
    subst h1
    simp only
    rw [if_neg (by omega)]
    exact ⟨s', rfl, h2⟩
end
/-! ### all tokens -/
theorem runJ_one {bs : List UInt8} {f : Nat} {s : DS} {out : List TK} (hp : s.peeked = false) : runJ bs [] (f + 1) s out = match readF bs s with
    | (_, false) => (out, false)
    | (s', true) => if s'.tok.kind = 1 then (out, true) else runJ bs [] f s' (out ++ [s'.tok]) := by
  rw [runJ, ← readJ_plain hp]; simp only [List.getD_nil, Bool.false_eq_true, if_false]; try rfl
theorem loop_same {bs : List UInt8} : ∀ (f : Nat) (s : DS) (r : RS), RelR bs s r → bs.length + 1 ≤ f + r.at_ → 
    if (loopR bs f r).2 = true then RelR bs s r ∧ runJ bs [] f s (r.l.map toTKR) = ((loopR bs f r).1.l.map toTKR, !decide (spR bs (loopR bs f r).1.at_ < bs.length))
    else (loopR bs f r).1.told = 2 ∨ (loopR bs f r).1.told = 0 ∧ runJ bs [] f s (r.l.map toTKR) = ((loopR bs f r).1.l.map toTKR, false)
  | 0, s, r, h, hf => by have := h.ale; omega
  | f + 1, s, r, h, hf => by
    have hun : loopR bs (f + 1) r = if r.want = 5 then (r, true) else match nextR bs r with
      | (s', false) => (s', false)
      | (s', true) => loopR bs f s' := rfl
    rw [hun]
    by_cases h5 : r.want = 5
    · rw [if_pos h5, if_pos rfl]
      refine ⟨h, ?_⟩
      rw [runJ_one h.peeked]
      have he := end_step h h5
      by_cases hlt : spR bs r.at_ < bs.length
      · rw [if_pos hlt] at he
        rcases hr : readF bs s with ⟨s', b⟩
        rw [hr] at he
        simp only at he
        subst he
        simp [hlt]
      · rw [if_neg hlt] at he
        obtain ⟨s', he, hk⟩ := he
        rw [he]
        simp only
        rw [if_pos hk]
        simp [hlt]
    · rw [if_neg h5]
      have hs := next_step h h5
      unfold StepF at hs
      rcases hx : nextR bs r with ⟨r', b⟩
      rw [hx] at hs
      cases b with
      | false =>
        simp only [Bool.false_eq_true, if_false] at hs ⊢
        rcases hs with hs | ⟨h1, h2, h3⟩
        · exact .inl hs
        · refine .inr ⟨h1, ?_⟩
          rw [runJ_one h.peeked, h3]
          rcases hr : readF bs s with ⟨s', b⟩
          rw [hr] at h2
          simp only at h2
          subst h2; rfl
      | true =>
        simp only [if_true] at hs ⊢
        obtain ⟨s', h1, h2, h3, h4, h6⟩ := hs
        have ih := loop_same f s' r' h3 (by omega)
        have hrun : runJ bs [] (f + 1) s (r.l.map toTKR) = runJ bs [] f s' (r'.l.map toTKR) := by
          rw [runJ_one h.peeked, h1]
          simp only
          rw [if_neg h2, h4]
        rw [hrun]
        split
        · rename_i hl
          rw [if_pos hl] at ih
          exact ⟨h, ih.2⟩
        · rename_i hl
          rw [if_neg hl] at ih
          exact ih
theorem rel_new {bs : List UInt8} (h : spR bs 0 ≠ bs.length) : RelR bs DS.new (newR bs) := by
  have hle : spR bs 0 ≤ bs.length := by rw [spR_go]; exact (goN_le (Nat.zero_le _)).2
  refine ⟨rfl, rfl, Nat.zero_le _, hle, ?_, rfl, fun x hx => (by cases hx), rfl, .inl ⟨rfl, rfl, .inl rfl, fun _ => ?_⟩⟩
  · show goN bs 0 0 = goN bs (spR bs 0) 0
    rw [spR_go, goR_idem]
  · show goN bs 0 0 < bs.length
    rw [← spR_go]; omega
/-- THE LAW: what the reference tells is what the package tells; 2: the reference leaves it open -/
theorem all_same (bs : List UInt8) : (allR bs).2 = 2 ∨ (allR bs).2 = 0 ∧ allJ bs [] = ((allR bs).1.map toTKR, false) ∨
    (allR bs).2 = 1 ∧ ∃ l t, (allR bs).1 = l ++ [t] ∧ t.kind = 1 ∧ allJ bs [] = (l.map toTKR, true) := by
  unfold allR
  cases bomR bs with
  | true => rw [if_pos rfl]; exact .inl rfl
  | false =>
    rw [if_neg (by simp)]
    by_cases h0 : spR bs 0 = bs.length
    · rw [if_pos h0]; exact .inl rfl
    · rw [if_neg h0]
      have hl := loop_same (bs.length + 1) DS.new (newR bs) (rel_new h0) (by omega)
      have he : allJ bs [] = runJ bs [] (bs.length + 1) DS.new ((newR bs).l.map toTKR) := rfl
      rw [he]
      rcases hx : loopR bs (bs.length + 1) (newR bs) with ⟨r, b⟩
      rw [hx] at hl
      cases b with
      | false =>
        simp only [Bool.false_eq_true, if_false] at hl ⊢
        rcases hl with hl | ⟨h1, h2⟩
        · exact .inl hl
        · exact .inr (.inl ⟨h1, h2⟩)
      | true =>
        simp only [if_true] at hl ⊢
        by_cases hlt : spR bs r.at_ < bs.length
        · rw [if_pos hlt]
          refine .inr (.inl ⟨rfl, ?_⟩)
          rw [hl.2]; simp [hlt]
        · rw [if_neg hlt]
          refine .inr (.inr ⟨rfl, _, _, rfl, rfl, ?_⟩)
          rw [hl.2]; simp [hlt]
end Go.Proofs.YtjkmmhnhhiopiaaDoor

namespace Go.Proofs.YtjkmmhnhhiopiaaDoor

section
variable {bs : List UInt8} {r : RS}
theorem spR_ge (k : Nat) : k ≤ spR bs k := by unfold spR; exact Nat.le_add_right _ _
theorem pk_lt (k : Nat) : pkR bs k < 256 := by
  unfold pkR
  rcases bs.drop k with _ | ⟨c, l⟩
  · exact (by decide : 0 < 256)
  · exact c.toNat_lt
theorem good_behind {r' : RS} (ho : ∀ x ∈ r'.opn, x < 256) (h1 : r'.opn.length ≤ r'.at_) (h2 : r'.l.length ≤ r'.at_) (ht : r'.told ≤ 2) : GoodR bs (behR r') := by
  refine ⟨ho, h1, h2, ?_, ht, ?_⟩
  · show (if r'.opn = [] then 5 else 4) ≤ 5
    split <;> omega
  · show (if r'.opn = [] then 5 else 4) = 4 → r'.opn ≠ []
    intro h e
    rw [if_pos e] at h; cases h
theorem good_leaf {kind n : Nat} {str : List UInt8} {tru : Bool} (hg : GoodR bs r) (hn : 1 ≤ n) : GoodR bs (behR (addR bs kind str tru n r)) := by
  refine good_behind hg.opn (by have := hg.ol; show _ ≤ r.at_ + n; exact Nat.le_trans this (Nat.le_add_right _ _)) ?_ hg.told
  show (r.l ++ [_]).length ≤ r.at_ + n
  have := hg.ll
  simp; omega
theorem good_word {text : List UInt8} {kind : Nat} {tru : Bool} (hg : GoodR bs r) (ht : 1 ≤ text.length) : GoodR bs (wordR bs text kind tru r).1 := by
  unfold wordR
  split
  · exact good_leaf hg ht
  · exact hg
theorem good_opens {kind want : Nat} (hg : GoodR bs r) (hw : want ≤ 3) : GoodR bs (opensR bs kind want r).1 := by
  unfold opensR
  refine ⟨?_, ?_, ?_, by show want ≤ 5; omega, hg.told, fun h => ?_⟩
  · intro x hx
    have hx : x ∈ r.opn ++ [pkR bs r.at_] := hx
    rw [List.mem_append, List.mem_singleton] at hx
    rcases hx with hx | rfl
    · exact hg.opn x hx
    · exact pk_lt _
  · show (r.opn ++ [pkR bs r.at_]).length ≤ r.at_ + 1
    have := hg.ol
    simp; omega
  · show (r.l ++ [_]).length ≤ r.at_ + 1
    have := hg.ll
    simp; omega
  · have h : want = 4 := h
    omega
theorem good_closes {kind of_ : Nat} (hg : GoodR bs r) : GoodR bs (closesR bs kind of_ r).1 := by
  unfold closesR
  split
  · refine good_behind (fun x hx => hg.opn x ((List.dropLast_sublist _).subset hx)) ?_ ?_ hg.told
    · show r.opn.dropLast.length ≤ r.at_ + 1
      have := hg.ol
      simp; omega
    · show (r.l ++ [_]).length ≤ r.at_ + 1
      have := hg.ll
      simp; omega
  · exact hg
theorem good_told {k : Nat} (hg : GoodR bs r) (hk : k ≤ 2) : GoodR bs { r with told := k } := ⟨hg.opn, hg.ol, hg.ll, hg.want, hk, hg.more⟩
theorem good_at {k : Nat} (hg : GoodR bs r) (hk : r.at_ ≤ k) : GoodR bs { r with at_ := k } := ⟨hg.opn, Nat.le_trans hg.ol hk, Nat.le_trans hg.ll hk, hg.want, hg.told, hg.more⟩
theorem err_le {l : List UInt8} {k : Nat} (h : jstrR l = .error k) : k ≤ 2 := by
  have := jstr_same l
  rw [h] at this
  simp only at this
  omega
theorem good_value (hg : GoodR bs r) : GoodR bs (valueR bs r).1 := by
  unfold valueR
  repeat' split
  · exact good_opens hg (by decide)
  · exact good_opens hg (by decide)
  · unfold quoR
    rcases hj : jstrR (bs.drop r.at_) with k | ⟨t, n⟩
    · exact good_told hg (err_le hj)
    · have hs := jstr_same (bs.drop r.at_)
      rw [hj] at hs
      have := strJ_le hs
      exact good_leaf hg (by omega)
  · exact good_word hg (by decide)
  · exact good_word hg (by decide)
  · exact good_word hg (by decide)
  · unfold numR
    split
    · refine good_told hg ?_
      split
      · decide
      · exact hg.told
    · rename_i h
      exact good_leaf hg (by omega)
theorem good_name (hg : GoodR bs r) : GoodR bs (nameR bs r).1 := by
  unfold nameR
  split
  · exact hg
  · rcases hj : jstrR (bs.drop r.at_) with k | ⟨t, n⟩
    · exact good_told hg (err_le hj)
    · have hge : r.at_ + n ≤ spR bs (r.at_ + n) := spR_ge _
      simp only
      split
      · exact good_at hg (by omega)
      · refine ⟨hg.opn, Nat.le_trans hg.ol (Nat.le_trans (Nat.le_trans (Nat.le_add_right _ _) hge) (Nat.le_add_right _ 1)), ?_, by show (0 : Nat) ≤ 5; decide, hg.told, fun h => by cases h⟩
        show (r.l ++ [_]).length ≤ spR bs (r.at_ + n) + 1
        have := hg.ll
        simp; omega
theorem good_next (hg : GoodR bs r) : GoodR bs (nextR bs r).1 := by
  have hge : r.at_ ≤ spR bs r.at_ := spR_ge _
  have h1 := good_at hg hge
  unfold nextR
  simp only
  split
  · split
    · exact good_closes h1
    · exact good_value h1
  · split
    · exact good_name h1
    · split
      · split
        · exact good_closes h1
        · exact good_name h1
      · split
        · unfold moreR
          have hge2 : spR bs r.at_ ≤ spR bs (spR bs r.at_ + 1) := Nat.le_trans (Nat.le_add_right _ 1) (spR_ge _)
          split
          · exact good_closes h1
          · split
            · exact good_closes h1
            · split
              · exact h1
              · split
                · exact good_name (good_at h1 hge2)
                · exact good_value (good_at h1 hge2)
        · exact good_value h1
theorem good_new (bs : List UInt8) : GoodR bs (newR bs) := ⟨fun x hx => (by cases hx), Nat.zero_le _, Nat.zero_le _, by show (0 : Nat) ≤ 5; decide, by show (0 : Nat) ≤ 2; decide, fun h => by cases h⟩

/-! ### where a token is told, it goes on -/
theorem grows_word {text : List UInt8} {kind : Nat} {tru : Bool} (ht : 1 ≤ text.length) : (wordR bs text kind tru r).2 = true → r.at_ < (wordR bs text kind tru r).1.at_ := by
  unfold wordR
  split
  · intro _
    show r.at_ < r.at_ + text.length
    omega
  · intro h; cases h
theorem grows_closes {kind of_ : Nat} : (closesR bs kind of_ r).2 = true → r.at_ < (closesR bs kind of_ r).1.at_ := by
  unfold closesR
  split
  · intro _; show r.at_ < r.at_ + 1; omega
  · intro h; cases h
theorem grows_value : (valueR bs r).2 = true → r.at_ < (valueR bs r).1.at_ := by
  unfold valueR
  repeat' split
  · intro _; show r.at_ < r.at_ + 1; omega
  · intro _; show r.at_ < r.at_ + 1; omega
  · unfold quoR
    rcases hj : jstrR (bs.drop r.at_) with k | ⟨t, n⟩
    · intro h; cases h
    · have hs := jstr_same (bs.drop r.at_)
      rw [hj] at hs
      have := strJ_le hs
      intro _
      show r.at_ < r.at_ + n
      omega
  · exact grows_word (by decide)
  · exact grows_word (by decide)
  · exact grows_word (by decide)
  · unfold numR
    split
    · intro h; cases h
    · rename_i h
      intro _
      show r.at_ < r.at_ + jnumR (bs.drop r.at_)
      omega
theorem grows_name : (nameR bs r).2 = true → r.at_ < (nameR bs r).1.at_ := by
  unfold nameR
  split
  · intro h; cases h
  · rcases hj : jstrR (bs.drop r.at_) with k | ⟨t, n⟩
    · intro h; cases h
    · simp only
      split
      · intro h; cases h
      · intro _
        show r.at_ < spR bs (r.at_ + n) + 1
        have := spR_ge (bs := bs) (r.at_ + n)
        omega
theorem grows_next : (nextR bs r).2 = true → r.at_ < (nextR bs r).1.at_ := by
  have hge : r.at_ ≤ spR bs r.at_ := spR_ge _
  have hv : (valueR bs { r with at_ := spR bs r.at_ }).2 = true → r.at_ < (valueR bs { r with at_ := spR bs r.at_ }).1.at_ := fun h => Nat.lt_of_le_of_lt hge (grows_value h)
  have hn : (nameR bs { r with at_ := spR bs r.at_ }).2 = true → r.at_ < (nameR bs { r with at_ := spR bs r.at_ }).1.at_ := fun h => Nat.lt_of_le_of_lt hge (grows_name h)
  have hc : ∀ kind of_, (closesR bs kind of_ { r with at_ := spR bs r.at_ }).2 = true → r.at_ < (closesR bs kind of_ { r with at_ := spR bs r.at_ }).1.at_ := fun kind of_ h => Nat.lt_of_le_of_lt hge (grows_closes h)
  unfold nextR
  simp only
  split
  · split
    · exact hc _ _
    · exact hv
  · split
    · exact hn
    · split
      · split
        · exact hc _ _
        · exact hn
      · split
        · unfold moreR
          have hge2 : r.at_ ≤ spR bs (spR bs r.at_ + 1) := Nat.le_trans hge (Nat.le_trans (Nat.le_add_right _ 1) (spR_ge _))
          split
          · exact hc _ _
          · split
            · exact hc _ _
            · split
              · intro h; cases h
              · split
                · exact fun h => Nat.lt_of_le_of_lt hge2 (grows_name h)
                · exact fun h => Nat.lt_of_le_of_lt hge2 (grows_value h)
        · exact hv
end
end Go.Proofs.YtjkmmhnhhiopiaaDoor

namespace Go.Proofs.YtjkmmhnhhiopiaaDoor
open Go.ChangeShapes Go.WideShapes Go.ChangeAt Go.RowKit
attribute [local go_sem ↓] Go.wp_at_zero Go.wp_at_succ

theorem RW.stepBelow {B p g : Nat} {bs : List UInt8} {vb vo vl vo' vl' : Value} {r : RS} {w w' : World} (hw : RW B p g bs vb vo vl r w) (h : JStep p vo vl w vo' vl' w') : Below B w w' :=
  ⟨h.os, h.tape, h.output, h.size, fun k hk => by
    have := hw.base
    have := hw.bp
    exact h.block k (by omega) (by omega) (fun e => by have := (World.ownsRow.lt hw.opn k e).1; omega) (fun e => by have := (World.ownsRow.lt hw.l k e).1; omega)⟩
/-- the reader at the beginning -/
theorem RW.new {w : World} {g : Nat} {bs : List UInt8} {vb : Value} (h : View w g vb bs) (hg : bs ≠ [] → g < w.heap.size) (t : TypeId) :
    RW w.heap.size w.heap.size g bs vb (.slice none 0 0) (.slice none 0 0) ⟨0, [], 0, 0, []⟩ (w.alloc (.cells #[vb, .int .i64 0, .slice none 0 0, .int .i64 0, .int .i64 0, .slice none 0 0] t)) := by
  refine ⟨fun j u hu => ?_, h.alloc _, OwnB.nil _ _ _, World.ownsRow_nil _ _ _ _, Nat.zero_le _, Nat.le_refl _, hg, (fun e => by cases e), (fun e => by cases e), (fun k hk => by cases hk)⟩
  refine ⟨?_, by simp [go_sem]⟩
  rw [World.cell?_alloc_at _ _ _ j rfl, ← hu]
  simp [rCells]
def AllRes (R : List JT × Nat) (w : World) (e : Ending) (w' : World) : Prop := ∃ v, e = .returned (.tuple #[v, .int .i64 (R.2 : Int)]) ∧ OwnT w' w.heap.size v R.1 ∧ Below w.heap.size w w'
theorem loopR_succ (bs : List UInt8) (f : Nat) (r : RS) : loopR bs (f + 1) r = if r.want = 5 then (r, true) else match nextR bs r with
    | (s', false) => (s', false)
    | (s', true) => loopR bs f s' := rfl
def LInv (p g : Nat) (bs : List UInt8) (vb : Value) (R : RS × Bool) (w : World) (wr : World) : Prop :=
  ∃ (r : RS) (vo vl : Value) (f : Nat), RW w.heap.size p g bs vb vo vl r wr ∧ GoodR bs r ∧ loopR bs f r = R ∧ bs.length + 1 ≤ f + r.at_ ∧ Below w.heap.size w wr
set_option maxRecDepth 100000 in
set_option maxHeartbeats 4000000 in
theorem rtokens_any (v : Value) (bs : List UInt8) (g : Nat) (w : World) (hv : View w g v bs) (hm : bs.length ≤ 700000) :
    Calls Tryd.prog 17 #[v] w (AllRes (allR bs) w) := by
  have HV := hid hv
  have hnew := RW.new hv (fun hne => hv.lt hne) 66
  obtain ⟨ao, cap, rfl, hcell⟩ := view_open hv
  have HC := hid hcell
  have HN := hid hnew
  have hA : allR bs = if bomR bs then ([], 2) else if spR bs 0 = bs.length then ([], 2) else match loopR bs (bs.length + 1) (newR bs) with
    | (s, false) => (s.l, s.told)
    | (s, true) => if spR bs s.at_ < bs.length then (s.l, 0) else (s.l ++ [⟨1, spR bs s.at_, [], [], false⟩], 1) := rfl
  clear hv hcell hnew
  go_enter Tryd.func17, Tryd.ntmps17
  go_upto_region 2 with fail
  obtain ⟨bm, hbm⟩ : ∃ bm, bm = bomR bs := ⟨_, rfl⟩
  have HBM := hid hbm
  rw [← hbm] at hA
  clear hbm
  go_cut [28] (fun t wx => t = .bool bm ∧ wx = w.alloc (.cells #[.slice ao bs.length cap, .int .i64 0, .slice none 0 0, .int .i64 0, .int .i64 0, .slice none 0 0] 66))
  case first =>
    as_aux_lemma =>
    by_cases h3 : 3 ≤ bs.length
    · have hd3 : decide ((3 : Int) ≤ (bs.length : Int)) = true := by simp; omega
      obtain ⟨o, rfl, k0⟩ := HC.out 0 (by omega)
      obtain ⟨_, e1, k1⟩ := HC.out 1 (by omega)
      obtain ⟨_, e2, k2⟩ := HC.out 2 (by omega)
      injection e1 with e1
      injection e1 with _ e1 _
      injection e2 with e2
      injection e2 with _ e2 _
      subst e1 e2
      have hgl := World.block_lt_of_cell? _ _ k0
      simp only at hgl
      have hB : Hid (bomR bs = (((bs[0]).toNat == 239) && (((bs[1]).toNat == 187) && ((bs[2]).toNat == 191)))) := hid (by
        unfold bomR
        rw [decide_eq_true h3]
        simp [List.getD_eq_getElem?_getD, List.getElem?_eq_getElem (show 0 < bs.length by omega), List.getElem?_eq_getElem (show 1 < bs.length by omega), List.getElem?_eq_getElem (show 2 < bs.length by omega)])
      generalize bs[0] = x0 at *
      generalize bs[1] = x1 at *
      generalize bs[2] = x2 at *
      simp only [Nat.add_zero] at k0
      have i0 : (0 : Nat) < bs.length := by omega
      have i1 : (1 : Int) < (bs.length : Int) := by omega
      have i2 : (2 : Int) < (bs.length : Int) := by omega
      clear hA h3
      cases q0 : ((x0.toNat : Int) == 239) <;> cases q1 : ((x1.toNat : Int) == 187) <;> cases q2 : ((x2.toNat : Int) == 191)
      all_goals
        have HF := hid (HBM.out.trans hB.out)
        go_wp2_with fail
        go_meet
        refine ⟨?_, rfl⟩
        rw [HF.out]
        congr 1
        simp at q0 q1 q2 ⊢
        first | omega | (simp; omega)
    · have hd3 : decide ((3 : Int) ≤ (bs.length : Int)) = false := by simp; omega
      have HF : Hid (bm = false) := hid (by rw [HBM.out]; unfold bomR; rw [decide_eq_false h3]; try rfl)
      clear hA
      go_wp2_with fail
      go_meet
      exact ⟨by rw [HF.out], rfl⟩
  case rest =>
    obtain ⟨rfl, rfl⟩ := hcut
    have hb0 : Below w.heap.size w (w.alloc (.cells #[.slice ao bs.length cap, .int .i64 0, .slice none 0 0, .int .i64 0, .int .i64 0, .slice none 0 0] 66)) := (Below.refl _ _).alloc (Nat.le_refl _) _
    clear HBM HC
    rcases bm with _ | _
    · rw [if_neg (by simp)] at hA
      have HB0 := hid hb0
      have HSP : Hid (∀ w', RW w.heap.size w.heap.size g bs (.slice ao bs.length cap) (.slice none 0 0) (.slice none 0 0) ⟨0, [], 0, 0, []⟩ w' → Calls Tryd.prog 29 #[.pointer (some ⟨w.heap.size, 0, none⟩)] w' (RDid w.heap.size w.heap.size g bs (.slice ao bs.length cap) (.slice none 0 0) (.slice none 0 0) (newR bs) (.tuple #[]) w')) := hid fun w' h => rspace_any _ w' h (by omega)
      clear hb0
      generalize World.alloc w _ = w0 at *
      go_upto_region 5 with (first
        | (go_at_call 29; refine (Calls.mono (HSP.out _ HN.out) ?_); rintro e w1 ⟨rfl, vo1, vl1, hr1, hj1⟩; have HR1 := hid hr1; have HB1 := hid (HB0.out.trans (HN.out.stepBelow hj1)); have d1 := hr1.c.2.1; clear hr1 hj1)
        | fail)
      have hne1 : (newR bs).at_ = spR bs 0 := rfl
      rw [hne1] at d1
      by_cases h0 : spR bs 0 = bs.length
      · rw [if_pos h0] at hA
        have HA := hid hA
        rw [h0] at d1
        clear hA h0 hne1
        go_wp2_with fail
        go_ret2
        rw [HA.out]
        exact ⟨_, rfl, World.ownsRow_nil _ _ _ _, HB1.out⟩
      · rw [if_neg h0] at hA
        have h0b : ((spR bs 0 : Int) == (bs.length : Int)) = false := by simp; omega
        have HI : Hid (LInv w.heap.size g bs (.slice ao bs.length cap) (loopR bs (bs.length + 1) (newR bs)) w w1) := hid ⟨newR bs, vo1, vl1, bs.length + 1, HR1.out, good_new bs, rfl, Nat.le_add_right _ _, HB1.out⟩
        generalize loopR bs (bs.length + 1) (newR bs) = R at *
        have HA := hid hA
        have hl1 := HR1.out.lt
        clear hA h0 hne1 HSP HN HB0 HR1
        go_wp2_with fail
        go_loopw [] (fun wr => LInv w.heap.size g bs (.slice ao bs.length cap) R w wr) (fun wr => bs.length - rAt w.heap.size wr)
        case atStart => exact HI.out
        case round =>
          obtain ⟨r, vo, vl, f, hrw, hgd, hlp, hf, hbr⟩ := hrel
          have HR := hid hrw
          have HG := hid hgd
          have HL := hid hlp
          have HB := hid hbr
          obtain ⟨-, c1, -, c3, c4, c5⟩ := hrw.c
          have hle := hrw.le
          have hmu := rAt_of c1
          obtain ⟨f, rfl⟩ : ∃ f', f = f' + 1 := ⟨f - 1, by omega⟩
          rw [loopR_succ] at hlp
          have HNX : Hid (∀ w', RW w.heap.size w.heap.size g bs (.slice ao bs.length cap) vo vl r w' → Calls Tryd.prog 30 #[.pointer (some ⟨w.heap.size, 0, none⟩)] w' (RDid w.heap.size w.heap.size g bs (.slice ao bs.length cap) vo vl (nextR bs r).1 (.bool (nextR bs r).2) w')) := hid fun w' h => rnext_any r w' h (by omega) HG.out
          clear hrw hgd hbr HI
          by_cases h5 : r.want = 5
          · rw [if_pos h5] at hlp
            subst hlp
            have h5b : ((r.want : Int) != 5) = false := by simp; omega
            have hA := HA.out
            simp only at hA
            have HSP : Hid (∀ w', RW w.heap.size w.heap.size g bs (.slice ao bs.length cap) vo vl r w' → Calls Tryd.prog 29 #[.pointer (some ⟨w.heap.size, 0, none⟩)] w' (RDid w.heap.size w.heap.size g bs (.slice ao bs.length cap) vo vl { r with at_ := spR bs r.at_ } (.tuple #[]) w')) := hid fun w' h => rspace_any r w' h (by omega)
            have hrll : r.l.length ≤ 900000 := by have := HG.out.ll; omega
            obtain ⟨S, hS⟩ : ∃ S, S = spR bs r.at_ := ⟨_, rfl⟩
            rw [← hS] at hA HSP
            clear hS h5 HNX HL
            by_cases hlt : S < bs.length
            · rw [if_pos hlt] at hA
              have HA2 := hid hA
              have hd : decide ((S : Int) < (bs.length : Int)) = true := by simp; omega
              clear hA HA
              go_wp2_with (first
                | (go_at_call 29; refine (Calls.mono (HSP.out _ HR.out) ?_); rintro e w3 ⟨rfl, vo3, vl3, hr3, hj3⟩; have HR3 := hid hr3; have HB3 := hid (HB.out.trans (HR.out.stepBelow hj3)); have e1 := hr3.c.2.1; have e5 := hr3.c.2.2.2.2.2; have hlp7 := hr3.lt; clear hr3 hj3)
                | fail)
              go_ret2
              rw [HA2.out]
              exact ⟨_, rfl, HR3.out.l, HB3.out⟩
            · rw [if_neg hlt] at hA
              have HA2 := hid hA
              have hd : decide ((S : Int) < (bs.length : Int)) = false := by simp; omega
              clear hA HA
              go_upto_region 13 with (first
                | (go_at_call 29; refine (Calls.mono (HSP.out _ HR.out) ?_); rintro e w3 ⟨rfl, vo3, vl3, hr3, hj3⟩; have HR3 := hid hr3; have HB3 := hid (HB.out.trans (HR.out.stepBelow hj3)); have e1 := hr3.c.2.1; have e5 := hr3.c.2.2.2.2.2; have hlp7 := hr3.lt; clear hr3 hj3)
                | fail)
              have hj7 := HR3.out
              go_region_law
                (first
                 | (refine step_append_tok _ (by rfl) _ _ _ (by rfl) w.heap.size Tryd.underlying37 tokInfo vl3 r.l (by rfl) (hj7.drew.alloc _).l ⟨w3.heap.size, 0, none⟩ 1 ⟨1, S, [], [], false⟩ (by rfl) (World.news_of_block (cs := #[.int .i64 1, .int .i64 S, .string ⟨#[]⟩, .string ⟨#[]⟩, .bool false]) (t := 41) (fr := (0, 0)) (heap_alloc_new w3.drew _)) (hj7.drew.alloc _).base (by omega) ?_; intro v4 w4 ha4; have HA4 := hid (hj7.drew.alloc (.cells #[.int .i64 1, .int .i64 S, .string ⟨#[]⟩, .string ⟨#[]⟩, .bool false] 41)); have HO4 := hid ha4.own; have HB4 := hid (HA4.out.stepBelow (JStep.add ha4 5 v4)); have HG4 := hid ha4.grown; obtain ⟨ao4, cc4, rfl⟩ := ha4.own.slice; clear ha4)
                 )
              all_goals
                have HO5 := HO4.out
                simp only [List.length_append, List.length_cons, List.length_nil, Nat.zero_add] at HO5
                have hG := HG4.out
                have HB5 : Below w.heap.size w w4 := HB3.out.trans ⟨hG.os, hG.tape, hG.output, Nat.le_trans (by simp) hG.size, fun k hk => (hG.block k (by have := HB3.out.size; simp; omega) (fun e => by have := (World.ownsRow.lt HR3.out.l k e.symm).1; omega)).trans (Below.heap_alloc w3.drew _ k (by have := HB3.out.size; show k < w3.heap.size; omega))⟩
                have HB6 := hid HB5
                have HO6 := hid HO5
                clear HO5 hG HB5 HO4 HG4 HB4 HA4
                go_wp2_with fail
                go_ret2
                rw [HA2.out]
                exact ⟨_, rfl, HO6.out, HB6.out⟩
          · rw [if_neg h5] at hlp
            have h5b : ((r.want : Int) != 5) = true := by simp; omega
            have hgn := good_next HG.out
            have hgr := grows_next (bs := bs) (r := r)
            rcases hx : nextR bs r with ⟨r2, b⟩
            rw [hx] at hlp HNX hgn hgr
            rcases b with _ | _
            · have HR2 := hid hlp
              have hA := HA.out
              rw [← HR2.out] at hA
              have HA2 : Hid (allR bs = (r2.l, r2.told)) := hid hA
              clear hlp hx h5 hgr hgn hA HA
              go_upto_region 9 with (first
                | (go_at_call 30; refine (Calls.mono (HNX.out _ HR.out) ?_); rintro e w3 ⟨rfl, vo3, vl3, hr3, hj3⟩; have HR3 := hid hr3; have HB3 := hid (HB.out.trans (HR.out.stepBelow hj3)); have e4 := hr3.c.2.2.2.2.1; have e5 := hr3.c.2.2.2.2.2; clear hr3 hj3)
                | fail)
              go_quiet (fail)
              go_wp2_with fail
              go_ret2
              rw [HA2.out]
              exact ⟨_, rfl, (HR3.out.drewN _).l, HB3.out.trans ⟨rfl, rfl, rfl, Nat.le_refl _, fun _ _ => rfl⟩⟩
            · have HR2 : Hid (loopR bs f r2 = R) := hid hlp
              have hgr2 := hgr rfl
              have HGN := hid hgn
              clear hlp hx h5 hgr hgn
              go_wp2_with (first
                | (go_at_call 30; refine (Calls.mono (HNX.out _ HR.out) ?_); rintro e w3 ⟨rfl, vo3, vl3, hr3, hj3⟩; have HR3 := hid hr3; have HB3 := hid (HB.out.trans (HR.out.stepBelow hj3)); have HMU := hid (rAt_of hr3.c.2.1); have hle3 := hr3.le; clear hr3 hj3)
                | fail)
              go_roundw
              case rel => exact ⟨r2, vo3, vl3, f, HR3.out, HGN.out, HR2.out, by omega, HB3.out⟩
              case measure => rw [hmu, HMU.out]; omega
    · rw [if_pos rfl] at hA
      have HA := hid hA
      have HB0 := hid hb0
      clear hA hb0 HN
      go_wp2_with fail
      go_ret2
      rw [HA.out]
      exact ⟨_, rfl, World.ownsRow_nil _ _ _ _, HB0.out⟩
end Go.Proofs.YtjkmmhnhhiopiaaDoor

namespace Go.Proofs.YtjkmmhnhhiopiaaDoor
open Go.ChangeShapes Go.WideShapes Go.ChangeAt Go.RowKit

def SomeB (w : World) (e : Ending) (w' : World) : Prop := ∃ b : Bool, e = .returned (.bool b) ∧ w = w'
set_option maxRecDepth 100000 in
theorem empty_any (v : Value) (l : List UInt8) (g : Nat) (w : World) (hv : View w g v l) (hm : l.length ≤ 100000000) :
    Calls Tryd.prog 16 #[v] w (SomeB w) := by
  obtain ⟨ao, cap, rfl, hcell⟩ := view_open hv
  have HC := hid hcell
  clear hv hcell
  go_enter Tryd.func16, Tryd.ntmps16
  go_wp2_with fail
  go_loopw [7] (fun t wx => ∃ k : Nat, k ≤ l.length ∧ t = .int .i64 (k : Int) ∧ w = wx) (fun t _ => l.length - (intOf t).toNat)
  case atStart => exact ⟨0, Nat.zero_le _, rfl, rfl⟩
  case round =>
    obtain ⟨k, hk, rfl, rfl⟩ := hrel
    by_cases hlt : k < l.length
    · obtain ⟨o, rfl, hck⟩ := HC.out k hlt
      generalize l[k] = c at *
      go_wp2_with fail
      all_goals first
        | (go_ret; exact ⟨_, rfl, rfl⟩)
        | (go_roundw
           case rel => exact ⟨k + 1, by omega, by go_num, trivial⟩
           case measure => simp [intOf]; omega)
    · go_wp2_with fail
      go_ret
      exact ⟨_, rfl, rfl⟩
def IsB (t : Value) (w wx : World) : Prop := (∃ b : Bool, t = .bool b) ∧ w = wx
theorem IsB.mk (b : Bool) (w : World) : IsB (.bool b) w w := ⟨⟨b, rfl⟩, rfl⟩
/-- two bytes of one slice -/
def At2 (w : World) (g o : Nat) (l : List UInt8) (k : Nat) : Prop := ∀ h : k < l.length, w.cell? ⟨g, o + k, none⟩ = some (.int .u8 (l[k].toNat : Int))
set_option maxRecDepth 100000 in
set_option maxHeartbeats 4000000 in
theorem bare_any (v : Value) (l : List UInt8) (g : Nat) (w : World) (hv : View w g v l) (hm : l.length ≤ 100000000) :
    Calls Tryd.prog 15 #[v] w (SomeB w) := by
  obtain ⟨ao, cap, rfl, hcell⟩ := view_open hv
  have HC := hid hcell
  clear hv hcell
  go_enter Tryd.func15, Tryd.ntmps15
  go_wp2_with fail
  go_loopw [8] (fun t wx => ∃ k : Nat, k ≤ l.length ∧ t = .int .i64 (k : Int) ∧ w = wx) (fun t _ => l.length - (intOf t).toNat)
  case atStart => exact ⟨0, Nat.zero_le _, rfl, rfl⟩
  case round =>
    obtain ⟨k, hk, rfl, rfl⟩ := hrel
    by_cases hlt : k < l.length
    · have hkl1 : k + 1 ≤ l.length := hlt
      obtain ⟨o, rfl, hck⟩ := HC.out k hlt
      have HA : Hid (∀ i, At2 w g o l i) := hid (fun i hi => by
        obtain ⟨o', e, h⟩ := HC.out i hi
        injection e with e
        injection e with _ e _
        subst e
        exact h)
      clear HC
      generalize l[k] = c at *
      go_upto_region 4 with fail
      go_cut [46] from 9 to 46 (fun t wx => IsB t w wx)
      case first =>
        as_aux_lemma =>
        cases q1 : ((c.toNat : Int) != 101) with
        | true =>
          cases q2 : ((c.toNat : Int) != 69) with
          | true =>
            go_wp2_with fail
            go_meet
            exact IsB.mk _ _
          | false =>
            rcases k with _ | j
            · simp only [Nat.add_zero] at hck
              go_wp2_with fail
              go_meet
              exact IsB.mk _ _
            · have hj := HA.out j (by omega)
              have e0 : (((j : Int) + 1) == 0) = false := by simp; omega
              have hjl : j < l.length := by omega
              generalize l[j] = d at *
              cases q3 : ((d.toNat : Int) != 46) <;> cases q4 : decide ((d.toNat : Int) < 48) <;> cases q5 : decide ((57 : Int) < (d.toNat : Int))
              all_goals
                go_wp2_with fail
                go_meet
                exact IsB.mk _ _
        | false =>
          rcases k with _ | j
          · simp only [Nat.add_zero] at hck
            go_wp2_with fail
            go_meet
            exact IsB.mk _ _
          · have hj := HA.out j (by omega)
            have e0 : (((j : Int) + 1) == 0) = false := by simp; omega
            have hjl : j < l.length := by omega
            generalize l[j] = d at *
            cases q3 : ((d.toNat : Int) != 46) <;> cases q4 : decide ((d.toNat : Int) < 48) <;> cases q5 : decide ((57 : Int) < (d.toNat : Int))
            all_goals
              go_wp2_with fail
              go_meet
              exact IsB.mk _ _
      case rest =>
        obtain ⟨⟨b, rfl⟩, rfl⟩ := hcut
        cases b with
        | true =>
          go_wp2_with fail
          go_roundw
          case rel => exact ⟨k + 1, hkl1, by go_num, trivial⟩
          case measure => simp [intOf]; omega
        | false =>
          go_upto_region 6 with fail
          go_cut [66] from 49 to 66 (fun t wx => IsB t w wx)
          case first =>
            as_aux_lemma =>
            by_cases h1 : k + 1 < l.length
            · have hj := HA.out (k + 1) h1
              have hI : decide ((k : Int) + 1 < (l.length : Int)) = true := by simp; omega
              have hI1 : decide (k + 1 < l.length) = true := by simp; omega
              generalize l[k + 1] = d at *
              cases q3 : ((d.toNat : Int) == 43) <;> cases q4 : ((d.toNat : Int) == 45)
              all_goals
                go_wp2_with fail
                go_meet
                exact IsB.mk _ _
            · have hI : decide ((k : Int) + 1 < (l.length : Int)) = false := by simp; omega
              have hI1 : decide (k + 1 < l.length) = false := by simp; omega
              go_wp2_with fail
              go_meet
              exact IsB.mk _ _
          case rest =>
            obtain ⟨⟨b2, rfl⟩, rfl⟩ := hcut
            cases b2 with
            | true =>
              by_cases h2 : k + 2 < l.length
              · have hj2 := HA.out (k + 2) h2
                have hI2 : decide ((l.length : Int) ≤ (k : Int) + 2) = false := by simp; omega
                have hI3 : decide (l.length ≤ k + 2) = false := by simp; omega
                generalize l[k + 2] = d2 at *
                cases q6 : decide ((d2.toNat : Int) < 48) <;> cases q7 : decide ((57 : Int) < (d2.toNat : Int))
                all_goals
                  go_wp2_with fail
                  first
                    | (go_ret; exact ⟨_, rfl, rfl⟩)
                    | (go_roundw; (case rel => exact ⟨k + 1, hkl1, by go_num, trivial⟩); (case measure => simp [intOf]; omega))
              · have hI2 : decide ((l.length : Int) ≤ (k : Int) + 2) = true := by simp; omega
                have hI3 : decide (l.length ≤ k + 2) = true := by simp; omega
                go_wp2_with fail
                go_ret
                exact ⟨_, rfl, rfl⟩
            | false =>
              by_cases h2 : k + 1 < l.length
              · have hj2 := HA.out (k + 1) h2
                have hI2 : decide ((l.length : Int) ≤ (k : Int) + 1) = false := by simp; omega
                have hI3 : decide (l.length ≤ k + 1) = false := by simp; omega
                generalize l[k + 1] = d2 at *
                cases q6 : decide ((d2.toNat : Int) < 48) <;> cases q7 : decide ((57 : Int) < (d2.toNat : Int))
                all_goals
                  go_wp2_with fail
                  first
                    | (go_ret; exact ⟨_, rfl, rfl⟩)
                    | (go_roundw; (case rel => exact ⟨k + 1, hkl1, by go_num, trivial⟩); (case measure => simp [intOf]; omega))
              · have hI2 : decide ((l.length : Int) ≤ (k : Int) + 1) = true := by simp; omega
                have hI3 : decide (l.length ≤ k + 1) = true := by simp; omega
                go_wp2_with fail
                go_ret
                exact ⟨_, rfl, rfl⟩
    · go_wp2_with fail
      go_ret
      exact ⟨_, rfl, rfl⟩
end Go.Proofs.YtjkmmhnhhiopiaaDoor
