/-
  A number of JSON as the package reads it, walked.
-/
import Derived.Test.YtjkmmhnhhiopiaaDoorDNumPlain
import Derived.Test.YtjkmmhnhhiopiaaDoorGuard
import Derived.Deep.CutBlock
import Derived.Deep.DeepCutAuto
namespace Go.Proofs.YtjkmmhnhhiopiaaDoor
open Go.ChangeShapes Go.WideShapes Go.ChangeAt Go.RowKit

theorem Tryd.info5 : (Tryd.prog.info? 5).map (fun i => (i.zero, i.size, i.bytes)) = some (some (.int .u8 0), 1, 1) := by kernel_rfl

set_option maxRecDepth 100000 in
set_option maxHeartbeats 1000000 in
theorem isNotDelim_any (c : UInt8) (w : World) : Calls Tryd.prog 81 #[.int .u8 (c.toNat : Int)] w fun e w' => e = .returned (.bool (notDel c)) ∧ w = w' := by
  have bc := byte_bd c
  have hn : notDel c = (c.toNat == 45 || c.toNat == 43 || c.toNat == 46 || c.toNat == 95 || (decide (97 ≤ c.toNat) && decide (c.toNat ≤ 122)) || (decide (65 ≤ c.toNat) && decide (c.toNat ≤ 90)) || isDg c) := rfl
  unfold isDg at hn
  generalize c.toNat = n at *
  have HN := hid hn
  clear hn
  go_enter Tryd.func81, Tryd.ntmps81
  go_wp2
  all_goals
    go_ret
    refine ⟨?_, rfl⟩
    rw [HN.out]
    first
    | (refine ret_bool ?_; simp; omega)
    | (refine ret_bool ?_; simp)
def numRes (l : List UInt8) : Value := match numJ l with
  | none => .tuple #[.int .i64 0, .bool false]
  | some n => .tuple #[.int .i64 n, .bool true]
theorem numRes_none {l : List UInt8} (h : numJ l = none) : numRes l = .tuple #[.int .i64 0, .bool false] := by unfold numRes; rw [h]
theorem numRes_some {l : List UInt8} {n : Nat} (h : numJ l = some n) : numRes l = .tuple #[.int .i64 n, .bool true] := by unfold numRes; rw [h]
theorem numJ_int {l : List UInt8} (h : intN (l.drop (negN l)) = none) : numJ l = none := by unfold numJ; rw [h]
theorem negN_cons (c : UInt8) (l : List UInt8) : negN (c :: l) = if c.toNat = 45 then 1 else 0 := rfl
theorem digN_step {l : List UInt8} {m : Nat} (h : m < l.length) (hd : isDg l[m] = true) : digN (l.drop m) = digN (l.drop (m + 1)) + 1 := by
  rw [List.drop_eq_getElem_cons h, digN_cons, if_pos hd]
theorem digN_stop {l : List UInt8} {m : Nat} (h : m < l.length) (hd : isDg l[m] = false) : digN (l.drop m) = 0 := by
  rw [List.drop_eq_getElem_cons h, digN_cons, hd]; rfl
theorem numJ_exp {l : List UInt8} {i : Nat} (h : intN (l.drop (negN l)) = some i) (he : expN (l.drop (negN l + i + fracN (l.drop (negN l + i)))) = none) : numJ l = none := by unfold numJ; rw [h]; simp only; rw [he]
theorem numJ_end {l : List UInt8} {i e : Nat} (h : intN (l.drop (negN l)) = some i) (he : expN (l.drop (negN l + i + fracN (l.drop (negN l + i)))) = some e) :
    numJ l = match l.drop (negN l + i + fracN (l.drop (negN l + i)) + e) with
      | c :: _ => if notDel c then none else some (negN l + i + fracN (l.drop (negN l + i)) + e)
      | [] => some (negN l + i + fracN (l.drop (negN l + i)) + e) := by unfold numJ; rw [h]; simp only; rw [he]; rfl
def isExp : List UInt8 → Bool
  | a :: _ :: _ => decide (a.toNat = 101 ∨ a.toNat = 69)
  | _ => false
theorem isDg_iff (c : UInt8) : isDg c = true ↔ (48 : Int) ≤ c.toNat ∧ (c.toNat : Int) ≤ 57 := by unfold isDg; simp; omega

set_option maxRecDepth 100000 in
set_option maxHeartbeats 20000000 in
theorem parseNumber_any (v : Value) (l : List UInt8) (g : Nat) (w : World) (hv : View w g v l) (hm : l.length ≤ 100000000) :
    Calls Tryd.prog 71 #[v] w fun e w' => e = .returned (numRes l) ∧ w = w' := by
  cases l with
  | nil =>
    have HF := hid (numRes_none (l := []) rfl)
    go_enter Tryd.func71, Tryd.ntmps71
    go_wp2_with (first | (refine wpList_len_view _ rfl _ 28 5 rfl Tryd.underlying28 _ _ _ rfl (by assumption) ?_) | fail)
    go_ret2
    exact ⟨by rw [HF.out]; rfl, rfl⟩
  | cons c l =>
    have bc := byte_bd c
    have hml : l.length ≤ 100000000 := by simp at hm; omega
    have hlc : 0 < (c :: l).length := by simp
    go_enter Tryd.func71, Tryd.ntmps71
    go_upto_if 13 with (first | (refine wpList_len_view _ rfl _ 28 5 rfl Tryd.underlying28 _ _ _ rfl (by assumption) ?_) | (refine wpList_index_view _ rfl _ _ 28 5 rfl Tryd.underlying28 Tryd.info5 _ _ _ rfl (by assumption) _ _ rfl (by omega) (by omega) ?_; intro ad1 hc1) | fail)
    go_cut [4, 5] (fun n s wx => n = .int .i64 (negN (c :: l)) ∧ (∃ v', s = v' ∧ View w g v' ((c :: l).drop (negN (c :: l)))) ∧ (c :: l).drop (negN (c :: l)) ≠ [] ∧ w = wx)
    case first =>
      as_aux_lemma =>
      by_cases h45 : c.toNat = 45
      · have hn : negN (c :: l) = 1 := by rw [negN_cons, if_pos h45]
        have HN := hid hn
        clear hn
        have e1 : ((c.toNat : Int) == 45) = true := by simp; omega
        cases l with
        | nil =>
          have HF := hid (numRes_none (numJ_int (l := [c]) (by rw [HN.out]; rfl)))
          go_wp2_with (first | (refine wpList_len_view _ rfl _ 28 5 rfl Tryd.underlying28 _ _ _ rfl (by assumption) ?_) | (refine wpList_slice_from _ rfl _ _ 28 5 rfl Tryd.underlying28 Tryd.info5 _ _ _ rfl (by assumption) _ _ rfl (by omega) (by omega) ?_; intro vs1 hvs1; try simp only [Int.toNat_natCast] at hvs1) | fail)
          go_ret2
          exact ⟨by rw [HF.out]; rfl, rfl⟩
        | cons d l =>
          go_wp2_with (first | (refine wpList_len_view _ rfl _ 28 5 rfl Tryd.underlying28 _ _ _ rfl (by assumption) ?_) | (refine wpList_slice_from _ rfl _ _ 28 5 rfl Tryd.underlying28 Tryd.info5 _ _ _ rfl (by assumption) _ _ rfl (by omega) (by omega) ?_; intro vs1 hvs1; try simp only [Int.toNat_natCast] at hvs1) | fail)
          go_meet
          exact ⟨by rw [HN.out]; rfl, ⟨_, rfl, by rw [HN.out]; exact hvs1⟩, by rw [HN.out]; simp, rfl⟩
      · have hn : negN (c :: l) = 0 := by rw [negN_cons, if_neg h45]
        have HN := hid hn
        clear hn
        have e1 : ((c.toNat : Int) == 45) = false := by simp; omega
        go_wp2_with fail
        go_meet
        exact ⟨by rw [HN.out]; rfl, ⟨_, rfl, by rw [HN.out]; exact hv⟩, by rw [HN.out]; simp, rfl⟩
      --END
    case rest =>
      obtain ⟨rfl, ⟨v1, rfl, hv1⟩, hne, rfl⟩ := hcut
      have hk0 := negN_le (c :: l)
      have hkI : ((negN (c :: l) : Nat) : Int) ≤ 1 := by omega
      generalize hK : negN (c :: l) = K at *
      have HK := hid hK
      clear hK
      obtain ⟨c1, l1, hL1⟩ := List.exists_cons_of_ne_nil hne
      have HL1 := hid hL1
      rw [hL1] at hv1
      clear hne hL1
      have b1 := byte_bd c1
      have hl1m : l1.length ≤ 100000000 := by
        have := congrArg List.length HL1.out
        simp only [List.length_drop, List.length_cons] at this
        omega
      have h0 : (0 : Int).toNat < (c1 :: l1).length := by simp
      go_upto_block 0 with fail
      go_cut [4, 5] (fun n s wx => ∃ i v', intN (c1 :: l1) = some i ∧ n = .int .i64 ((K : Int) + (i : Int)) ∧ s = v' ∧ View w g v' ((c1 :: l1).drop i) ∧ w = wx)
      case first =>
        as_aux_lemma =>
        by_cases h48 : c1.toNat = 48
        · have e1 : ((c1.toNat : Int) == 48) = true := by simp; omega
          have HI : Hid (intN (c1 :: l1) = some 1) := hid (by rw [intN_cons, if_pos h48])
          clear h48
          go_wp2_with (first | ((with_reducible refine is_index ?_); refine wpList_index_view _ rfl _ _ 28 5 rfl Tryd.underlying28 Tryd.info5 _ _ _ rfl hv1 _ 0 rfl (by omega) h0 ?_; intro ad1 hc1; simp only [List.getElem_cons_zero, Int.toNat_zero] at hc1) | ((with_reducible refine is_from ?_); refine wpList_slice_from _ rfl _ _ 28 5 rfl Tryd.underlying28 Tryd.info5 _ _ _ rfl hv1 _ 1 rfl (by omega) (by simp <;> omega) ?_; intro vs1 hvs1; rw [show (1 : Int).toNat = 1 from rfl] at hvs1) | fail)
          go_meet
          exact ⟨1, _, HI.out, by first | rfl | simp, rfl, hvs1, rfl⟩
        · have e1 : ((c1.toNat : Int) == 48) = false := by simp; omega
          by_cases h49 : 49 ≤ c1.toNat ∧ c1.toNat ≤ 57
          · have e2 : (49 : Int) ≤ c1.toNat := by omega
            have e3 : (c1.toNat : Int) ≤ 57 := by omega
            have HI : Hid (intN (c1 :: l1) = some (1 + digN l1)) := hid (by rw [intN_cons, if_neg h48, if_pos h49])
            clear h48 h49
            go_wp2_with (first | ((with_reducible refine is_index ?_); refine wpList_index_view _ rfl _ _ 28 5 rfl Tryd.underlying28 Tryd.info5 _ _ _ rfl hv1 _ 0 rfl (by omega) h0 ?_; intro ad1 hc1; simp only [List.getElem_cons_zero, Int.toNat_zero] at hc1) | ((with_reducible refine is_from ?_); refine wpList_slice_from _ rfl _ _ 28 5 rfl Tryd.underlying28 Tryd.info5 _ _ _ rfl hv1 _ 1 rfl (by omega) (by simp <;> omega) ?_; intro vs1 hvs1; rw [show (1 : Int).toNat = 1 from rfl, List.drop_succ_cons, List.drop_zero] at hvs1) | fail)
            go_loop [4, 5] (fun n s => ∃ (m : Nat) (v' : Value), m ≤ l1.length ∧ n = .int .i64 ((K + 1 : Int) + (m : Int)) ∧ s = v' ∧ View w g v' (l1.drop m) ∧ digN (l1.drop m) + m = digN l1) (fun n _ => (K + 1 + l1.length) - (intOf n).toNat)
            case atStart => exact ⟨0, _, Nat.zero_le _, by first | rfl | simp, rfl, by simpa using hvs1, by simp⟩
            case round =>
              obtain ⟨m, v', hml', rfl, rfl, hv', hdm⟩ := hrel
              have HDM := hid hdm
              clear hdm
              obtain ⟨ao', cp', rfl⟩ := hv'.slice
              have hll : (l1.drop m).length = l1.length - m := List.length_drop
              rw [hll] at hv'
              by_cases hlt : m < l1.length
              · have h0 : (0 : Int).toNat < (l1.drop m).length := by simp; omega
                have hge : (l1.drop m)[(0 : Int).toNat]'h0 = l1[m] := by simp
                have bcm := byte_bd l1[m]
                cases hdg : isDg l1[m] with
                | true =>
                  have HST := hid (digN_step hlt hdg)
                  have hdi := (isDg_iff _).1 hdg
                  obtain ⟨hd1, hd2⟩ := hdi
                  clear hdg
                  go_wp2_with (first | ((with_reducible refine is_index ?_); refine wpList_index_view _ rfl _ _ 28 5 rfl Tryd.underlying28 Tryd.info5 _ _ _ rfl hv' _ 0 rfl (by omega) h0 ?_; intro ad1 hc1; rw [hge] at hc1) | ((with_reducible refine is_from ?_); refine wpList_slice_from _ rfl _ _ 28 5 rfl Tryd.underlying28 Tryd.info5 _ _ _ rfl hv' _ 1 rfl (by omega) (by rw [hll]; omega) ?_; intro vs2 hvs2; rw [show (1 : Int).toNat = 1 from rfl, List.drop_drop] at hvs2) | fail)
                  go_round
                  case rel => exact ⟨m + 1, _, by omega, by go_num, rfl, hvs2, by rw [← HDM.out, HST.out]; omega⟩
                  case measure => simp [intOf]; omega
                | false =>
                  have HST := hid (digN_stop hlt hdg)
                  have hdi : ¬ ((48 : Int) ≤ l1[m].toNat ∧ (l1[m].toNat : Int) ≤ 57) := fun h => by rw [(isDg_iff _).2 h] at hdg; cases hdg
                  have hfin : digN l1 = m := by rw [← HDM.out, HST.out]; omega
                  have HFIN := hid hfin
                  have hdi2 : (¬ (48 : Int) ≤ l1[m].toNat) ∨ ((48 : Int) ≤ l1[m].toNat ∧ ¬ (l1[m].toNat : Int) ≤ 57) := by omega
                  clear hdg hdi hfin
                  rcases hdi2 with hd1 | ⟨hd1, hd2⟩
                  all_goals
                    go_wp2_with (first | ((with_reducible refine is_index ?_); refine wpList_index_view _ rfl _ _ 28 5 rfl Tryd.underlying28 Tryd.info5 _ _ _ rfl hv' _ 0 rfl (by omega) h0 ?_; intro ad1 hc1; rw [hge] at hc1) | fail)
                    go_meet
                    exact ⟨1 + m, _, by rw [HI.out, HFIN.out], by first | rfl | (congr 1; omega), rfl, by rw [Nat.add_comm 1 m, List.drop_succ_cons]; exact hv', rfl⟩
              · have hmm : m = l1.length := by omega
                have hfin : digN l1 = m := by rw [← HDM.out, hmm, List.drop_length]; simp [digN]
                have HFIN := hid hfin
                clear hfin hmm
                go_wp2_with fail
                go_meet
                exact ⟨1 + m, _, by rw [HI.out, HFIN.out], by first | rfl | (congr 1; omega), rfl, by rw [Nat.add_comm 1 m, List.drop_succ_cons]; exact hv', rfl⟩
          · have HF := hid (numRes_none (numJ_int (l := c :: l) (by rw [HK.out, HL1.out, intN_cons, if_neg h48, if_neg h49])))
            have e2 : (¬ (49 : Int) ≤ c1.toNat) ∨ ((49 : Int) ≤ c1.toNat ∧ ¬ (c1.toNat : Int) ≤ 57) := by omega
            clear h48 h49
            rcases e2 with e2 | ⟨e2, e3⟩
            all_goals
              go_wp2_with (first | ((with_reducible refine is_index ?_); refine wpList_index_view _ rfl _ _ 28 5 rfl Tryd.underlying28 Tryd.info5 _ _ _ rfl hv1 _ 0 rfl (by omega) h0 ?_; intro ad1 hc1; simp only [List.getElem_cons_zero, Int.toNat_zero] at hc1) | fail)
              go_ret2
              exact ⟨by rw [HF.out]; rfl, rfl⟩
        --END
      case rest =>
        obtain ⟨i, v2, hi, rfl, rfl, hv2, rfl⟩ := hcut
        have hi1 := intN_le hi
        have HI := hid hi
        have HL2 : Hid ((c :: l).drop (K + i) = (c1 :: l1).drop i) := hid (by rw [← HL1.out, List.drop_drop])
        have hil : i ≤ 100000001 := by have := hi1.2; simp at this; omega
        have hl2m : ((c1 :: l1).drop i).length ≤ 100000000 := by have := hi1.1; simp only [List.length_drop, List.length_cons]; omega
        clear hi hi1 hv1 b1
        generalize (c1 :: l1).drop i = L2 at *
        have hfl := fracN_le L2
        obtain ⟨fb, hfb⟩ : ∃ b : Bool, b = decide (fracN L2 ≠ 0) := ⟨_, rfl⟩
        have HFB := hid hfb
        clear hfb
        go_upto_region 20 with fail
        go_cut [84] (fun t wx => t = .bool fb ∧ w = wx)
        case first =>
          as_aux_lemma =>
          match L2, hl2m, hfl, hv2 with
          | [], _, _, hv2 =>
            go_wp2_with (first | ((with_reducible refine is_len ?_); refine wpList_len_view _ rfl _ 28 5 rfl Tryd.underlying28 _ _ _ rfl hv2 ?_) | fail)
            go_meet
            exact ⟨by rw [HFB.out]; simp [fracN], rfl⟩
          | [a], _, _, hv2 =>
            go_wp2_with (first | ((with_reducible refine is_len ?_); refine wpList_len_view _ rfl _ 28 5 rfl Tryd.underlying28 _ _ _ rfl hv2 ?_) | fail)
            go_meet
            exact ⟨by rw [HFB.out]; simp [fracN], rfl⟩
          | a :: d :: l2, _, _, hv2 =>
            have h0 : (0 : Int).toNat < (a :: d :: l2).length := by simp
            have h1 : (1 : Int).toNat < (a :: d :: l2).length := by simp
            have ba := byte_bd a
            have bd := byte_bd d
            by_cases h46 : a.toNat = 46
            · have e1 : ((a.toNat : Int) == 46) = true := by simp; omega
              have hff : decide (fracN (a :: d :: l2) ≠ 0) = isDg d := by
                rw [fracN_two]
                cases isDg d <;> simp [h46]
              have HFF := hid hff
              clear hff
              by_cases hd1 : (48 : Int) ≤ d.toNat
              · by_cases hd2 : (d.toNat : Int) ≤ 57
                · go_wp2_with (first | ((with_reducible refine is_len ?_); refine wpList_len_view _ rfl _ 28 5 rfl Tryd.underlying28 _ _ _ rfl hv2 ?_) | ((with_reducible refine is_index ?_); refine wpList_index_view _ rfl _ _ 28 5 rfl Tryd.underlying28 Tryd.info5 _ _ _ rfl hv2 _ 0 rfl (by omega) h0 ?_; intro ad1 hc1; simp only [List.getElem_cons_zero, Int.toNat_zero] at hc1) | ((with_reducible refine is_index ?_); refine wpList_index_view _ rfl _ _ 28 5 rfl Tryd.underlying28 Tryd.info5 _ _ _ rfl hv2 _ 1 rfl (by omega) h1 ?_; intro ad2 hc2; simp only [Int.toNat_one, List.getElem_cons_succ, List.getElem_cons_zero] at hc2) | fail)
                  go_meet
                  exact ⟨by rw [HFB.out, HFF.out, (isDg_iff d).2 ⟨hd1, hd2⟩], rfl⟩
                · have HD : Hid (isDg d = false) := hid (by rw [Bool.eq_false_iff]; intro h; exact hd2 ((isDg_iff d).1 h).2)
                  go_wp2_with (first | ((with_reducible refine is_len ?_); refine wpList_len_view _ rfl _ 28 5 rfl Tryd.underlying28 _ _ _ rfl hv2 ?_) | ((with_reducible refine is_index ?_); refine wpList_index_view _ rfl _ _ 28 5 rfl Tryd.underlying28 Tryd.info5 _ _ _ rfl hv2 _ 0 rfl (by omega) h0 ?_; intro ad1 hc1; simp only [List.getElem_cons_zero, Int.toNat_zero] at hc1) | ((with_reducible refine is_index ?_); refine wpList_index_view _ rfl _ _ 28 5 rfl Tryd.underlying28 Tryd.info5 _ _ _ rfl hv2 _ 1 rfl (by omega) h1 ?_; intro ad2 hc2; simp only [Int.toNat_one, List.getElem_cons_succ, List.getElem_cons_zero] at hc2) | fail)
                  go_meet
                  exact ⟨by rw [HFB.out, HFF.out, HD.out], rfl⟩
              · have HD : Hid (isDg d = false) := hid (by rw [Bool.eq_false_iff]; intro h; exact hd1 ((isDg_iff d).1 h).1)
                go_wp2_with (first | ((with_reducible refine is_len ?_); refine wpList_len_view _ rfl _ 28 5 rfl Tryd.underlying28 _ _ _ rfl hv2 ?_) | ((with_reducible refine is_index ?_); refine wpList_index_view _ rfl _ _ 28 5 rfl Tryd.underlying28 Tryd.info5 _ _ _ rfl hv2 _ 0 rfl (by omega) h0 ?_; intro ad1 hc1; simp only [List.getElem_cons_zero, Int.toNat_zero] at hc1) | ((with_reducible refine is_index ?_); refine wpList_index_view _ rfl _ _ 28 5 rfl Tryd.underlying28 Tryd.info5 _ _ _ rfl hv2 _ 1 rfl (by omega) h1 ?_; intro ad2 hc2; simp only [Int.toNat_one, List.getElem_cons_succ, List.getElem_cons_zero] at hc2) | fail)
                go_meet
                exact ⟨by rw [HFB.out, HFF.out, HD.out], rfl⟩
            · have e1 : ((a.toNat : Int) == 46) = false := by simp; omega
              have HFF : Hid (fracN (a :: d :: l2) = 0) := hid (by rw [fracN_two, if_neg (fun h => h46 h.1)])
              clear h46
              go_wp2_with (first | ((with_reducible refine is_len ?_); refine wpList_len_view _ rfl _ 28 5 rfl Tryd.underlying28 _ _ _ rfl hv2 ?_) | ((with_reducible refine is_index ?_); refine wpList_index_view _ rfl _ _ 28 5 rfl Tryd.underlying28 Tryd.info5 _ _ _ rfl hv2 _ 0 rfl (by omega) h0 ?_; intro ad1 hc1; simp only [List.getElem_cons_zero, Int.toNat_zero] at hc1) | fail)
              go_meet
              exact ⟨by rw [HFB.out, HFF.out]; rfl, rfl⟩
          --END
        case rest =>
          obtain ⟨rfl, rfl⟩ := hcut
          go_upto_if 84 with fail
          go_cut [4, 5] (fun n s wx => n = .int .i64 ((K : Int) + (i : Int) + (fracN L2 : Int)) ∧ (∃ v', s = v' ∧ View w g v' (L2.drop (fracN L2))) ∧ w = wx)
          case first =>
            as_aux_lemma =>
            cases fb with
            | false =>
              have hf0 : fracN L2 = 0 := by have := HFB.out; simpa using this.symm
              have HF0 := hid hf0
              clear hf0 HFB
              go_wp2_with fail
              go_meet
              exact ⟨by rw [HF0.out]; simp, ⟨_, rfl, by rw [HF0.out]; exact hv2⟩, rfl⟩
            | true =>
              have hf0 : fracN L2 ≠ 0 := by have := HFB.out; simpa using this.symm
              obtain ⟨a, d, l2, rfl, hfe⟩ : ∃ a d l2, L2 = a :: d :: l2 ∧ fracN L2 = 2 + digN l2 := by
                match L2, hf0 with
                | [], h => exact absurd rfl h
                | [_], h => exact absurd rfl h
                | a :: d :: l2, h =>
                  rw [fracN_two] at h
                  by_cases hc : a.toNat = 46 ∧ isDg d = true
                  · exact ⟨a, d, l2, rfl, by rw [fracN_two, if_pos hc]⟩
                  · rw [if_neg hc] at h; exact absurd rfl h
              have HFE := hid hfe
              clear hfe hf0 HFB
              have hl2n : l2.length ≤ 100000000 := by simp at hl2m; omega
              go_wp2_with (first | ((with_reducible refine is_from ?_); refine wpList_slice_from _ rfl _ _ 28 5 rfl Tryd.underlying28 Tryd.info5 _ _ _ rfl hv2 _ 2 rfl (by omega) (by simp <;> omega) ?_; intro vs1 hvs1; rw [show (2 : Int).toNat = 2 from rfl, List.drop_succ_cons, List.drop_succ_cons, List.drop_zero] at hvs1) | fail)
              go_loop [4, 5] (fun n s => ∃ (m : Nat) (v' : Value), m ≤ l2.length ∧ n = .int .i64 ((K + i + 2 : Int) + (m : Int)) ∧ s = v' ∧ View w g v' (l2.drop m) ∧ digN (l2.drop m) + m = digN l2) (fun n _ => (K + i + 2 + l2.length) - (intOf n).toNat)
              case atStart => exact ⟨0, _, Nat.zero_le _, by first | rfl | simp, rfl, by simpa using hvs1, by simp⟩
              case round =>
                obtain ⟨m, v', hml', rfl, rfl, hv', hdm⟩ := hrel
                have HDM := hid hdm
                clear hdm
                obtain ⟨ao', cp', rfl⟩ := hv'.slice
                have hll : (l2.drop m).length = l2.length - m := List.length_drop
                rw [hll] at hv'
                by_cases hlt : m < l2.length
                · have h0 : (0 : Int).toNat < (l2.drop m).length := by simp; omega
                  have hge : (l2.drop m)[(0 : Int).toNat]'h0 = l2[m] := by simp
                  have bcm := byte_bd l2[m]
                  cases hdg : isDg l2[m] with
                  | true =>
                    have HST := hid (digN_step hlt hdg)
                    have hdi := (isDg_iff _).1 hdg
                    obtain ⟨hd1, hd2⟩ := hdi
                    clear hdg
                    go_wp2_with (first | ((with_reducible refine is_index ?_); refine wpList_index_view _ rfl _ _ 28 5 rfl Tryd.underlying28 Tryd.info5 _ _ _ rfl hv' _ 0 rfl (by omega) h0 ?_; intro ad1 hc1; rw [hge] at hc1) | ((with_reducible refine is_from ?_); refine wpList_slice_from _ rfl _ _ 28 5 rfl Tryd.underlying28 Tryd.info5 _ _ _ rfl hv' _ 1 rfl (by omega) (by rw [hll]; omega) ?_; intro vs2 hvs2; rw [show (1 : Int).toNat = 1 from rfl, List.drop_drop] at hvs2) | fail)
                    go_round
                    case rel => exact ⟨m + 1, _, by omega, by go_num, rfl, hvs2, by rw [← HDM.out, HST.out]; omega⟩
                    case measure => simp [intOf]; omega
                  | false =>
                    have HST := hid (digN_stop hlt hdg)
                    have hdi : ¬ ((48 : Int) ≤ l2[m].toNat ∧ (l2[m].toNat : Int) ≤ 57) := fun h => by rw [(isDg_iff _).2 h] at hdg; cases hdg
                    have hfin : digN l2 = m := by rw [← HDM.out, HST.out]; omega
                    have HFIN := hid hfin
                    have hdi2 : (¬ (48 : Int) ≤ l2[m].toNat) ∨ ((48 : Int) ≤ l2[m].toNat ∧ ¬ (l2[m].toNat : Int) ≤ 57) := by omega
                    clear hdg hdi hfin
                    rcases hdi2 with hd1 | ⟨hd1, hd2⟩
                    all_goals
                      go_wp2_with (first | ((with_reducible refine is_index ?_); refine wpList_index_view _ rfl _ _ 28 5 rfl Tryd.underlying28 Tryd.info5 _ _ _ rfl hv' _ 0 rfl (by omega) h0 ?_; intro ad1 hc1; rw [hge] at hc1) | fail)
                      go_meet
                      exact ⟨by rw [HFE.out, HFIN.out]; first | rfl | (congr 1; omega), ⟨_, rfl, by rw [HFE.out, HFIN.out, Nat.add_comm 2 m, List.drop_succ_cons, List.drop_succ_cons]; exact hv'⟩, rfl⟩
                · have hmm : m = l2.length := by omega
                  have hfin : digN l2 = m := by rw [← HDM.out, hmm, List.drop_length]; simp [digN]
                  have HFIN := hid hfin
                  clear hfin hmm
                  go_wp2_with fail
                  go_meet
                  exact ⟨by rw [HFE.out, HFIN.out]; first | rfl | (congr 1; omega), ⟨_, rfl, by rw [HFE.out, HFIN.out, Nat.add_comm 2 m, List.drop_succ_cons, List.drop_succ_cons]; exact hv'⟩, rfl⟩
            --END
          case rest =>
            obtain ⟨rfl, ⟨v3, rfl, hv3⟩, rfl⟩ := hcut
            have HL3 : Hid ((c :: l).drop (K + i + fracN L2) = L2.drop (fracN L2)) := hid (by rw [← HL2.out, List.drop_drop])
            have HFL : Hid (fracN ((c :: l).drop (K + i)) = fracN L2) := hid (by rw [HL2.out])
            have hl3m : (L2.drop (fracN L2)).length ≤ 100000000 := by simp only [List.length_drop]; omega
            have hfm : fracN L2 ≤ 100000000 := by omega
            clear hv2 HFB hfl hl2m
            generalize fracN L2 = F at *
            generalize L2.drop F = L3 at *
            obtain ⟨eb, heb⟩ : ∃ b : Bool, b = isExp L3 := ⟨_, rfl⟩
            have HEB := hid heb
            clear heb
            go_upto_region 26 with fail
            go_cut [122] (fun t wx => t = .bool eb ∧ w = wx)
            case first =>
              as_aux_lemma =>
              match L3, hv3, HEB with
              | [], hv3, HEB =>
                go_wp2_with (first | ((with_reducible refine is_len ?_); refine wpList_len_view _ rfl _ 28 5 rfl Tryd.underlying28 _ _ _ rfl hv3 ?_) | fail)
                go_meet
                exact ⟨by rw [HEB.out]; rfl, rfl⟩
              | [a], hv3, HEB =>
                go_wp2_with (first | ((with_reducible refine is_len ?_); refine wpList_len_view _ rfl _ 28 5 rfl Tryd.underlying28 _ _ _ rfl hv3 ?_) | fail)
                go_meet
                exact ⟨by rw [HEB.out]; rfl, rfl⟩
              | a :: d :: l3, hv3, HEB =>
                have h0 : (0 : Int).toNat < (a :: d :: l3).length := by simp
                have ba := byte_bd a
                by_cases h101 : a.toNat = 101
                · have e1 : ((a.toNat : Int) == 101) = true := by simp; omega
                  go_wp2_with (first | ((with_reducible refine is_len ?_); refine wpList_len_view _ rfl _ 28 5 rfl Tryd.underlying28 _ _ _ rfl hv3 ?_) | ((with_reducible refine is_index ?_); refine wpList_index_view _ rfl _ _ 28 5 rfl Tryd.underlying28 Tryd.info5 _ _ _ rfl hv3 _ 0 rfl (by omega) h0 ?_; intro ad1 hc1; simp only [List.getElem_cons_zero, Int.toNat_zero] at hc1) | fail)
                  go_meet
                  exact ⟨by rw [HEB.out]; simp [isExp, h101], rfl⟩
                · have e1 : ((a.toNat : Int) == 101) = false := by simp; omega
                  by_cases h69 : a.toNat = 69
                  · have e2 : ((a.toNat : Int) == 69) = true := by simp; omega
                    go_wp2_with (first | ((with_reducible refine is_len ?_); refine wpList_len_view _ rfl _ 28 5 rfl Tryd.underlying28 _ _ _ rfl hv3 ?_) | ((with_reducible refine is_index ?_); refine wpList_index_view _ rfl _ _ 28 5 rfl Tryd.underlying28 Tryd.info5 _ _ _ rfl hv3 _ 0 rfl (by omega) h0 ?_; intro ad1 hc1; simp only [List.getElem_cons_zero, Int.toNat_zero] at hc1) | fail)
                    go_meet
                    exact ⟨by rw [HEB.out]; simp [isExp, h69], rfl⟩
                  · have e2 : ((a.toNat : Int) == 69) = false := by simp; omega
                    go_wp2_with (first | ((with_reducible refine is_len ?_); refine wpList_len_view _ rfl _ 28 5 rfl Tryd.underlying28 _ _ _ rfl hv3 ?_) | ((with_reducible refine is_index ?_); refine wpList_index_view _ rfl _ _ 28 5 rfl Tryd.underlying28 Tryd.info5 _ _ _ rfl hv3 _ 0 rfl (by omega) h0 ?_; intro ad1 hc1; simp only [List.getElem_cons_zero, Int.toNat_zero] at hc1) | fail)
                    go_meet
                    exact ⟨by rw [HEB.out]; simp [isExp, h69, h101], rfl⟩
              --END
            case rest =>
              obtain ⟨rfl, rfl⟩ := hcut
              go_upto_if 122 with fail
              go_cut [4, 5] (fun n s wx => ∃ e, expN L3 = some e ∧ n = .int .i64 ((K : Int) + (i : Int) + (F : Int) + (e : Int)) ∧ (∃ v', s = v') ∧ w = wx)
              case first =>
                cases eb with
                | false =>
                  have HE : Hid (expN L3 = some 0) := hid (by
                    match L3, HEB with
                    | [], _ => rfl
                    | [_], _ => rfl
                    | a :: d :: l3, HEB =>
                      have := HEB.out
                      rw [expN_two, if_neg (by simpa [isExp] using this.symm)])
                  clear HEB
                  go_wp2_with fail
                  go_meet
                  exact ⟨0, HE.out, by simp, ⟨_, rfl⟩, rfl⟩
                | true =>
                  obtain ⟨a, d, l3, rfl, ha⟩ : ∃ a d l3, L3 = a :: d :: l3 ∧ (a.toNat = 101 ∨ a.toNat = 69) := by
                    match L3, HEB with
                    | [], HEB => have := HEB.out; cases this
                    | [_], HEB => have := HEB.out; cases this
                    | a :: d :: l3, HEB => exact ⟨a, d, l3, rfl, by have := HEB.out; simpa [isExp] using this.symm⟩
                  have HX := hid (expN_two a d l3)
                  have HA := hid ha
                  clear ha HEB
                  have hl3n : l3.length ≤ 99999999 := by simp at hl3m; omega
                  have hl3n2 : (d :: l3).length ≤ 100000000 := by simp; omega
                  have h0d : (0 : Int).toNat < (d :: l3).length := by simp
                  have bd := byte_bd d
                  obtain ⟨sg, hsg⟩ : ∃ b : Bool, b = decide (d.toNat = 43 ∨ d.toNat = 45) := ⟨_, rfl⟩
                  have HSG := hid hsg
                  clear hsg
                  go_upto_region 29 with (first | ((with_reducible refine is_from ?_); refine wpList_slice_from _ rfl _ _ 28 5 rfl Tryd.underlying28 Tryd.info5 _ _ _ rfl hv3 _ 1 rfl (by omega) (by simp <;> omega) ?_; intro vs1 hvs1; rw [show (1 : Int).toNat = 1 from rfl, List.drop_succ_cons, List.drop_zero] at hvs1) | fail)
                  go_cut [136] (fun t wx => t = .bool sg ∧ w = wx)
                  case first =>
                    as_aux_lemma =>
                    by_cases q1 : d.toNat = 43
                    · have e1 : ((d.toNat : Int) == 43) = true := by simp; omega
                      go_wp2_with (first | ((with_reducible refine is_index ?_); refine wpList_index_view _ rfl _ _ 28 5 rfl Tryd.underlying28 Tryd.info5 _ _ _ rfl hvs1 _ 0 rfl (by omega) h0d ?_; intro ad1 hc1; simp only [List.getElem_cons_zero, Int.toNat_zero] at hc1) | fail)
                      go_meet
                      exact ⟨by rw [HSG.out]; simp [q1], rfl⟩
                    · have e1 : ((d.toNat : Int) == 43) = false := by simp; omega
                      by_cases q2 : d.toNat = 45
                      · have e2 : ((d.toNat : Int) == 45) = true := by simp; omega
                        go_wp2_with (first | ((with_reducible refine is_index ?_); refine wpList_index_view _ rfl _ _ 28 5 rfl Tryd.underlying28 Tryd.info5 _ _ _ rfl hvs1 _ 0 rfl (by omega) h0d ?_; intro ad1 hc1; simp only [List.getElem_cons_zero, Int.toNat_zero] at hc1) | fail)
                        go_meet
                        exact ⟨by rw [HSG.out]; simp [q2], rfl⟩
                      · have e2 : ((d.toNat : Int) == 45) = false := by simp; omega
                        go_wp2_with (first | ((with_reducible refine is_index ?_); refine wpList_index_view _ rfl _ _ 28 5 rfl Tryd.underlying28 Tryd.info5 _ _ _ rfl hvs1 _ 0 rfl (by omega) h0d ?_; intro ad1 hc1; simp only [List.getElem_cons_zero, Int.toNat_zero] at hc1) | fail)
                        go_meet
                        exact ⟨by rw [HSG.out]; simp [q1, q2], rfl⟩
                    --END
                  case rest =>
                    obtain ⟨rfl, rfl⟩ := hcut
                    go_upto_if 136 with fail
                    go_cut [4, 5] (fun n s wx => ∃ (z : Nat) (L4 : List UInt8) (v' : Value), z ≤ 2 ∧ L4.length ≤ 100000000 ∧ expN (a :: d :: l3) = some (z + digN L4) ∧ n = .int .i64 ((K : Int) + (i : Int) + (F : Int) + (z : Int)) ∧ s = v' ∧ View w g v' L4 ∧ w = wx)
                    case first =>
                      as_aux_lemma =>
                      cases sg with
                      | false =>
                        have hsg : ¬ (d.toNat = 43 ∨ d.toNat = 45) := by have := HSG.out; simpa using this.symm
                        have HX3 : Hid (expN (a :: d :: l3) = some (1 + digN (d :: l3))) := hid (by rw [HX.out, if_pos HA.out, if_neg hsg])
                        clear hsg HX HSG
                        go_wp2_with fail
                        go_meet
                        exact ⟨1, _, _, by omega, hl3n2, HX3.out, by simp, rfl, hvs1, rfl⟩
                      | true =>
                        have hsg : d.toNat = 43 ∨ d.toNat = 45 := by have := HSG.out; simpa using this.symm
                        have HX2 : Hid (expN (a :: d :: l3) = if l3 = [] then none else some (2 + digN l3)) := hid (by rw [HX.out, if_pos HA.out, if_pos hsg])
                        clear hsg HX HSG
                        cases l3 with
                        | nil =>
                          have HF := hid (numRes_none (numJ_exp (l := c :: l) (i := i) (by rw [HK.out, HL1.out]; exact HI.out) (by rw [HK.out, HFL.out, HL3.out, HX2.out]; rfl)))
                          go_wp2_with (first | ((with_reducible refine is_len ?_); refine wpList_len_view _ rfl _ 28 5 rfl Tryd.underlying28 _ _ _ rfl hvs2 ?_) | ((with_reducible refine is_from ?_); refine wpList_slice_from _ rfl _ _ 28 5 rfl Tryd.underlying28 Tryd.info5 _ _ _ rfl hvs1 _ 1 rfl (by omega) (by simp <;> omega) ?_; intro vs2 hvs2; rw [show (1 : Int).toNat = 1 from rfl, List.drop_succ_cons, List.drop_zero] at hvs2) | fail)
                          go_ret2
                          exact ⟨by rw [HF.out]; rfl, rfl⟩
                        | cons b3 l4 =>
                          have HX3 : Hid (expN (a :: d :: b3 :: l4) = some (2 + digN (b3 :: l4))) := hid (by rw [HX2.out, if_neg (by simp)])
                          clear HX2
                          go_wp2_with (first | ((with_reducible refine is_len ?_); refine wpList_len_view _ rfl _ 28 5 rfl Tryd.underlying28 _ _ _ rfl hvs2 ?_) | ((with_reducible refine is_from ?_); refine wpList_slice_from _ rfl _ _ 28 5 rfl Tryd.underlying28 Tryd.info5 _ _ _ rfl hvs1 _ 1 rfl (by omega) (by simp <;> omega) ?_; intro vs2 hvs2; rw [show (1 : Int).toNat = 1 from rfl, List.drop_succ_cons, List.drop_zero] at hvs2) | fail)
                          go_meet
                          exact ⟨2, _, _, by omega, by omega, HX3.out, by first | rfl | (congr 1; omega), rfl, hvs2, rfl⟩
                      --END
                    case rest =>
                      obtain ⟨z, L4, v5, hz, hl4n, hx4, rfl, rfl, hvs1, rfl⟩ := hcut
                      have HX3 := hid hx4
                      clear hx4 HX HSG hv3
                      as_aux_lemma =>
                      go_wp2_with fail
                      go_loop [4, 5] (fun n s => ∃ (m : Nat) (v' : Value), m ≤ L4.length ∧ n = .int .i64 ((K + i + F + z : Int) + (m : Int)) ∧ s = v' ∧ View w g v' (L4.drop m) ∧ digN (L4.drop m) + m = digN L4) (fun n _ => (K + i + F + z + L4.length) - (intOf n).toNat)
                      case atStart => exact ⟨0, _, Nat.zero_le _, by first | rfl | simp, rfl, by simpa using hvs1, by simp⟩
                      case round =>
                        obtain ⟨m, v', hml', rfl, rfl, hv', hdm⟩ := hrel
                        have HDM := hid hdm
                        clear hdm
                        obtain ⟨ao', cp', rfl⟩ := hv'.slice
                        have hll : (L4.drop m).length = L4.length - m := List.length_drop
                        rw [hll] at hv'
                        by_cases hlt : m < L4.length
                        · have h0 : (0 : Int).toNat < (L4.drop m).length := by simp; omega
                          have hge : (L4.drop m)[(0 : Int).toNat]'h0 = L4[m] := by simp
                          have bcm := byte_bd L4[m]
                          cases hdg : isDg L4[m] with
                          | true =>
                            have HST := hid (digN_step hlt hdg)
                            have hdi := (isDg_iff _).1 hdg
                            obtain ⟨hd1, hd2⟩ := hdi
                            clear hdg
                            go_wp2_with (first | ((with_reducible refine is_index ?_); refine wpList_index_view _ rfl _ _ 28 5 rfl Tryd.underlying28 Tryd.info5 _ _ _ rfl hv' _ 0 rfl (by omega) h0 ?_; intro ad1 hc1; rw [hge] at hc1) | ((with_reducible refine is_from ?_); refine wpList_slice_from _ rfl _ _ 28 5 rfl Tryd.underlying28 Tryd.info5 _ _ _ rfl hv' _ 1 rfl (by omega) (by rw [hll]; omega) ?_; intro vs2 hvs2; rw [show (1 : Int).toNat = 1 from rfl, List.drop_drop] at hvs2) | fail)
                            go_round
                            case rel => exact ⟨m + 1, _, by omega, by go_num, rfl, hvs2, by rw [← HDM.out, HST.out]; omega⟩
                            case measure => simp [intOf]; omega
                          | false =>
                            have HST := hid (digN_stop hlt hdg)
                            have hdi : ¬ ((48 : Int) ≤ L4[m].toNat ∧ (L4[m].toNat : Int) ≤ 57) := fun h => by rw [(isDg_iff _).2 h] at hdg; cases hdg
                            have hfin : digN L4 = m := by rw [← HDM.out, HST.out]; omega
                            have HFIN := hid hfin
                            have hdi2 : (¬ (48 : Int) ≤ L4[m].toNat) ∨ ((48 : Int) ≤ L4[m].toNat ∧ ¬ (L4[m].toNat : Int) ≤ 57) := by omega
                            clear hdg hdi hfin
                            rcases hdi2 with hd1 | ⟨hd1, hd2⟩
                            all_goals
                              go_wp2_with (first | ((with_reducible refine is_index ?_); refine wpList_index_view _ rfl _ _ 28 5 rfl Tryd.underlying28 Tryd.info5 _ _ _ rfl hv' _ 0 rfl (by omega) h0 ?_; intro ad1 hc1; rw [hge] at hc1) | fail)
                              go_meet
                              exact ⟨z + m, by rw [HX3.out, HFIN.out], by first | rfl | (congr 1; omega), ⟨_, rfl⟩, rfl⟩
                        · have hmm : m = L4.length := by omega
                          have hfin : digN L4 = m := by rw [← HDM.out, hmm, List.drop_length]; simp [digN]
                          have HFIN := hid hfin
                          clear hfin hmm
                          go_wp2_with fail
                          go_meet
                          exact ⟨z + m, by rw [HX3.out, HFIN.out], by first | rfl | (congr 1; omega), ⟨_, rfl⟩, rfl⟩
                      --END
              case rest =>
                obtain ⟨e, he, rfl, ⟨v4, rfl⟩, rfl⟩ := hcut
                have hel := expN_le he
                have HNE := hid (numJ_end (l := c :: l) (i := i) (e := e) (by rw [HK.out, HL1.out]; exact HI.out) (by rw [HK.out, HFL.out, HL3.out]; exact he))
                rw [HK.out, HFL.out] at HNE
                obtain ⟨N, hN⟩ : ∃ N, N = K + i + F + e := ⟨_, rfl⟩
                rw [← hN] at HNE
                have hNi : (K : Int) + (i : Int) + (F : Int) + (e : Int) = (N : Int) := by omega
                rw [hNi]
                have hNm : (N : Int) ≤ 400000010 := by
                  have := HI.out
                  have h1 := (intN_le this).2
                  simp only [List.length_cons] at h1
                  omega
                clear he hel HL3 HFL HI HL2 HL1 hNi hN
                as_aux_lemma =>
                by_cases hlt : N < (c :: l).length
                · have hdr : (c :: l).drop N = (c :: l)[N] :: (c :: l).drop (N + 1) := List.drop_eq_getElem_cons hlt
                  rw [hdr] at HNE
                  have HNE2 : Hid (numJ (c :: l) = if notDel (c :: l)[N] then none else some N) := hid HNE.out
                  have hin : ((N : Int)).toNat < (c :: l).length := by simpa using hlt
                  have hge : (c :: l)[((N : Int)).toNat]'hin = (c :: l)[N] := by simp
                  have hlti : (N : Int) < ((c :: l).length : Int) := by omega
                  have HD := hid (isNotDelim_any (c :: l)[N])
                  clear hdr HNE
                  generalize (c :: l)[N] = y at *
                  cases hnd : notDel y with
                  | true =>
                    rw [hnd] at HD HNE2
                    have HF := hid (numRes_none HNE2.out)
                    clear hnd
                    go_wp2_with (first | ((with_reducible refine is_len ?_); refine wpList_len_view _ rfl _ 28 5 rfl Tryd.underlying28 _ _ _ rfl hv ?_) | ((with_reducible refine is_index ?_); refine wpList_index_view _ rfl _ _ 28 5 rfl Tryd.underlying28 Tryd.info5 _ _ _ rfl hv _ (N : Int) rfl (by omega) hin ?_; intro ad1 hc1; rw [hge] at hc1) | (go_at_call 81; refine (Calls.mono (HD.out _) ?_); rintro e w' ⟨rfl, rfl⟩) | fail)
                    go_ret2
                    exact ⟨by rw [HF.out]; rfl, rfl⟩
                  | false =>
                    rw [hnd] at HD HNE2
                    have HF := hid (numRes_some HNE2.out)
                    clear hnd
                    go_wp2_with (first | ((with_reducible refine is_len ?_); refine wpList_len_view _ rfl _ 28 5 rfl Tryd.underlying28 _ _ _ rfl hv ?_) | ((with_reducible refine is_index ?_); refine wpList_index_view _ rfl _ _ 28 5 rfl Tryd.underlying28 Tryd.info5 _ _ _ rfl hv _ (N : Int) rfl (by omega) hin ?_; intro ad1 hc1; rw [hge] at hc1) | (go_at_call 81; refine (Calls.mono (HD.out _) ?_); rintro e w' ⟨rfl, rfl⟩) | fail)
                    go_ret2
                    exact ⟨by rw [HF.out]; rfl, rfl⟩
                · have hdr : (c :: l).drop N = [] := List.drop_eq_nil_of_le (by omega)
                  rw [hdr] at HNE
                  have HF := hid (numRes_some HNE.out)
                  have hlti : ¬ (N : Int) < ((c :: l).length : Int) := by omega
                  clear hdr HNE
                  go_wp2_with (first | ((with_reducible refine is_len ?_); refine wpList_len_view _ rfl _ 28 5 rfl Tryd.underlying28 _ _ _ rfl hv ?_) | fail)
                  go_ret2
                  exact ⟨by rw [HF.out]; rfl, rfl⟩
                --END
end Go.Proofs.YtjkmmhnhhiopiaaDoor
