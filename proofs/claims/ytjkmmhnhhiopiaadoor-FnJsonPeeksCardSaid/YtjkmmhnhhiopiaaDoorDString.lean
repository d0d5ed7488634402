/-
  The package's reader of JSON, walked: a string.
-/
import Derived.Test.YtjkmmhnhhiopiaaDoorDStringP
namespace Go.Proofs.YtjkmmhnhhiopiaaDoor
open Go.ChangeShapes Go.WideShapes Go.ChangeAt Go.RowKit

variable {B p g : Nat} {bs : List UInt8} {vr ve vst vo vi : Value}
set_option maxRecDepth 100000 in
set_option maxHeartbeats 100000000 in
theorem parseString_any (s : DS) (w : World) (h : DW B p g bs vr ve vst vo vi s w) (v : Value) (c0 : UInt8) (r : List UInt8) (gg : Nat) (hv0 : View w gg v (c0 :: r)) (hc0 : c0.toNat = 34) (hm : r.length ≤ 10000000) :
    Calls Tryd.prog 72 #[.pointer (some ⟨p, 0, none⟩), v] w fun e w' => StrRes (strJ (c0 :: r)) e ∧ Below w.heap.size w w' := by
  have hgg := hv0.lt (by simp)
  have hL0 : (c0 :: r).length = r.length + 1 := rfl
  have bc0 := byte_bd c0
  refine enter2 (M := 248) Tryd.func72 rfl rfl rfl fun a H => ?_
  refine y_seq fun K1 hK1 => ?_
  refine y_reg ?_
  refine y_assign H rfl rfl fun a H => ?_
  refine y_assign H rfl rfl fun a H => ?_
  refine y_assign H rfl rfl fun a H => ?_
  refine wpList_nil (then_normal (hK1 _ _ ?_))
  replace H := H.sub [(0, _), (1, _)] (sub_cons rfl (sub_cons rfl (sub_nil)))
  refine y_seq fun K2 hK2 => ?_
  refine y_reg ?_
  refine y_move H rfl rfl fun a H => ?_
  refine y_assign H rfl rfl fun a H => ?_
  refine wpList_nil (then_normal (hK2 _ _ ?_))
  replace H := H.sub [(0, _), (1, _), (7, _)] (sub_cons rfl (sub_cons rfl (sub_cons rfl (sub_nil))))
  refine y_seq fun K3 hK3 => ?_
  refine y_seq fun K4 hK4 => ?_
  refine y_reg ?_
  refine y_move H rfl rfl fun a H => ?_
  refine y_len Tryd.underlying28 H rfl hv0 rfl fun a H => ?_
  refine y_eql (b := false) H rfl rfl (ieq_f (by omega)) rfl fun a H => ?_
  refine wpList_nil (then_normal (hK4 _ _ ?_))
  replace H := H.sub [(0, _), (1, _), (7, _), (23, _)] (sub_cons rfl (sub_cons rfl (sub_cons rfl (sub_cons rfl (sub_nil)))))
  refine y_iff H rfl ?_
  refine wp_skip (then_normal (hK3 _ _ ?_))
  replace H := H.sub [(0, _), (1, _), (7, _)] (sub_cons rfl (sub_cons rfl (sub_cons rfl (sub_nil))))
  refine y_seq fun K5 hK5 => ?_
  refine y_seq fun K6 hK6 => ?_
  refine y_reg ?_
  refine y_move H rfl rfl fun a H => ?_
  refine y_idx Tryd.underlying28 info5u H rfl rfl hv0 (by decide) rfl rfl fun a ad H hc7 => ?_
  refine y_load one5Z H rfl hc7 rfl fun a H => ?_
  refine y_neq (b := false) H rfl rfl (ine_f (by omega)) rfl fun a H => ?_
  refine wpList_nil (then_normal (hK6 _ _ ?_))
  replace H := H.sub [(0, _), (1, _), (7, _), (28, _)] (sub_cons rfl (sub_cons rfl (sub_cons rfl (sub_cons rfl (sub_nil)))))
  refine y_iff H rfl ?_
  refine wp_skip (then_normal (hK5 _ _ ?_))
  replace H := H.sub [(0, _), (1, _), (7, _)] (sub_cons rfl (sub_cons rfl (sub_cons rfl (sub_nil))))
  refine y_seq fun K8 hK8 => ?_
  refine y_reg ?_
  refine y_move H rfl rfl fun a H => ?_
  refine y_fromN (m := 1) (ys := r) H rfl rfl hv0 (by omega) (by first | omega | (simp <;> omega)) (rfl) rfl fun a vs9 H hvs9 => ?_
  refine y_assign H rfl rfl fun a H => ?_
  refine wpList_nil (then_normal (hK8 _ _ ?_))
  replace H := H.sub [(0, _), (1, _), (7, _)] (sub_cons rfl (sub_cons rfl (sub_cons rfl (sub_nil))))
  refine y_seq fun K10 hK10 => ?_
  obtain ⟨i, hi⟩ : ∃ i, i = needAt r := ⟨_, rfl⟩
  have hil : i ≤ r.length := by rw [hi]; exact needN_le r.length r
  have HS : strA r [] = strA (r.drop i) (r.take i) := by rw [strA_skip r.length r [], hi]; rfl
  refine y_reg ?_
  refine y_move H rfl rfl fun a H => ?_
  have hP := needBytes_any _ (r) gg w hvs9 (by first | omega | (simp <;> omega))
  rw [← hi] at hP
  refine y_call pf_need H rfl rfl (Calls.mono (hP) ?_)
  rintro e w11 ⟨rfl, hb11⟩
  refine ⟨_, rfl, fun a H => ?_⟩
  have hv12 := View.below hv0 hb11
  have hv13 := View.below hvs9 hb11
  have hz14 := Below.size hb11
  refine y_assign H rfl rfl fun a H => ?_
  refine wpList_nil (then_normal (hK10 _ _ ?_))
  replace H := H.sub [(0, _), (1, _), (7, _), (8, _)] (sub_cons rfl (sub_cons rfl (sub_cons rfl (sub_cons rfl (sub_nil)))))
  refine y_seq fun K15 hK15 => ?_
  refine d_begin (fun _ => True) 9 mixedZ rfl ?_
  have hbd16 : Below w11.heap.size w11 w11.drew := (Below.refl _ _).drew
  generalize w11.drew = wd16 at hbd16 ⊢
  have hv17 := View.below hv12 hbd16
  have hv18 := View.below hv13 hbd16
  have hB19 := below_comp hb11 hbd16
  have hz20 := Below.size hB19
  refine d_take 0 H rfl (by kernel_rfl) (by kernel_rfl) (by kernel_rfl) (r_move H rfl) trivial rfl fun a H => ?_
  refine d_take 1 H rfl (by kernel_rfl) (by kernel_rfl) (by kernel_rfl) (r_move H rfl) trivial rfl fun a H => ?_
  obtain ⟨vs23, hsl23, hvs23⟩ := view_from (P := Tryd.prog) hv18 28 5 Tryd.underlying28 info5u .i64 (((i : Nat) : Int)) i (by omega) (by first | omega | (simp <;> omega))
  replace hvs23 : View _ _ vs23 ((r).drop i) := hvs23
  refine d_take 2 H rfl (by kernel_rfl) (by kernel_rfl) (by kernel_rfl) (r_fromZ Tryd.underlying28 H rfl rfl hsl23) trivial rfl fun a H => ?_
  refine d_take 3 H rfl (by kernel_rfl) (by kernel_rfl) (by kernel_rfl) (r_move H rfl) trivial rfl fun a H => ?_
  refine d_take 4 H rfl (by kernel_rfl) (by kernel_rfl) (by kernel_rfl) (r_move H rfl) trivial rfl fun a H => ?_
  refine d_take 5 H rfl (by kernel_rfl) (by kernel_rfl) (by kernel_rfl) (r_move H rfl) trivial rfl fun a H => ?_
  obtain ⟨vs27, hsl27, ho27⟩ := view_full (P := Tryd.prog) (B := w.heap.size) hv18 28 5 Tryd.underlying28 info5u .i64 .i64 i (by first | omega | (simp <;> omega))
  refine d_take 6 H rfl (by kernel_rfl) (by kernel_rfl) (by kernel_rfl) (r_fullZ Tryd.underlying28 H rfl rfl rfl hsl27) trivial rfl fun a H => ?_
  refine d_take 7 H rfl (by kernel_rfl) (by kernel_rfl) (by kernel_rfl) (r_assign H rfl) trivial rfl fun a H => ?_
  refine d_take 8 H rfl (by kernel_rfl) (by kernel_rfl) (by kernel_rfl) (r_assign H rfl) trivial rfl fun a H => ?_
  refine d_done (by kernel_rfl) (then_normal (hK15 _ _ ?_))
  replace H := H.sub [(0, _), (1, _), (7, _), (9, _)] (sub_cons rfl (sub_cons rfl (sub_cons rfl (sub_cons rfl (sub_nil)))))
  refine y_seq fun K30 hK30 => ?_
  refine wp_block ?_
  refine wp_loop_ghost (fun n a wx => ∃ (l out : List UInt8) (u o : Value), l.length = n ∧ Has 248 [] a [(0, .pointer (some ⟨p, 0, none⟩)), (1, u), (7, v), (9, o)] ∧ View wx gg u l ∧ OutV wx w.heap.size 5 o out ∧ strA r [] = strA l out ∧ Below w.heap.size w wx ∧ l.length ≤ r.length ∧ out.length + 4 * l.length ≤ 4 * r.length) (r.drop i).length ⟨_, _, _, _, rfl, H.sub _ (sub_cons rfl (sub_cons rfl (sub_cons rfl (sub_cons rfl (sub_nil))))), hvs23, ho27, HS, hB19, by simp, by simp; omega⟩ ?_
  rintro n a wr ⟨l, out, u, o, hln, H, hvl, hol, hst, hB, hlr, ho4⟩
  have hzr := Below.size hB
  have hv7 := View.below hv0 hB
  refine y_seq fun K31 hK31 => ?_
  refine y_seq fun K32 hK32 => ?_
  by_cases hne : l.length = 0
  · have HN : strJ (c0 :: r) = none := strJ_no (by rw [hst, List.eq_nil_of_length_eq_zero hne]; exact strA_none rfl)
    refine y_reg ?_
    refine y_move H rfl rfl fun a H => ?_
    refine y_len Tryd.underlying28 H rfl hvl rfl fun a H => ?_
    refine y_gtr (b := false) H rfl rfl (decide_eq_false (by omega)) rfl fun a H => ?_
    refine wpList_nil (then_normal (hK32 _ _ ?_))
    replace H := H.sub [(0, _), (1, _), (7, _), (9, _), (51, _)] (sub_cons rfl (sub_cons rfl (sub_cons rfl (sub_cons rfl (sub_cons rfl (sub_nil))))))
    refine y_iff H rfl ?_
    refine wp_exit (then_exit (then_exit (in_exit (then_normal (hK30 _ _ ?_)))))
    replace H := H.sub [(0, _)] (sub_cons rfl (sub_nil))
    refine y_seq fun K33 hK33 => ?_
    obtain ⟨te34, xe34, hE34⟩ := (DW.glob (DW.below h hB)).eof
    refine d_begin (fun w' => w'.cell? ⟨0, 0, none⟩ = some (.iface te34 xe34)) 4 mixedZ rfl ?_
    have hbd35 : Below wr.heap.size wr wr.drew := (Below.refl _ _).drew
    generalize wr.drew = wd35 at hbd35 ⊢
    have ho36 := OutV.below hol hbd35
    have hB37 := below_comp hB hbd35
    have hz38 := Below.size hB37
    replace hE34 := (Below.cell hbd35 (World.block_lt_of_cell? _ _ hE34)).trans hE34
    refine d_take 0 H rfl (by kernel_rfl) (by kernel_rfl) (by kernel_rfl) (r_load oneErrZ H rfl (fun _ h => h)) hE34 rfl fun a H => ?_
    refine d_take 1 H rfl (by kernel_rfl) (by kernel_rfl) (by kernel_rfl) (r_assign H rfl) hE34 rfl fun a H => ?_
    refine d_take 2 H rfl (by kernel_rfl) (by kernel_rfl) (by kernel_rfl) (r_assign H rfl) hE34 rfl fun a H => ?_
    refine d_take 3 H rfl (by kernel_rfl) (by kernel_rfl) (by kernel_rfl) (r_assign H rfl) hE34 rfl fun a H => ?_
    refine d_done (by kernel_rfl) (then_normal (hK33 _ _ ?_))
    replace H := H.sub [(0, _), (4, _), (5, _), (6, _)] (sub_cons rfl (sub_cons rfl (sub_cons rfl (sub_cons rfl (sub_nil)))))
    refine wp_ret (?_)
    exact ret3 (by rfl) H rfl rfl rfl ⟨StrRes.bad HN _ _, hB37⟩
  · refine y_reg ?_
    refine y_move H rfl rfl fun a H => ?_
    refine y_len Tryd.underlying28 H rfl hvl rfl fun a H => ?_
    refine y_gtr (b := true) H rfl rfl (decide_eq_true (by omega)) rfl fun a H => ?_
    refine wpList_nil (then_normal (hK32 _ _ ?_))
    replace H := H.sub [(0, _), (1, _), (7, _), (9, _), (51, _)] (sub_cons rfl (sub_cons rfl (sub_cons rfl (sub_cons rfl (sub_cons rfl (sub_nil))))))
    refine y_ift H rfl ?_
    refine wp_skip (then_normal (hK31 _ _ ?_))
    replace H := H.sub [(0, _), (1, _), (7, _), (9, _)] (sub_cons rfl (sub_cons rfl (sub_cons rfl (sub_cons rfl (sub_nil)))))
    refine wp_block ?_
    refine y_seq fun K43 hK43 => ?_
    have hne2 : l ≠ [] := fun e => hne (by rw [e]; rfl)
    have hdec := decodeRune_any u l gg wr hvl hne2 (by omega) (DW.glob (DW.below h hB)).tabs
    unfold decV at hdec
    have Hs44 := H
    rcases hcn : chr l with ⟨c, n1⟩
    rw [hcn] at hdec
    simp only at hdec
    refine y_reg ?_
    refine y_move H rfl rfl fun a H => ?_
    refine y_call pf_dec H rfl rfl (Calls.mono (hdec) ?_)
    rintro e w45 ⟨rfl, hb45⟩
    refine ⟨_, rfl, fun a H => ?_⟩
    have hv46 := View.below hv7 hb45
    have hv47 := View.below hvl hb45
    have ho48 := OutV.below hol hb45
    have hB49 := below_comp hB hb45
    have hz50 := Below.size hB49
    refine y_move H rfl rfl fun a H => ?_
    refine y_extract H rfl rfl rfl fun a H => ?_
    refine y_extract H rfl rfl rfl fun a H => ?_
    refine y_assign H rfl rfl fun a H => ?_
    refine y_assign H rfl rfl fun a H => ?_
    refine wpList_nil (then_normal (hK43 _ _ ?_))
    replace H := H.sub [(0, _), (1, _), (7, _), (9, _), (10, _), (11, _)] (sub_cons rfl (sub_cons rfl (sub_cons rfl (sub_cons rfl (sub_cons rfl (sub_cons rfl (sub_nil)))))))
    refine wp_block ?_
    refine y_seq fun K51 hK51 => ?_
    by_cases hbad : c = 65533 ∧ n1 = 1
    · have HN : strJ (c0 :: r) = none := strJ_no (by rw [hst]; exact strA_none (chr_bad (by rw [hcn, hbad.1, hbad.2])))
      refine y_reg ?_
      refine y_move H rfl rfl fun a H => ?_
      refine y_eql (b := true) H rfl rfl (ieq_t (by omega)) rfl fun a H => ?_
      refine y_move H rfl rfl fun a H => ?_
      refine y_on H rfl rfl ?_
      refine y_move H rfl rfl fun a H => ?_
      refine y_on H rfl rfl ?_
      refine y_eql (b := true) H rfl rfl (ieq_t (by omega)) rfl fun a H => ?_
      refine y_pick H rfl rfl rfl fun a H => ?_
      refine y_assign H rfl rfl fun a H => ?_
      refine wpList_nil (then_normal (hK51 _ _ ?_))
      replace H := H.sub [(0, _), (1, _), (7, _), (9, _), (10, _), (11, _), (73, _)] (sub_cons rfl (sub_cons rfl (sub_cons rfl (sub_cons rfl (sub_cons rfl (sub_cons rfl (sub_cons rfl (sub_nil))))))))
      refine y_ift H rfl ?_
      refine y_seq fun K52 hK52 => ?_
      refine y_reg ?_
      refine y_move H rfl rfl fun a H => ?_
      refine y_move H rfl rfl fun a H => ?_
      refine y_call pf_cur H rfl rfl (Calls.mono (currPos_any s w45 (DW.below h hB49)) ?_)
      rintro e w53 ⟨rfl, hb53⟩
      refine ⟨_, rfl, fun a H => ?_⟩
      have hv54 := View.below hv46 hb53
      have hv55 := View.below hv47 hb53
      have ho56 := OutV.below ho48 hb53
      have hB57 := below_comp hB49 hb53
      have hz58 := Below.size hB57
      refine y_call pf_nerr H rfl rfl (Calls.mono (newError_any _ _ _ _ w53 (by decide)) ?_)
      rintro e w59 ⟨⟨xe59, rfl⟩, hb59⟩
      refine ⟨_, rfl, fun a H => ?_⟩
      have hv60 := View.below hv54 hb59
      have hv61 := View.below hv55 hb59
      have ho62 := OutV.below ho56 hb59
      have hB63 := below_comp hB57 hb59
      have hz64 := Below.size hB63
      refine y_assign H rfl rfl fun a H => ?_
      refine y_assign H rfl rfl fun a H => ?_
      refine y_assign H rfl rfl fun a H => ?_
      refine wpList_nil (then_normal (hK52 _ _ ?_))
      replace H := H.sub [(0, _), (1, _), (4, _), (5, _), (6, _), (7, _), (9, _)] (sub_cons rfl (sub_cons rfl (sub_cons rfl (sub_cons rfl (sub_cons rfl (sub_cons rfl (sub_cons rfl (sub_nil))))))))
      refine wp_ret (in_ret (in_ret (then_ret (in_ret (then_ret (?_))))))
      exact ret3 (by rfl) H rfl rfl rfl ⟨StrRes.bad HN _ _, hB63⟩
    · have hu := chr_u8 hcn hbad
      have hsz := u8char_size hu
      have HA := strA_some (out := out) hu
      have hj73 : ∀ (a : Act), Has 248 [] a [(0, .pointer (some ⟨p, 0, none⟩)), (1, u), (7, v), (9, o), (10, .int .i32 ((c : Nat) : Int)), (11, .int .i64 ((n1 : Nat) : Int)), (73, .bool false)] → K51 a w45 := by
        intro a  H 
        refine hK51 _ _ ?_
        refine y_iff H rfl ?_
        refine y_seq fun K65 hK65 => ?_
        refine y_reg ?_
        refine y_move H rfl rfl fun a H => ?_
        by_cases q66 : (((c : Nat) : Int)) < ((32 : Int))
        · refine y_lss (b := true) H rfl rfl (decide_eq_true (by omega)) rfl fun a H => ?_
          refine y_assign H rfl rfl fun a H => ?_
          refine wpList_nil (then_normal (hK65 _ _ ?_))
          replace H := H.sub [(0, _), (1, _), (7, _), (9, _), (10, _), (11, _), (84, _)] (sub_cons rfl (sub_cons rfl (sub_cons rfl (sub_cons rfl (sub_cons rfl (sub_cons rfl (sub_cons rfl (sub_nil))))))))
          refine y_ift H rfl ?_
          refine y_seq fun K67 hK67 => ?_
          have HN : strJ (c0 :: r) = none := strJ_no (by rw [hst, HA, if_neg (by omega), if_pos (by omega)])
          refine y_reg ?_
          refine y_move H rfl rfl fun a H => ?_
          refine y_move H rfl rfl fun a H => ?_
          refine y_call pf_cur H rfl rfl (Calls.mono (currPos_any s w45 (DW.below h hB49)) ?_)
          rintro e w68 ⟨rfl, hb68⟩
          refine ⟨_, rfl, fun a H => ?_⟩
          have hv69 := View.below hv46 hb68
          have hv70 := View.below hv47 hb68
          have ho71 := OutV.below ho48 hb68
          have hB72 := below_comp hB49 hb68
          have hz73 := Below.size hB72
          refine y_move H rfl rfl fun a H => ?_
          refine y_mkZ Tryd.underlying21 rfl H rfl rfl fun a H => ?_
          refine y_anyS H rfl rfl fun w74 u74 hb74 a H => ?_
          have hv75 := View.below hv69 hb74
          have hv76 := View.below hv70 hb74
          have ho77 := OutV.below ho71 hb74
          have hB78 := below_comp hB72 hb74
          have hz79 := Below.size hB78
          refine y_call pf_nerr H rfl rfl (Calls.mono (newError_any _ _ _ _ w74 (by decide)) ?_)
          rintro e w80 ⟨⟨xe80, rfl⟩, hb80⟩
          refine ⟨_, rfl, fun a H => ?_⟩
          have hv81 := View.below hv75 hb80
          have hv82 := View.below hv76 hb80
          have ho83 := OutV.below ho77 hb80
          have hB84 := below_comp hB78 hb80
          have hz85 := Below.size hB84
          refine y_assign H rfl rfl fun a H => ?_
          refine y_assign H rfl rfl fun a H => ?_
          refine y_assign H rfl rfl fun a H => ?_
          refine wpList_nil (then_normal (hK67 _ _ ?_))
          replace H := H.sub [(0, _), (1, _), (4, _), (5, _), (6, _), (7, _), (9, _)] (sub_cons rfl (sub_cons rfl (sub_cons rfl (sub_cons rfl (sub_cons rfl (sub_cons rfl (sub_cons rfl (sub_nil))))))))
          refine wp_ret (in_ret (in_ret (then_ret (in_ret (then_ret (?_))))))
          exact ret3 (by rfl) H rfl rfl rfl ⟨StrRes.bad HN _ _, hB84⟩
        · refine y_lss (b := false) H rfl rfl (decide_eq_false (by omega)) rfl fun a H => ?_
          refine y_assign H rfl rfl fun a H => ?_
          refine wpList_nil (then_normal (hK65 _ _ ?_))
          replace H := H.sub [(0, _), (1, _), (7, _), (9, _), (10, _), (11, _), (84, _)] (sub_cons rfl (sub_cons rfl (sub_cons rfl (sub_cons rfl (sub_cons rfl (sub_cons rfl (sub_cons rfl (sub_nil))))))))
          refine y_iff H rfl ?_
          refine y_seq fun K86 hK86 => ?_
          refine y_reg ?_
          refine y_move H rfl rfl fun a H => ?_
          by_cases q87 : (((c : Nat) : Int)) = ((34 : Int))
          · refine y_eql (b := true) H rfl rfl (ieq_t (by omega)) rfl fun a H => ?_
            refine y_assign H rfl rfl fun a H => ?_
            refine wpList_nil (then_normal (hK86 _ _ ?_))
            replace H := H.sub [(0, _), (1, _), (7, _), (9, _), (10, _), (11, _), (94, _)] (sub_cons rfl (sub_cons rfl (sub_cons rfl (sub_cons rfl (sub_cons rfl (sub_cons rfl (sub_cons rfl (sub_nil))))))))
            refine y_ift H rfl ?_
            refine y_seq fun K88 hK88 => ?_
            have Hs89 := H
            obtain ⟨bq, l2, rfl, hbq, hn1⟩ := u8_small hu (by omega)
            have H := Hs89
            simp only [List.length_cons] at hlr ho4 hln
            have hL1 : (bq :: l2).length = l2.length + 1 := rfl
            have HN : strJ (c0 :: r) = some (out, r.length + 1 - l2.length) := by rw [strJ_cons, hst, HA, if_pos (by omega)]; rfl
            refine y_reg ?_
            refine y_move H rfl rfl fun a H => ?_
            refine y_fromN (m := 1) (ys := l2) H rfl rfl hv47 (by omega) (by first | omega | (simp <;> omega)) (rfl) rfl fun a vs90 H hvs90 => ?_
            refine y_assign H rfl rfl fun a H => ?_
            refine wpList_nil (then_normal (hK88 _ _ ?_))
            replace H := H.sub [(0, _), (1, _), (7, _), (9, _)] (sub_cons rfl (sub_cons rfl (sub_cons rfl (sub_cons rfl (sub_nil)))))
            refine y_seq fun K91 hK91 => ?_
            refine y_reg ?_
            refine y_move H rfl rfl fun a H => ?_
            refine y_len Tryd.underlying28 H rfl hv46 rfl fun a H => ?_
            refine y_move H rfl rfl fun a H => ?_
            refine y_len Tryd.underlying28 H rfl hvs90 rfl fun a H => ?_
            refine y_subi (r := ((r.length + 1 - l2.length : Nat) : Int)) H rfl rfl (by omega) (by omega) (by omega) rfl fun a H => ?_
            refine y_assign H rfl rfl fun a H => ?_
            refine wpList_nil (then_normal (hK91 _ _ ?_))
            replace H := H.sub [(0, _), (1, _), (7, _), (9, _), (12, _)] (sub_cons rfl (sub_cons rfl (sub_cons rfl (sub_cons rfl (sub_cons rfl (sub_nil))))))
            refine y_seq fun K92 hK92 => ?_
            refine y_reg ?_
            refine y_move H rfl rfl fun a H => ?_
            refine y_convOut H rfl ho48 rfl fun a H => ?_
            refine y_move H rfl rfl fun a H => ?_
            refine y_assign H rfl rfl fun a H => ?_
            refine y_assign H rfl rfl fun a H => ?_
            refine y_assign H rfl rfl fun a H => ?_
            refine wpList_nil (then_normal (hK92 _ _ ?_))
            replace H := H.sub [(0, _), (1, _), (4, _), (5, _), (6, _), (7, _), (9, _)] (sub_cons rfl (sub_cons rfl (sub_cons rfl (sub_cons rfl (sub_cons rfl (sub_cons rfl (sub_cons rfl (sub_nil))))))))
            refine wp_ret (in_ret (in_ret (then_ret (in_ret (then_ret (?_))))))
            refine ret3 (by rfl) H rfl rfl rfl ⟨?_, hB49⟩
            rw [HN]
            exact rfl
          · refine y_eql (b := false) H rfl rfl (ieq_f (by omega)) rfl fun a H => ?_
            refine y_assign H rfl rfl fun a H => ?_
            refine wpList_nil (then_normal (hK86 _ _ ?_))
            replace H := H.sub [(0, _), (1, _), (7, _), (9, _), (10, _), (11, _), (94, _)] (sub_cons rfl (sub_cons rfl (sub_cons rfl (sub_cons rfl (sub_cons rfl (sub_cons rfl (sub_cons rfl (sub_nil))))))))
            refine y_iff H rfl ?_
            refine y_seq fun K93 hK93 => ?_
            refine y_reg ?_
            refine y_move H rfl rfl fun a H => ?_
            by_cases q94 : (((c : Nat) : Int)) = ((92 : Int))
            · refine y_eql (b := true) H rfl rfl (ieq_t (by omega)) rfl fun a H => ?_
              refine y_assign H rfl rfl fun a H => ?_
              refine wpList_nil (then_normal (hK93 _ _ ?_))
              replace H := H.sub [(0, _), (1, _), (7, _), (9, _), (11, _), (107, _)] (sub_cons rfl (sub_cons rfl (sub_cons rfl (sub_cons rfl (sub_cons rfl (sub_cons rfl (sub_nil)))))))
              refine y_ift H rfl ?_
              refine y_seq fun K95 hK95 => ?_
              refine y_seq fun K96 hK96 => ?_
              have Hs97 := H
              obtain ⟨b, l2, rfl, hb92, hn1⟩ := u8_small hu (by omega)
              have H := Hs97
              simp only [List.length_cons] at hlr ho4 hln
              have HA2 : strA r [] = (match escJ (b :: l2) with
                | none => none
                | some (bb, m) => strA ((b :: l2).drop m) (out ++ bb)) := by rw [hst, HA, if_neg (by omega), if_neg (by omega), if_pos (by omega)]; rfl
              clear HA
              have Hs98 := H
              rcases l2 with _ | ⟨d, l3⟩
              · have H := Hs98
                have HN : strJ (c0 :: r) = none := strJ_no (by rw [HA2]; rfl)
                refine y_reg ?_
                refine y_move H rfl rfl fun a H => ?_
                refine y_len Tryd.underlying28 H rfl hv47 rfl fun a H => ?_
                refine y_lss (b := true) H rfl rfl (by simp) rfl fun a H => ?_
                refine wpList_nil (then_normal (hK96 _ _ ?_))
                replace H := H.sub [(0, _), (1, _), (7, _), (9, _), (112, _)] (sub_cons rfl (sub_cons rfl (sub_cons rfl (sub_cons rfl (sub_cons rfl (sub_nil))))))
                refine y_ift H rfl ?_
                refine y_seq fun K99 hK99 => ?_
                obtain ⟨te100, xe100, hE100⟩ := (DW.glob (DW.below h hB49)).eof
                refine d_begin (fun w' => w'.cell? ⟨0, 0, none⟩ = some (.iface te100 xe100)) 4 mixedZ rfl ?_
                have hbd101 : Below w45.heap.size w45 w45.drew := (Below.refl _ _).drew
                generalize w45.drew = wd101 at hbd101 ⊢
                have hv102 := View.below hv46 hbd101
                have hv103 := View.below hv47 hbd101
                have ho104 := OutV.below ho48 hbd101
                have hB105 := below_comp hB49 hbd101
                have hz106 := Below.size hB105
                replace hE100 := (Below.cell hbd101 (World.block_lt_of_cell? _ _ hE100)).trans hE100
                refine d_take 0 H rfl (by kernel_rfl) (by kernel_rfl) (by kernel_rfl) (r_load oneErrZ H rfl (fun _ h => h)) hE100 rfl fun a H => ?_
                refine d_take 1 H rfl (by kernel_rfl) (by kernel_rfl) (by kernel_rfl) (r_assign H rfl) hE100 rfl fun a H => ?_
                refine d_take 2 H rfl (by kernel_rfl) (by kernel_rfl) (by kernel_rfl) (r_assign H rfl) hE100 rfl fun a H => ?_
                refine d_take 3 H rfl (by kernel_rfl) (by kernel_rfl) (by kernel_rfl) (r_assign H rfl) hE100 rfl fun a H => ?_
                refine d_done (by kernel_rfl) (then_normal (hK99 _ _ ?_))
                replace H := H.sub [(0, _), (1, _), (4, _), (5, _), (6, _), (7, _), (9, _)] (sub_cons rfl (sub_cons rfl (sub_cons rfl (sub_cons rfl (sub_cons rfl (sub_cons rfl (sub_cons rfl (sub_nil))))))))
                refine wp_ret (then_ret (in_ret (in_ret (then_ret (in_ret (then_ret (?_)))))))
                exact ret3 (by rfl) H rfl rfl rfl ⟨StrRes.bad HN _ _, hB105⟩
              · have H := Hs98
                simp only [List.length_cons] at hlr ho4 hln
                have hL1 : (d :: l3).length = l3.length + 1 := rfl
                have hL2 : (b :: d :: l3).length = l3.length + 2 := rfl
                have hl3s : l3.length ≤ 10000000 := by omega
                have hbd := byte_bd d
                refine y_reg ?_
                refine y_move H rfl rfl fun a H => ?_
                refine y_len Tryd.underlying28 H rfl hv47 rfl fun a H => ?_
                refine y_lss (b := false) H rfl rfl (decide_eq_false (by omega)) rfl fun a H => ?_
                refine wpList_nil (then_normal (hK96 _ _ ?_))
                replace H := H.sub [(0, _), (1, _), (7, _), (9, _), (112, _)] (sub_cons rfl (sub_cons rfl (sub_cons rfl (sub_cons rfl (sub_cons rfl (sub_nil))))))
                refine y_iff H rfl ?_
                refine wp_skip (then_normal (hK95 _ _ ?_))
                replace H := H.sub [(0, _), (1, _), (7, _), (9, _)] (sub_cons rfl (sub_cons rfl (sub_cons rfl (sub_cons rfl (sub_nil)))))
                refine y_seq fun K111 hK111 => ?_
                refine y_reg ?_
                refine y_move H rfl rfl fun a H => ?_
                refine y_idx Tryd.underlying28 info5u H rfl rfl hv47 (by decide) rfl rfl fun a ad H hc112 => ?_
                refine y_load one5Z H rfl hc112 rfl fun a H => ?_
                refine y_assign H rfl rfl fun a H => ?_
                refine wpList_nil (then_normal (hK111 _ _ ?_))
                replace H := H.sub [(0, _), (1, _), (7, _), (9, _), (13, _)] (sub_cons rfl (sub_cons rfl (sub_cons rfl (sub_cons rfl (sub_cons rfl (sub_nil))))))
                refine y_seq fun K113 hK113 => ?_
                refine y_reg ?_
                refine y_move H rfl rfl fun a H => ?_
                refine wpList_nil (then_normal (hK113 _ _ ?_))
                replace H := H.sub [(0, _), (1, _), (7, _), (9, _), (13, _), (117, _)] (sub_cons rfl (sub_cons rfl (sub_cons rfl (sub_cons rfl (sub_cons rfl (sub_cons rfl (sub_nil)))))))
                refine wp_block ?_
                refine y_seq fun K114 hK114 => ?_
                refine y_seq fun K115 hK115 => ?_
                obtain ⟨b34, hb34⟩ : ∃ b, ((d.toNat : Int) == 34) = b := ⟨_, rfl⟩
                refine y_reg ?_
                refine y_eql (b := b34) H rfl rfl (hb34) rfl fun a H => ?_
                refine y_assign H rfl rfl fun a H => ?_
                refine wpList_nil (then_normal (hK115 _ _ ?_))
                replace H := H.sub [(0, _), (1, _), (7, _), (9, _), (13, _), (117, _), (126, _)] (sub_cons rfl (sub_cons rfl (sub_cons rfl (sub_cons rfl (sub_cons rfl (sub_cons rfl (sub_cons rfl (sub_nil))))))))
                have hj126 : ∀ (a : Act), Has 248 [] a [(0, .pointer (some ⟨p, 0, none⟩)), (1, u), (7, v), (9, o), (13, .int .u8 (d.toNat : Int)), (117, .int .u8 (d.toNat : Int)), (126, .bool true)] → d.toNat = 34 ∨ d.toNat = 92 ∨ d.toNat = 47 → K114 a w45 := by
                  intro a  H hd4
                  refine hK114 _ _ ?_
                  refine y_ift H rfl ?_
                  have HE : strA r [] = strA (l3) (out ++ [d]) := by rw [HA2, escJ_cons, if_neg (by omega), show escC d.toNat = d.toNat by unfold escC; rw [if_pos hd4], if_neg (by omega), show UInt8.ofNat d.toNat = d by simp]; rfl
                  refine d_begin (fun _ => True) 8 mixedZ rfl ?_
                  have hbd116 : Below w45.heap.size w45 w45.drew := (Below.refl _ _).drew
                  generalize w45.drew = wd116 at hbd116 ⊢
                  have hv117 := View.below hv46 hbd116
                  have hv118 := View.below hv47 hbd116
                  have ho119 := OutV.below ho48 hbd116
                  have hB120 := below_comp hB49 hbd116
                  have hz121 := Below.size hB120
                  refine d_take 0 H rfl (by kernel_rfl) (by kernel_rfl) (by kernel_rfl) (r_move H rfl) trivial rfl fun a H => ?_
                  obtain ⟨vs123, hsl123, hvs123⟩ := view_from (P := Tryd.prog) hv118 28 5 Tryd.underlying28 info5u .i64 ((2 : Int)) 2 (by omega) (by first | omega | (simp <;> omega))
                  replace hvs123 : View _ _ vs123 (l3) := hvs123
                  refine d_take 1 H rfl (by kernel_rfl) (by kernel_rfl) (by kernel_rfl) (r_fromZ Tryd.underlying28 H rfl rfl hsl123) trivial rfl fun a H => ?_
                  refine d_take 2 H rfl (by kernel_rfl) (by kernel_rfl) (by kernel_rfl) (r_move H rfl) trivial rfl fun a H => ?_
                  refine d_take 3 H rfl (by kernel_rfl) (by kernel_rfl) (by kernel_rfl) (r_move H rfl) trivial rfl fun a H => ?_
                  refine d_one 4 (by kernel_rfl) rfl rfl ?_
                  refine y_oneS H rfl rfl fun w126 q126 hr126 hb126 a H => ?_
                  have hv127 := View.below hv117 hb126
                  have hv128 := View.below hv118 hb126
                  have hv129 := View.below hvs123 hb126
                  have ho130 := OutV.below ho119 hb126
                  have hB131 := below_comp hB120 hb126
                  have hz132 := Below.size hB131
                  refine wpList_nil ⟨trivial, ?_⟩
                  refine d_one 5 (by kernel_rfl) rfl rfl ?_
                  refine y_out1 d H rfl ho130 rfl hr126 (by omega) (by first | omega | (simp <;> omega)) rfl fun v133 w133 hown133 hbN133 a H => ?_
                  have hv134 := View.keptB hv127 hbN133 hgg
                  have hv135 := View.keptB hv128 hbN133 hgg
                  have hv136 := View.keptB hv129 hbN133 hgg
                  have hB137 := Below.trans hB131 hbN133
                  have hz138 := Below.size hB137
                  refine wpList_nil ⟨trivial, ?_⟩
                  refine d_take 6 H rfl (by kernel_rfl) (by kernel_rfl) (by kernel_rfl) (r_assign H rfl) trivial rfl fun a H => ?_
                  refine d_take 7 H rfl (by kernel_rfl) (by kernel_rfl) (by kernel_rfl) (r_assign H rfl) trivial rfl fun a H => ?_
                  refine d_done (by kernel_rfl) (in_normal (in_normal (in_normal (then_normal (⟨_, ?_, l3, out ++ [d], _, _, rfl, H.sub _ (sub_cons rfl (sub_cons rfl (sub_cons rfl (sub_cons rfl (sub_nil))))), hv136, .inl hown133, HE, hB137, ?_, ?_⟩)))))
                  · rw [← hln]; (first | omega | (simp <;> omega))
                  · (first | omega | (simp <;> omega))
                  · (simp <;> omega)
                have Hs141 := H
                rcases b34 with _ | _
                · have H := Hs141
                  have q34 : d.toNat ≠ 34 := by have := ne_of_beq_false hb34; omega
                  refine y_iff H rfl ?_
                  refine y_seq fun K142 hK142 => ?_
                  refine y_reg ?_
                  by_cases q143 : ((d.toNat : Int)) = ((92 : Int))
                  · refine y_eql (b := true) H rfl rfl (ieq_t (by omega)) rfl fun a H => ?_
                    refine y_assign H rfl rfl fun a H => ?_
                    refine wpList_nil (then_normal (hK142 _ _ ?_))
                    replace H := H.sub [(0, _), (1, _), (7, _), (9, _), (13, _), (117, _), (126, _)] (sub_cons rfl (sub_cons rfl (sub_cons rfl (sub_cons rfl (sub_cons rfl (sub_cons rfl (sub_cons rfl (sub_nil))))))))
                    refine y_ift H rfl ?_
                    exact wp_skip (then_normal (hj126 _  (H.sub _ (sub_cons rfl (sub_cons rfl (sub_cons rfl (sub_cons rfl (sub_cons rfl (sub_cons rfl (sub_cons rfl (sub_nil))))))))) (by omega)))
                  · refine y_eql (b := false) H rfl rfl (ieq_f (by omega)) rfl fun a H => ?_
                    refine y_assign H rfl rfl fun a H => ?_
                    refine wpList_nil (then_normal (hK142 _ _ ?_))
                    replace H := H.sub [(0, _), (1, _), (7, _), (9, _), (13, _), (117, _), (126, _)] (sub_cons rfl (sub_cons rfl (sub_cons rfl (sub_cons rfl (sub_cons rfl (sub_cons rfl (sub_cons rfl (sub_nil))))))))
                    refine y_iff H rfl ?_
                    refine y_reg ?_
                    by_cases q144 : ((d.toNat : Int)) = ((47 : Int))
                    · refine y_eql (b := true) H rfl rfl (ieq_t (by omega)) rfl fun a H => ?_
                      refine y_assign H rfl rfl fun a H => ?_
                      exact wpList_nil (then_normal (hj126 _  (H.sub _ (sub_cons rfl (sub_cons rfl (sub_cons rfl (sub_cons rfl (sub_cons rfl (sub_cons rfl (sub_cons rfl (sub_nil))))))))) (by omega)))
                    · refine y_eql (b := false) H rfl rfl (ieq_f (by omega)) rfl fun a H => ?_
                      refine y_assign H rfl rfl fun a H => ?_
                      refine wpList_nil (then_normal (hK114 _ _ ?_))
                      replace H := H.sub [(0, _), (1, _), (7, _), (9, _), (13, _), (117, _), (126, _)] (sub_cons rfl (sub_cons rfl (sub_cons rfl (sub_cons rfl (sub_cons rfl (sub_cons rfl (sub_cons rfl (sub_nil))))))))
                      refine y_iff H rfl ?_
                      refine y_seq fun K145 hK145 => ?_
                      refine y_reg ?_
                      by_cases q146 : ((d.toNat : Int)) = ((98 : Int))
                      · refine y_eql (b := true) H rfl rfl (ieq_t (by omega)) rfl fun a H => ?_
                        refine y_assign H rfl rfl fun a H => ?_
                        refine wpList_nil (then_normal (hK145 _ _ ?_))
                        replace H := H.sub [(0, _), (1, _), (7, _), (9, _), (117, _), (136, _)] (sub_cons rfl (sub_cons rfl (sub_cons rfl (sub_cons rfl (sub_cons rfl (sub_cons rfl (sub_nil)))))))
                        refine y_ift H rfl ?_
                        have hdL : d.toNat = 98 := by omega
                        have HE : strA r [] = strA (l3) (out ++ [UInt8.ofNat 8]) := by rw [HA2, escJ_cons, if_neg (by omega), show escC d.toNat = 8 by rw [hdL]; rfl, if_neg (by decide)]; rfl
                        refine d_begin (fun _ => True) 7 mixedZ rfl ?_
                        have hbd147 : Below w45.heap.size w45 w45.drew := (Below.refl _ _).drew
                        generalize w45.drew = wd147 at hbd147 ⊢
                        have hv148 := View.below hv46 hbd147
                        have hv149 := View.below hv47 hbd147
                        have ho150 := OutV.below ho48 hbd147
                        have hB151 := below_comp hB49 hbd147
                        have hz152 := Below.size hB151
                        refine d_take 0 H rfl (by kernel_rfl) (by kernel_rfl) (by kernel_rfl) (r_move H rfl) trivial rfl fun a H => ?_
                        obtain ⟨vs154, hsl154, hvs154⟩ := view_from (P := Tryd.prog) hv149 28 5 Tryd.underlying28 info5u .i64 ((2 : Int)) 2 (by omega) (by first | omega | (simp <;> omega))
                        replace hvs154 : View _ _ vs154 (l3) := hvs154
                        refine d_take 1 H rfl (by kernel_rfl) (by kernel_rfl) (by kernel_rfl) (r_fromZ Tryd.underlying28 H rfl rfl hsl154) trivial rfl fun a H => ?_
                        refine d_take 2 H rfl (by kernel_rfl) (by kernel_rfl) (by kernel_rfl) (r_move H rfl) trivial rfl fun a H => ?_
                        refine d_one 3 (by kernel_rfl) rfl rfl ?_
                        refine y_oneS H rfl rfl fun w156 q156 hr156 hb156 a H => ?_
                        have hv157 := View.below hv148 hb156
                        have hv158 := View.below hv149 hb156
                        have hv159 := View.below hvs154 hb156
                        have ho160 := OutV.below ho150 hb156
                        have hB161 := below_comp hB151 hb156
                        have hz162 := Below.size hB161
                        refine wpList_nil ⟨trivial, ?_⟩
                        refine d_one 4 (by kernel_rfl) rfl rfl ?_
                        refine y_out1 (UInt8.ofNat 8) H rfl ho160 rfl hr156 (by omega) (by first | omega | (simp <;> omega)) rfl fun v163 w163 hown163 hbN163 a H => ?_
                        have hv164 := View.keptB hv157 hbN163 hgg
                        have hv165 := View.keptB hv158 hbN163 hgg
                        have hv166 := View.keptB hv159 hbN163 hgg
                        have hB167 := Below.trans hB161 hbN163
                        have hz168 := Below.size hB167
                        refine wpList_nil ⟨trivial, ?_⟩
                        refine d_take 5 H rfl (by kernel_rfl) (by kernel_rfl) (by kernel_rfl) (r_assign H rfl) trivial rfl fun a H => ?_
                        refine d_take 6 H rfl (by kernel_rfl) (by kernel_rfl) (by kernel_rfl) (r_assign H rfl) trivial rfl fun a H => ?_
                        refine d_done (by kernel_rfl) (in_normal (in_normal (in_normal (then_normal (⟨_, ?_, l3, out ++ [(UInt8.ofNat 8)], _, _, rfl, H.sub _ (sub_cons rfl (sub_cons rfl (sub_cons rfl (sub_cons rfl (sub_nil))))), hv166, .inl hown163, HE, hB167, ?_, ?_⟩)))))
                        · rw [← hln]; (first | omega | (simp <;> omega))
                        · (first | omega | (simp <;> omega))
                        · (simp <;> omega)
                      · refine y_eql (b := false) H rfl rfl (ieq_f (by omega)) rfl fun a H => ?_
                        refine y_assign H rfl rfl fun a H => ?_
                        refine wpList_nil (then_normal (hK145 _ _ ?_))
                        replace H := H.sub [(0, _), (1, _), (7, _), (9, _), (117, _), (136, _)] (sub_cons rfl (sub_cons rfl (sub_cons rfl (sub_cons rfl (sub_cons rfl (sub_cons rfl (sub_nil)))))))
                        refine y_iff H rfl ?_
                        refine y_seq fun K171 hK171 => ?_
                        refine y_reg ?_
                        by_cases q172 : ((d.toNat : Int)) = ((102 : Int))
                        · refine y_eql (b := true) H rfl rfl (ieq_t (by omega)) rfl fun a H => ?_
                          refine y_assign H rfl rfl fun a H => ?_
                          refine wpList_nil (then_normal (hK171 _ _ ?_))
                          replace H := H.sub [(0, _), (1, _), (7, _), (9, _), (117, _), (143, _)] (sub_cons rfl (sub_cons rfl (sub_cons rfl (sub_cons rfl (sub_cons rfl (sub_cons rfl (sub_nil)))))))
                          refine y_ift H rfl ?_
                          have hdL : d.toNat = 102 := by omega
                          have HE : strA r [] = strA (l3) (out ++ [UInt8.ofNat 12]) := by rw [HA2, escJ_cons, if_neg (by omega), show escC d.toNat = 12 by rw [hdL]; rfl, if_neg (by decide)]; rfl
                          refine d_begin (fun _ => True) 7 mixedZ rfl ?_
                          have hbd173 : Below w45.heap.size w45 w45.drew := (Below.refl _ _).drew
                          generalize w45.drew = wd173 at hbd173 ⊢
                          have hv174 := View.below hv46 hbd173
                          have hv175 := View.below hv47 hbd173
                          have ho176 := OutV.below ho48 hbd173
                          have hB177 := below_comp hB49 hbd173
                          have hz178 := Below.size hB177
                          refine d_take 0 H rfl (by kernel_rfl) (by kernel_rfl) (by kernel_rfl) (r_move H rfl) trivial rfl fun a H => ?_
                          obtain ⟨vs180, hsl180, hvs180⟩ := view_from (P := Tryd.prog) hv175 28 5 Tryd.underlying28 info5u .i64 ((2 : Int)) 2 (by omega) (by first | omega | (simp <;> omega))
                          replace hvs180 : View _ _ vs180 (l3) := hvs180
                          refine d_take 1 H rfl (by kernel_rfl) (by kernel_rfl) (by kernel_rfl) (r_fromZ Tryd.underlying28 H rfl rfl hsl180) trivial rfl fun a H => ?_
                          refine d_take 2 H rfl (by kernel_rfl) (by kernel_rfl) (by kernel_rfl) (r_move H rfl) trivial rfl fun a H => ?_
                          refine d_one 3 (by kernel_rfl) rfl rfl ?_
                          refine y_oneS H rfl rfl fun w182 q182 hr182 hb182 a H => ?_
                          have hv183 := View.below hv174 hb182
                          have hv184 := View.below hv175 hb182
                          have hv185 := View.below hvs180 hb182
                          have ho186 := OutV.below ho176 hb182
                          have hB187 := below_comp hB177 hb182
                          have hz188 := Below.size hB187
                          refine wpList_nil ⟨trivial, ?_⟩
                          refine d_one 4 (by kernel_rfl) rfl rfl ?_
                          refine y_out1 (UInt8.ofNat 12) H rfl ho186 rfl hr182 (by omega) (by first | omega | (simp <;> omega)) rfl fun v189 w189 hown189 hbN189 a H => ?_
                          have hv190 := View.keptB hv183 hbN189 hgg
                          have hv191 := View.keptB hv184 hbN189 hgg
                          have hv192 := View.keptB hv185 hbN189 hgg
                          have hB193 := Below.trans hB187 hbN189
                          have hz194 := Below.size hB193
                          refine wpList_nil ⟨trivial, ?_⟩
                          refine d_take 5 H rfl (by kernel_rfl) (by kernel_rfl) (by kernel_rfl) (r_assign H rfl) trivial rfl fun a H => ?_
                          refine d_take 6 H rfl (by kernel_rfl) (by kernel_rfl) (by kernel_rfl) (r_assign H rfl) trivial rfl fun a H => ?_
                          refine d_done (by kernel_rfl) (in_normal (in_normal (in_normal (then_normal (⟨_, ?_, l3, out ++ [(UInt8.ofNat 12)], _, _, rfl, H.sub _ (sub_cons rfl (sub_cons rfl (sub_cons rfl (sub_cons rfl (sub_nil))))), hv192, .inl hown189, HE, hB193, ?_, ?_⟩)))))
                          · rw [← hln]; (first | omega | (simp <;> omega))
                          · (first | omega | (simp <;> omega))
                          · (simp <;> omega)
                        · refine y_eql (b := false) H rfl rfl (ieq_f (by omega)) rfl fun a H => ?_
                          refine y_assign H rfl rfl fun a H => ?_
                          refine wpList_nil (then_normal (hK171 _ _ ?_))
                          replace H := H.sub [(0, _), (1, _), (7, _), (9, _), (117, _), (143, _)] (sub_cons rfl (sub_cons rfl (sub_cons rfl (sub_cons rfl (sub_cons rfl (sub_cons rfl (sub_nil)))))))
                          refine y_iff H rfl ?_
                          refine y_seq fun K197 hK197 => ?_
                          refine y_reg ?_
                          by_cases q198 : ((d.toNat : Int)) = ((110 : Int))
                          · refine y_eql (b := true) H rfl rfl (ieq_t (by omega)) rfl fun a H => ?_
                            refine y_assign H rfl rfl fun a H => ?_
                            refine wpList_nil (then_normal (hK197 _ _ ?_))
                            replace H := H.sub [(0, _), (1, _), (7, _), (9, _), (117, _), (150, _)] (sub_cons rfl (sub_cons rfl (sub_cons rfl (sub_cons rfl (sub_cons rfl (sub_cons rfl (sub_nil)))))))
                            refine y_ift H rfl ?_
                            have hdL : d.toNat = 110 := by omega
                            have HE : strA r [] = strA (l3) (out ++ [UInt8.ofNat 10]) := by rw [HA2, escJ_cons, if_neg (by omega), show escC d.toNat = 10 by rw [hdL]; rfl, if_neg (by decide)]; rfl
                            refine d_begin (fun _ => True) 7 mixedZ rfl ?_
                            have hbd199 : Below w45.heap.size w45 w45.drew := (Below.refl _ _).drew
                            generalize w45.drew = wd199 at hbd199 ⊢
                            have hv200 := View.below hv46 hbd199
                            have hv201 := View.below hv47 hbd199
                            have ho202 := OutV.below ho48 hbd199
                            have hB203 := below_comp hB49 hbd199
                            have hz204 := Below.size hB203
                            refine d_take 0 H rfl (by kernel_rfl) (by kernel_rfl) (by kernel_rfl) (r_move H rfl) trivial rfl fun a H => ?_
                            obtain ⟨vs206, hsl206, hvs206⟩ := view_from (P := Tryd.prog) hv201 28 5 Tryd.underlying28 info5u .i64 ((2 : Int)) 2 (by omega) (by first | omega | (simp <;> omega))
                            replace hvs206 : View _ _ vs206 (l3) := hvs206
                            refine d_take 1 H rfl (by kernel_rfl) (by kernel_rfl) (by kernel_rfl) (r_fromZ Tryd.underlying28 H rfl rfl hsl206) trivial rfl fun a H => ?_
                            refine d_take 2 H rfl (by kernel_rfl) (by kernel_rfl) (by kernel_rfl) (r_move H rfl) trivial rfl fun a H => ?_
                            refine d_one 3 (by kernel_rfl) rfl rfl ?_
                            refine y_oneS H rfl rfl fun w208 q208 hr208 hb208 a H => ?_
                            have hv209 := View.below hv200 hb208
                            have hv210 := View.below hv201 hb208
                            have hv211 := View.below hvs206 hb208
                            have ho212 := OutV.below ho202 hb208
                            have hB213 := below_comp hB203 hb208
                            have hz214 := Below.size hB213
                            refine wpList_nil ⟨trivial, ?_⟩
                            refine d_one 4 (by kernel_rfl) rfl rfl ?_
                            refine y_out1 (UInt8.ofNat 10) H rfl ho212 rfl hr208 (by omega) (by first | omega | (simp <;> omega)) rfl fun v215 w215 hown215 hbN215 a H => ?_
                            have hv216 := View.keptB hv209 hbN215 hgg
                            have hv217 := View.keptB hv210 hbN215 hgg
                            have hv218 := View.keptB hv211 hbN215 hgg
                            have hB219 := Below.trans hB213 hbN215
                            have hz220 := Below.size hB219
                            refine wpList_nil ⟨trivial, ?_⟩
                            refine d_take 5 H rfl (by kernel_rfl) (by kernel_rfl) (by kernel_rfl) (r_assign H rfl) trivial rfl fun a H => ?_
                            refine d_take 6 H rfl (by kernel_rfl) (by kernel_rfl) (by kernel_rfl) (r_assign H rfl) trivial rfl fun a H => ?_
                            refine d_done (by kernel_rfl) (in_normal (in_normal (in_normal (then_normal (⟨_, ?_, l3, out ++ [(UInt8.ofNat 10)], _, _, rfl, H.sub _ (sub_cons rfl (sub_cons rfl (sub_cons rfl (sub_cons rfl (sub_nil))))), hv218, .inl hown215, HE, hB219, ?_, ?_⟩)))))
                            · rw [← hln]; (first | omega | (simp <;> omega))
                            · (first | omega | (simp <;> omega))
                            · (simp <;> omega)
                          · refine y_eql (b := false) H rfl rfl (ieq_f (by omega)) rfl fun a H => ?_
                            refine y_assign H rfl rfl fun a H => ?_
                            refine wpList_nil (then_normal (hK197 _ _ ?_))
                            replace H := H.sub [(0, _), (1, _), (7, _), (9, _), (117, _), (150, _)] (sub_cons rfl (sub_cons rfl (sub_cons rfl (sub_cons rfl (sub_cons rfl (sub_cons rfl (sub_nil)))))))
                            refine y_iff H rfl ?_
                            refine y_seq fun K223 hK223 => ?_
                            refine y_reg ?_
                            by_cases q224 : ((d.toNat : Int)) = ((114 : Int))
                            · refine y_eql (b := true) H rfl rfl (ieq_t (by omega)) rfl fun a H => ?_
                              refine y_assign H rfl rfl fun a H => ?_
                              refine wpList_nil (then_normal (hK223 _ _ ?_))
                              replace H := H.sub [(0, _), (1, _), (7, _), (9, _), (117, _), (157, _)] (sub_cons rfl (sub_cons rfl (sub_cons rfl (sub_cons rfl (sub_cons rfl (sub_cons rfl (sub_nil)))))))
                              refine y_ift H rfl ?_
                              have hdL : d.toNat = 114 := by omega
                              have HE : strA r [] = strA (l3) (out ++ [UInt8.ofNat 13]) := by rw [HA2, escJ_cons, if_neg (by omega), show escC d.toNat = 13 by rw [hdL]; rfl, if_neg (by decide)]; rfl
                              refine d_begin (fun _ => True) 7 mixedZ rfl ?_
                              have hbd225 : Below w45.heap.size w45 w45.drew := (Below.refl _ _).drew
                              generalize w45.drew = wd225 at hbd225 ⊢
                              have hv226 := View.below hv46 hbd225
                              have hv227 := View.below hv47 hbd225
                              have ho228 := OutV.below ho48 hbd225
                              have hB229 := below_comp hB49 hbd225
                              have hz230 := Below.size hB229
                              refine d_take 0 H rfl (by kernel_rfl) (by kernel_rfl) (by kernel_rfl) (r_move H rfl) trivial rfl fun a H => ?_
                              obtain ⟨vs232, hsl232, hvs232⟩ := view_from (P := Tryd.prog) hv227 28 5 Tryd.underlying28 info5u .i64 ((2 : Int)) 2 (by omega) (by first | omega | (simp <;> omega))
                              replace hvs232 : View _ _ vs232 (l3) := hvs232
                              refine d_take 1 H rfl (by kernel_rfl) (by kernel_rfl) (by kernel_rfl) (r_fromZ Tryd.underlying28 H rfl rfl hsl232) trivial rfl fun a H => ?_
                              refine d_take 2 H rfl (by kernel_rfl) (by kernel_rfl) (by kernel_rfl) (r_move H rfl) trivial rfl fun a H => ?_
                              refine d_one 3 (by kernel_rfl) rfl rfl ?_
                              refine y_oneS H rfl rfl fun w234 q234 hr234 hb234 a H => ?_
                              have hv235 := View.below hv226 hb234
                              have hv236 := View.below hv227 hb234
                              have hv237 := View.below hvs232 hb234
                              have ho238 := OutV.below ho228 hb234
                              have hB239 := below_comp hB229 hb234
                              have hz240 := Below.size hB239
                              refine wpList_nil ⟨trivial, ?_⟩
                              refine d_one 4 (by kernel_rfl) rfl rfl ?_
                              refine y_out1 (UInt8.ofNat 13) H rfl ho238 rfl hr234 (by omega) (by first | omega | (simp <;> omega)) rfl fun v241 w241 hown241 hbN241 a H => ?_
                              have hv242 := View.keptB hv235 hbN241 hgg
                              have hv243 := View.keptB hv236 hbN241 hgg
                              have hv244 := View.keptB hv237 hbN241 hgg
                              have hB245 := Below.trans hB239 hbN241
                              have hz246 := Below.size hB245
                              refine wpList_nil ⟨trivial, ?_⟩
                              refine d_take 5 H rfl (by kernel_rfl) (by kernel_rfl) (by kernel_rfl) (r_assign H rfl) trivial rfl fun a H => ?_
                              refine d_take 6 H rfl (by kernel_rfl) (by kernel_rfl) (by kernel_rfl) (r_assign H rfl) trivial rfl fun a H => ?_
                              refine d_done (by kernel_rfl) (in_normal (in_normal (in_normal (then_normal (⟨_, ?_, l3, out ++ [(UInt8.ofNat 13)], _, _, rfl, H.sub _ (sub_cons rfl (sub_cons rfl (sub_cons rfl (sub_cons rfl (sub_nil))))), hv244, .inl hown241, HE, hB245, ?_, ?_⟩)))))
                              · rw [← hln]; (first | omega | (simp <;> omega))
                              · (first | omega | (simp <;> omega))
                              · (simp <;> omega)
                            · refine y_eql (b := false) H rfl rfl (ieq_f (by omega)) rfl fun a H => ?_
                              refine y_assign H rfl rfl fun a H => ?_
                              refine wpList_nil (then_normal (hK223 _ _ ?_))
                              replace H := H.sub [(0, _), (1, _), (7, _), (9, _), (117, _), (157, _)] (sub_cons rfl (sub_cons rfl (sub_cons rfl (sub_cons rfl (sub_cons rfl (sub_cons rfl (sub_nil)))))))
                              refine y_iff H rfl ?_
                              refine y_seq fun K249 hK249 => ?_
                              refine y_reg ?_
                              by_cases q250 : ((d.toNat : Int)) = ((116 : Int))
                              · refine y_eql (b := true) H rfl rfl (ieq_t (by omega)) rfl fun a H => ?_
                                refine y_assign H rfl rfl fun a H => ?_
                                refine wpList_nil (then_normal (hK249 _ _ ?_))
                                replace H := H.sub [(0, _), (1, _), (7, _), (9, _), (117, _), (164, _)] (sub_cons rfl (sub_cons rfl (sub_cons rfl (sub_cons rfl (sub_cons rfl (sub_cons rfl (sub_nil)))))))
                                refine y_ift H rfl ?_
                                have hdL : d.toNat = 116 := by omega
                                have HE : strA r [] = strA (l3) (out ++ [UInt8.ofNat 9]) := by rw [HA2, escJ_cons, if_neg (by omega), show escC d.toNat = 9 by rw [hdL]; rfl, if_neg (by decide)]; rfl
                                refine d_begin (fun _ => True) 7 mixedZ rfl ?_
                                have hbd251 : Below w45.heap.size w45 w45.drew := (Below.refl _ _).drew
                                generalize w45.drew = wd251 at hbd251 ⊢
                                have hv252 := View.below hv46 hbd251
                                have hv253 := View.below hv47 hbd251
                                have ho254 := OutV.below ho48 hbd251
                                have hB255 := below_comp hB49 hbd251
                                have hz256 := Below.size hB255
                                refine d_take 0 H rfl (by kernel_rfl) (by kernel_rfl) (by kernel_rfl) (r_move H rfl) trivial rfl fun a H => ?_
                                obtain ⟨vs258, hsl258, hvs258⟩ := view_from (P := Tryd.prog) hv253 28 5 Tryd.underlying28 info5u .i64 ((2 : Int)) 2 (by omega) (by first | omega | (simp <;> omega))
                                replace hvs258 : View _ _ vs258 (l3) := hvs258
                                refine d_take 1 H rfl (by kernel_rfl) (by kernel_rfl) (by kernel_rfl) (r_fromZ Tryd.underlying28 H rfl rfl hsl258) trivial rfl fun a H => ?_
                                refine d_take 2 H rfl (by kernel_rfl) (by kernel_rfl) (by kernel_rfl) (r_move H rfl) trivial rfl fun a H => ?_
                                refine d_one 3 (by kernel_rfl) rfl rfl ?_
                                refine y_oneS H rfl rfl fun w260 q260 hr260 hb260 a H => ?_
                                have hv261 := View.below hv252 hb260
                                have hv262 := View.below hv253 hb260
                                have hv263 := View.below hvs258 hb260
                                have ho264 := OutV.below ho254 hb260
                                have hB265 := below_comp hB255 hb260
                                have hz266 := Below.size hB265
                                refine wpList_nil ⟨trivial, ?_⟩
                                refine d_one 4 (by kernel_rfl) rfl rfl ?_
                                refine y_out1 (UInt8.ofNat 9) H rfl ho264 rfl hr260 (by omega) (by first | omega | (simp <;> omega)) rfl fun v267 w267 hown267 hbN267 a H => ?_
                                have hv268 := View.keptB hv261 hbN267 hgg
                                have hv269 := View.keptB hv262 hbN267 hgg
                                have hv270 := View.keptB hv263 hbN267 hgg
                                have hB271 := Below.trans hB265 hbN267
                                have hz272 := Below.size hB271
                                refine wpList_nil ⟨trivial, ?_⟩
                                refine d_take 5 H rfl (by kernel_rfl) (by kernel_rfl) (by kernel_rfl) (r_assign H rfl) trivial rfl fun a H => ?_
                                refine d_take 6 H rfl (by kernel_rfl) (by kernel_rfl) (by kernel_rfl) (r_assign H rfl) trivial rfl fun a H => ?_
                                refine d_done (by kernel_rfl) (in_normal (in_normal (in_normal (then_normal (⟨_, ?_, l3, out ++ [(UInt8.ofNat 9)], _, _, rfl, H.sub _ (sub_cons rfl (sub_cons rfl (sub_cons rfl (sub_cons rfl (sub_nil))))), hv270, .inl hown267, HE, hB271, ?_, ?_⟩)))))
                                · rw [← hln]; (first | omega | (simp <;> omega))
                                · (first | omega | (simp <;> omega))
                                · (simp <;> omega)
                              · refine y_eql (b := false) H rfl rfl (ieq_f (by omega)) rfl fun a H => ?_
                                refine y_assign H rfl rfl fun a H => ?_
                                refine wpList_nil (then_normal (hK249 _ _ ?_))
                                replace H := H.sub [(0, _), (1, _), (7, _), (9, _), (117, _), (164, _)] (sub_cons rfl (sub_cons rfl (sub_cons rfl (sub_cons rfl (sub_cons rfl (sub_cons rfl (sub_nil)))))))
                                refine y_iff H rfl ?_
                                refine y_seq fun K275 hK275 => ?_
                                refine y_reg ?_
                                by_cases q276 : ((d.toNat : Int)) = ((117 : Int))
                                · refine y_eql (b := true) H rfl rfl (ieq_t (by omega)) rfl fun a H => ?_
                                  refine y_assign H rfl rfl fun a H => ?_
                                  refine wpList_nil (then_normal (hK275 _ _ ?_))
                                  replace H := H.sub [(0, _), (1, _), (7, _), (9, _), (171, _)] (sub_cons rfl (sub_cons rfl (sub_cons rfl (sub_cons rfl (sub_cons rfl (sub_nil))))))
                                  refine y_ift H rfl ?_
                                  refine y_seq fun K277 hK277 => ?_
                                  refine y_seq fun K278 hK278 => ?_
                                  have HA4 : strA r [] = (match escU (b :: d :: l3) with
                                    | none => none
                                    | some (bb, m) => strA ((b :: d :: l3).drop m) (out ++ bb)) := by rw [HA2, escJ_cons, if_pos (by omega)]
                                  by_cases h6 : l3.length < 4
                                  · have HN : strJ (c0 :: r) = none := strJ_no (by rw [HA4, escU_short h6])
                                    refine y_reg ?_
                                    refine y_move H rfl rfl fun a H => ?_
                                    refine y_len Tryd.underlying28 H rfl hv47 rfl fun a H => ?_
                                    refine y_lss (b := true) H rfl rfl (decide_eq_true (by omega)) rfl fun a H => ?_
                                    refine wpList_nil (then_normal (hK278 _ _ ?_))
                                    replace H := H.sub [(0, _), (1, _), (7, _), (9, _), (175, _)] (sub_cons rfl (sub_cons rfl (sub_cons rfl (sub_cons rfl (sub_cons rfl (sub_nil))))))
                                    refine y_ift H rfl ?_
                                    refine y_seq fun K279 hK279 => ?_
                                    obtain ⟨te280, xe280, hE280⟩ := (DW.glob (DW.below h hB49)).eof
                                    refine d_begin (fun w' => w'.cell? ⟨0, 0, none⟩ = some (.iface te280 xe280)) 4 mixedZ rfl ?_
                                    have hbd281 : Below w45.heap.size w45 w45.drew := (Below.refl _ _).drew
                                    generalize w45.drew = wd281 at hbd281 ⊢
                                    have hv282 := View.below hv46 hbd281
                                    have hv283 := View.below hv47 hbd281
                                    have ho284 := OutV.below ho48 hbd281
                                    have hB285 := below_comp hB49 hbd281
                                    have hz286 := Below.size hB285
                                    replace hE280 := (Below.cell hbd281 (World.block_lt_of_cell? _ _ hE280)).trans hE280
                                    refine d_take 0 H rfl (by kernel_rfl) (by kernel_rfl) (by kernel_rfl) (r_load oneErrZ H rfl (fun _ h => h)) hE280 rfl fun a H => ?_
                                    refine d_take 1 H rfl (by kernel_rfl) (by kernel_rfl) (by kernel_rfl) (r_assign H rfl) hE280 rfl fun a H => ?_
                                    refine d_take 2 H rfl (by kernel_rfl) (by kernel_rfl) (by kernel_rfl) (r_assign H rfl) hE280 rfl fun a H => ?_
                                    refine d_take 3 H rfl (by kernel_rfl) (by kernel_rfl) (by kernel_rfl) (r_assign H rfl) hE280 rfl fun a H => ?_
                                    refine d_done (by kernel_rfl) (then_normal (hK279 _ _ ?_))
                                    replace H := H.sub [(0, _), (1, _), (4, _), (5, _), (6, _), (7, _), (9, _)] (sub_cons rfl (sub_cons rfl (sub_cons rfl (sub_cons rfl (sub_cons rfl (sub_cons rfl (sub_cons rfl (sub_nil))))))))
                                    refine wp_ret (then_ret (in_ret (in_ret (in_ret (then_ret (in_ret (then_ret (?_))))))))
                                    exact ret3 (by rfl) H rfl rfl rfl ⟨StrRes.bad HN _ _, hB285⟩
                                  · refine y_reg ?_
                                    refine y_move H rfl rfl fun a H => ?_
                                    refine y_len Tryd.underlying28 H rfl hv47 rfl fun a H => ?_
                                    refine y_lss (b := false) H rfl rfl (decide_eq_false (by omega)) rfl fun a H => ?_
                                    refine wpList_nil (then_normal (hK278 _ _ ?_))
                                    replace H := H.sub [(0, _), (1, _), (7, _), (9, _), (175, _)] (sub_cons rfl (sub_cons rfl (sub_cons rfl (sub_cons rfl (sub_cons rfl (sub_nil))))))
                                    refine y_iff H rfl ?_
                                    refine wp_skip (then_normal (hK277 _ _ ?_))
                                    replace H := H.sub [(0, _), (1, _), (7, _), (9, _)] (sub_cons rfl (sub_cons rfl (sub_cons rfl (sub_cons rfl (sub_nil)))))
                                    refine y_seq fun K291 hK291 => ?_
                                    have hT4 : (l3.take 4).length = 4 := by rw [List.length_take]; omega
                                    have Hs292 := H
                                    rcases hx : hexN 0 (l3.take 4) with _ | x1
                                    · have H := Hs292
                                      have HN : strJ (c0 :: r) = none := strJ_no (by rw [HA4, escU_bad h6 hx])
                                      refine y_reg ?_
                                      refine y_move H rfl rfl fun a H => ?_
                                      refine y_both (m := 2) (n := 6) (ys := l3.take 4) H rfl rfl rfl hv47 (by omega) (by omega) (by omega) (by first | omega | (simp <;> omega)) (rfl) rfl fun a vs293 H hvs293 => ?_
                                      refine y_conv H rfl hvs293 rfl fun a H => ?_
                                      refine y_call pf_parse H rfl rfl (Calls.mono (parseUint_none (l3.take 4) w45 hT4 hx (DW.glob (DW.below h hB49)).syn) ?_)
                                      rintro e w294 ⟨⟨t5, x5, rfl⟩, hb294⟩
                                      refine ⟨_, rfl, fun a H => ?_⟩
                                      have hv295 := View.below hv46 hb294
                                      have hv296 := View.below hv47 hb294
                                      have hv297 := View.below hvs293 hb294
                                      have ho298 := OutV.below ho48 hb294
                                      have hB299 := below_comp hB49 hb294
                                      have hz300 := Below.size hB299
                                      refine y_move H rfl rfl fun a H => ?_
                                      refine y_extract H rfl rfl rfl fun a H => ?_
                                      refine y_extract H rfl rfl rfl fun a H => ?_
                                      refine y_assign H rfl rfl fun a H => ?_
                                      refine y_assign H rfl rfl fun a H => ?_
                                      refine wpList_nil (then_normal (hK291 _ _ ?_))
                                      replace H := H.sub [(0, _), (1, _), (7, _), (9, _), (14, _), (15, _)] (sub_cons rfl (sub_cons rfl (sub_cons rfl (sub_cons rfl (sub_cons rfl (sub_cons rfl (sub_nil)))))))
                                      refine y_seq fun K301 hK301 => ?_
                                      refine y_seq fun K302 hK302 => ?_
                                      refine y_reg ?_
                                      refine y_move H rfl rfl fun a H => ?_
                                      refine y_neZ H rfl (.inr ⟨_, _, rfl, rfl⟩) rfl fun a H => ?_
                                      refine wpList_nil (then_normal (hK302 _ _ ?_))
                                      replace H := H.sub [(0, _), (1, _), (7, _), (9, _), (14, _), (185, _)] (sub_cons rfl (sub_cons rfl (sub_cons rfl (sub_cons rfl (sub_cons rfl (sub_cons rfl (sub_nil)))))))
                                      refine y_ift H rfl ?_
                                      refine y_seq fun K303 hK303 => ?_
                                      refine d_begin (fun _ => True) 11 mixedZ rfl ?_
                                      have hbd304 : Below w294.heap.size w294 w294.drew := (Below.refl _ _).drew
                                      generalize w294.drew = wd304 at hbd304 ⊢
                                      have hv305 := View.below hv295 hbd304
                                      have hv306 := View.below hv296 hbd304
                                      have ho307 := OutV.below ho298 hbd304
                                      have hB308 := below_comp hB299 hbd304
                                      have hz309 := Below.size hB308
                                      refine d_take 0 H rfl (by kernel_rfl) (by kernel_rfl) (by kernel_rfl) (r_move H rfl) trivial rfl fun a H => ?_
                                      refine d_take 1 H rfl (by kernel_rfl) (by kernel_rfl) (by kernel_rfl) (r_move H rfl) trivial rfl fun a H => ?_
                                      refine d_take 3 H rfl (by kernel_rfl) (by kernel_rfl) (by kernel_rfl) (r_move H rfl) trivial rfl fun a H => ?_
                                      obtain ⟨ao313, c313, hsl313, hvs313⟩ := view_upto (P := Tryd.prog) hv306 28 5 Tryd.underlying28 info5u .i64 ((6 : Int)) 6 (by omega) (by first | omega | (simp <;> omega))
                                      refine d_take 4 H rfl (by kernel_rfl) (by kernel_rfl) (by kernel_rfl) (r_uptoZ Tryd.underlying28 H rfl rfl hsl313) trivial rfl fun a H => ?_
                                      refine d_take 5 H rfl (by kernel_rfl) (by kernel_rfl) (by kernel_rfl) (r_mkZ Tryd.underlying28 rfl H rfl) trivial rfl fun a H => ?_
                                      refine d_two 2 6 (by kernel_rfl) rfl rfl rfl rfl ?_ ?_
                                      · refine y_call pf_cur H rfl rfl (Calls.mono (currPos_any s wd304 (DW.below h hB308)) ?_)
                                        rintro e w315 ⟨rfl, hb315⟩
                                        refine ⟨_, rfl, fun a H => ?_⟩
                                        have hv316 := View.below hv305 hb315
                                        have hv317 := View.below hv306 hb315
                                        have hv318 := View.below hvs313 hb315
                                        have ho319 := OutV.below ho307 hb315
                                        have hB320 := below_comp hB308 hb315
                                        have hz321 := Below.size hB320
                                        refine wpList_nil ⟨trivial, ?_⟩
                                        refine d_one 6 (by kernel_rfl) rfl rfl ?_
                                        refine y_anyS H rfl rfl fun w322 u322 hb322 a H => ?_
                                        have hv323 := View.below hv316 hb322
                                        have hv324 := View.below hv317 hb322
                                        have hv325 := View.below hv318 hb322
                                        have ho326 := OutV.below ho319 hb322
                                        have hB327 := below_comp hB320 hb322
                                        have hz328 := Below.size hB327
                                        refine wpList_nil ⟨trivial, ?_⟩
                                        refine d_one 7 (by kernel_rfl) rfl rfl ?_
                                        refine y_call pf_nerr H rfl rfl (Calls.mono (newError_any _ _ _ _ w322 (by decide)) ?_)
                                        rintro e w329 ⟨⟨xe329, rfl⟩, hb329⟩
                                        refine ⟨_, rfl, fun a H => ?_⟩
                                        have hv330 := View.below hv323 hb329
                                        have hv331 := View.below hv324 hb329
                                        have hv332 := View.below hv325 hb329
                                        have ho333 := OutV.below ho326 hb329
                                        have hB334 := below_comp hB327 hb329
                                        have hz335 := Below.size hB334
                                        refine wpList_nil ⟨trivial, ?_⟩
                                        refine d_take 8 H rfl (by kernel_rfl) (by kernel_rfl) (by kernel_rfl) (r_assign H rfl) trivial rfl fun a H => ?_
                                        refine d_take 9 H rfl (by kernel_rfl) (by kernel_rfl) (by kernel_rfl) (r_assign H rfl) trivial rfl fun a H => ?_
                                        refine d_take 10 H rfl (by kernel_rfl) (by kernel_rfl) (by kernel_rfl) (r_assign H rfl) trivial rfl fun a H => ?_
                                        refine d_done (by kernel_rfl) (then_normal (hK303 _ _ ?_))
                                        replace H := H.sub [(0, _), (1, _), (4, _), (5, _), (6, _), (7, _), (9, _), (14, _)] (sub_cons rfl (sub_cons rfl (sub_cons rfl (sub_cons rfl (sub_cons rfl (sub_cons rfl (sub_cons rfl (sub_cons rfl (sub_nil)))))))))
                                        refine wp_ret (then_ret (in_ret (in_ret (in_ret (then_ret (in_ret (then_ret (?_))))))))
                                        exact ret3 (by rfl) H rfl rfl rfl ⟨StrRes.bad HN _ _, hB334⟩
                                      · refine y_anyS H rfl rfl fun w339 u339 hb339 a H => ?_
                                        have hv340 := View.below hv305 hb339
                                        have hv341 := View.below hv306 hb339
                                        have hv342 := View.below hvs313 hb339
                                        have ho343 := OutV.below ho307 hb339
                                        have hB344 := below_comp hB308 hb339
                                        have hz345 := Below.size hB344
                                        refine wpList_nil ⟨trivial, ?_⟩
                                        refine d_one 2 (by kernel_rfl) rfl rfl ?_
                                        refine y_call pf_cur H rfl rfl (Calls.mono (currPos_any s w339 (DW.below h hB344)) ?_)
                                        rintro e w346 ⟨rfl, hb346⟩
                                        refine ⟨_, rfl, fun a H => ?_⟩
                                        have hv347 := View.below hv340 hb346
                                        have hv348 := View.below hv341 hb346
                                        have hv349 := View.below hv342 hb346
                                        have ho350 := OutV.below ho343 hb346
                                        have hB351 := below_comp hB344 hb346
                                        have hz352 := Below.size hB351
                                        refine wpList_nil ⟨trivial, ?_⟩
                                        refine d_one 7 (by kernel_rfl) rfl rfl ?_
                                        refine y_call pf_nerr H rfl rfl (Calls.mono (newError_any _ _ _ _ w346 (by decide)) ?_)
                                        rintro e w353 ⟨⟨xe353, rfl⟩, hb353⟩
                                        refine ⟨_, rfl, fun a H => ?_⟩
                                        have hv354 := View.below hv347 hb353
                                        have hv355 := View.below hv348 hb353
                                        have hv356 := View.below hv349 hb353
                                        have ho357 := OutV.below ho350 hb353
                                        have hB358 := below_comp hB351 hb353
                                        have hz359 := Below.size hB358
                                        refine wpList_nil ⟨trivial, ?_⟩
                                        refine d_take 8 H rfl (by kernel_rfl) (by kernel_rfl) (by kernel_rfl) (r_assign H rfl) trivial rfl fun a H => ?_
                                        refine d_take 9 H rfl (by kernel_rfl) (by kernel_rfl) (by kernel_rfl) (r_assign H rfl) trivial rfl fun a H => ?_
                                        refine d_take 10 H rfl (by kernel_rfl) (by kernel_rfl) (by kernel_rfl) (r_assign H rfl) trivial rfl fun a H => ?_
                                        refine d_done (by kernel_rfl) (then_normal (hK303 _ _ ?_))
                                        replace H := H.sub [(0, _), (1, _), (4, _), (5, _), (6, _), (7, _), (9, _), (14, _)] (sub_cons rfl (sub_cons rfl (sub_cons rfl (sub_cons rfl (sub_cons rfl (sub_cons rfl (sub_cons rfl (sub_cons rfl (sub_nil)))))))))
                                        refine wp_ret (then_ret (in_ret (in_ret (in_ret (then_ret (in_ret (then_ret (?_))))))))
                                        exact ret3 (by rfl) H rfl rfl rfl ⟨StrRes.bad HN _ _, hB358⟩
                                    · have H := Hs292
                                      have hx1l : x1 < 65536 := by have h1 := hexN_lt _ _ _ hx; have h2 := Nat.pow_le_pow_right (show 0 < 16 by omega) (show (l3.take 4).length ≤ 4 by omega); omega
                                      refine y_reg ?_
                                      refine y_move H rfl rfl fun a H => ?_
                                      refine y_both (m := 2) (n := 6) (ys := l3.take 4) H rfl rfl rfl hv47 (by omega) (by omega) (by omega) (by first | omega | (simp <;> omega)) (rfl) rfl fun a vs363 H hvs363 => ?_
                                      refine y_conv H rfl hvs363 rfl fun a H => ?_
                                      refine y_call pf_parse H rfl rfl (Calls.mono (parseUint_some (l3.take 4) x1 w45 hT4 hx) ?_)
                                      rintro e w364 ⟨rfl, hb364⟩
                                      refine ⟨_, rfl, fun a H => ?_⟩
                                      have hv365 := View.below hv46 hb364
                                      have hv366 := View.below hv47 hb364
                                      have hv367 := View.below hvs363 hb364
                                      have ho368 := OutV.below ho48 hb364
                                      have hB369 := below_comp hB49 hb364
                                      have hz370 := Below.size hB369
                                      refine y_move H rfl rfl fun a H => ?_
                                      refine y_extract H rfl rfl rfl fun a H => ?_
                                      refine y_extract H rfl rfl rfl fun a H => ?_
                                      refine y_assign H rfl rfl fun a H => ?_
                                      refine y_assign H rfl rfl fun a H => ?_
                                      refine wpList_nil (then_normal (hK291 _ _ ?_))
                                      replace H := H.sub [(0, _), (1, _), (7, _), (9, _), (14, _), (15, _)] (sub_cons rfl (sub_cons rfl (sub_cons rfl (sub_cons rfl (sub_cons rfl (sub_cons rfl (sub_nil)))))))
                                      refine y_seq fun K371 hK371 => ?_
                                      refine y_seq fun K372 hK372 => ?_
                                      refine y_reg ?_
                                      refine y_move H rfl rfl fun a H => ?_
                                      refine y_neZ H rfl (.inl ⟨rfl, rfl⟩) rfl fun a H => ?_
                                      refine wpList_nil (then_normal (hK372 _ _ ?_))
                                      replace H := H.sub [(0, _), (1, _), (7, _), (9, _), (14, _), (185, _)] (sub_cons rfl (sub_cons rfl (sub_cons rfl (sub_cons rfl (sub_cons rfl (sub_cons rfl (sub_nil)))))))
                                      refine y_iff H rfl ?_
                                      refine wp_skip (then_normal (hK371 _ _ ?_))
                                      replace H := H.sub [(0, _), (1, _), (7, _), (9, _), (14, _)] (sub_cons rfl (sub_cons rfl (sub_cons rfl (sub_cons rfl (sub_cons rfl (sub_nil))))))
                                      refine y_seq fun K373 hK373 => ?_
                                      refine y_reg ?_
                                      refine y_move H rfl rfl fun a H => ?_
                                      refine y_fromN (m := 6) (ys := l3.drop 4) H rfl rfl hv366 (by omega) (by first | omega | (simp <;> omega)) (rfl) rfl fun a vs374 H hvs374 => ?_
                                      refine y_assign H rfl rfl fun a H => ?_
                                      refine wpList_nil (then_normal (hK373 _ _ ?_))
                                      replace H := H.sub [(0, _), (1, _), (7, _), (9, _), (14, _)] (sub_cons rfl (sub_cons rfl (sub_cons rfl (sub_cons rfl (sub_cons rfl (sub_nil))))))
                                      refine y_seq fun K375 hK375 => ?_
                                      refine y_reg ?_
                                      refine y_move H rfl rfl fun a H => ?_
                                      refine y_cvt Tryd.underlying116 Tryd.underlying21 H rfl (w_i32 (by omega) (by omega)) rfl fun a H => ?_
                                      refine y_assign H rfl rfl fun a H => ?_
                                      refine wpList_nil (then_normal (hK375 _ _ ?_))
                                      replace H := H.sub [(0, _), (1, _), (7, _), (9, _), (16, _)] (sub_cons rfl (sub_cons rfl (sub_cons rfl (sub_cons rfl (sub_cons rfl (sub_nil))))))
                                      refine y_seq fun K376 hK376 => ?_
                                      refine y_seq fun K377 hK377 => ?_
                                      have Hs378 := H
                                      rcases hs : surrB x1 with _ | _
                                      · have H := Hs378
                                        have hs2 : x1 < 55296 ∨ 57344 ≤ x1 := by unfold surrB at hs; simp at hs; omega
                                        have HE : strA r [] = strA (l3.drop 4) (out ++ encU (x1)) := by rw [HA4, escU_one h6 hx hs]; rfl
                                        refine y_reg ?_
                                        refine y_move H rfl rfl fun a H => ?_
                                        have hP := isSurr_any x1 w364
                                        rw [hs] at hP
                                        refine y_call pf_surr H rfl rfl (Calls.mono (hP) ?_)
                                        rintro e w379 ⟨rfl, rfl⟩
                                        refine ⟨_, rfl, fun a H => ?_⟩
                                        refine wpList_nil (then_normal (hK377 _ _ ?_))
                                        replace H := H.sub [(0, _), (1, _), (7, _), (9, _), (16, _), (199, _)] (sub_cons rfl (sub_cons rfl (sub_cons rfl (sub_cons rfl (sub_cons rfl (sub_cons rfl (sub_nil)))))))
                                        refine y_iff H rfl ?_
                                        refine wp_skip (then_normal (hK376 _ _ ?_))
                                        replace H := H.sub [(0, _), (1, _), (7, _), (9, _), (16, _)] (sub_cons rfl (sub_cons rfl (sub_cons rfl (sub_cons rfl (sub_cons rfl (sub_nil))))))
                                        refine y_reg ?_
                                        refine y_move H rfl rfl fun a H => ?_
                                        refine y_move H rfl rfl fun a H => ?_
                                        refine y_convRune H rfl (enc_str (c := x1) (by omega)) rfl fun a H => ?_
                                        refine y_outS H rfl ho368 rfl (encU_pos _) (by omega) (by have := encU_le (x1); first | omega | (simp <;> omega)) rfl fun v380 w380 hown380 hbN380 a H => ?_
                                        have hv381 := View.keptB hv365 hbN380 hgg
                                        have hv382 := View.keptB hvs374 hbN380 hgg
                                        have hB383 := Below.trans hB369 hbN380
                                        have hz384 := Below.size hB383
                                        refine y_assign H rfl rfl fun a H => ?_
                                        refine wpList_nil (in_normal (in_normal (in_normal (then_normal (⟨_, ?_, l3.drop 4, out ++ encU (x1), _, _, rfl, H.sub _ (sub_cons rfl (sub_cons rfl (sub_cons rfl (sub_cons rfl (sub_nil))))), hv382, .inl hown380, HE, hB383, ?_, ?_⟩)))))
                                        · rw [← hln]; (first | omega | (simp <;> omega))
                                        · (first | omega | (simp <;> omega))
                                        · (have := encU_le (x1); simp <;> omega)
                                      · have H := Hs378
                                        refine y_reg ?_
                                        refine y_move H rfl rfl fun a H => ?_
                                        have hP := isSurr_any x1 w364
                                        rw [hs] at hP
                                        refine y_call pf_surr H rfl rfl (Calls.mono (hP) ?_)
                                        rintro e w385 ⟨rfl, rfl⟩
                                        refine ⟨_, rfl, fun a H => ?_⟩
                                        refine wpList_nil (then_normal (hK377 _ _ ?_))
                                        replace H := H.sub [(0, _), (1, _), (7, _), (9, _), (16, _), (199, _)] (sub_cons rfl (sub_cons rfl (sub_cons rfl (sub_cons rfl (sub_cons rfl (sub_cons rfl (sub_nil)))))))
                                        refine y_ift H rfl ?_
                                        refine y_seq fun K386 hK386 => ?_
                                        refine y_seq fun K387 hK387 => ?_
                                        have hLd : (l3.drop 4).length = l3.length - 4 := List.length_drop
                                        by_cases h46 : l3.length - 4 < 6
                                        · have HN : strJ (c0 :: r) = none := strJ_no (by rw [HA4, escU_short2 h6 hx hs (by omega)])
                                          refine y_reg ?_
                                          refine y_move H rfl rfl fun a H => ?_
                                          refine y_len Tryd.underlying28 H rfl hvs374 rfl fun a H => ?_
                                          refine y_lss (b := true) H rfl rfl (decide_eq_true (by omega)) rfl fun a H => ?_
                                          refine wpList_nil (then_normal (hK387 _ _ ?_))
                                          replace H := H.sub [(0, _), (1, _), (7, _), (9, _), (16, _), (202, _)] (sub_cons rfl (sub_cons rfl (sub_cons rfl (sub_cons rfl (sub_cons rfl (sub_cons rfl (sub_nil)))))))
                                          refine y_ift H rfl ?_
                                          refine y_seq fun K388 hK388 => ?_
                                          obtain ⟨te389, xe389, hE389⟩ := (DW.glob (DW.below h hB369)).eof
                                          refine d_begin (fun w' => w'.cell? ⟨0, 0, none⟩ = some (.iface te389 xe389)) 4 mixedZ rfl ?_
                                          have hbd390 : Below w364.heap.size w364 w364.drew := (Below.refl _ _).drew
                                          generalize w364.drew = wd390 at hbd390 ⊢
                                          have hv391 := View.below hv365 hbd390
                                          have hv392 := View.below hvs374 hbd390
                                          have ho393 := OutV.below ho368 hbd390
                                          have hB394 := below_comp hB369 hbd390
                                          have hz395 := Below.size hB394
                                          replace hE389 := (Below.cell hbd390 (World.block_lt_of_cell? _ _ hE389)).trans hE389
                                          refine d_take 0 H rfl (by kernel_rfl) (by kernel_rfl) (by kernel_rfl) (r_load oneErrZ H rfl (fun _ h => h)) hE389 rfl fun a H => ?_
                                          refine d_take 1 H rfl (by kernel_rfl) (by kernel_rfl) (by kernel_rfl) (r_assign H rfl) hE389 rfl fun a H => ?_
                                          refine d_take 2 H rfl (by kernel_rfl) (by kernel_rfl) (by kernel_rfl) (r_assign H rfl) hE389 rfl fun a H => ?_
                                          refine d_take 3 H rfl (by kernel_rfl) (by kernel_rfl) (by kernel_rfl) (r_assign H rfl) hE389 rfl fun a H => ?_
                                          refine d_done (by kernel_rfl) (then_normal (hK388 _ _ ?_))
                                          replace H := H.sub [(0, _), (1, _), (4, _), (5, _), (6, _), (7, _), (9, _), (16, _)] (sub_cons rfl (sub_cons rfl (sub_cons rfl (sub_cons rfl (sub_cons rfl (sub_cons rfl (sub_cons rfl (sub_cons rfl (sub_nil)))))))))
                                          refine wp_ret (then_ret (then_ret (in_ret (in_ret (in_ret (then_ret (in_ret (then_ret (?_)))))))))
                                          exact ret3 (by rfl) H rfl rfl rfl ⟨StrRes.bad HN _ _, hB394⟩
                                        · refine y_reg ?_
                                          refine y_move H rfl rfl fun a H => ?_
                                          refine y_len Tryd.underlying28 H rfl hvs374 rfl fun a H => ?_
                                          refine y_lss (b := false) H rfl rfl (decide_eq_false (by omega)) rfl fun a H => ?_
                                          refine wpList_nil (then_normal (hK387 _ _ ?_))
                                          replace H := H.sub [(0, _), (1, _), (7, _), (9, _), (16, _), (202, _)] (sub_cons rfl (sub_cons rfl (sub_cons rfl (sub_cons rfl (sub_cons rfl (sub_cons rfl (sub_nil)))))))
                                          refine y_iff H rfl ?_
                                          refine wp_skip (then_normal (hK386 _ _ ?_))
                                          replace H := H.sub [(0, _), (1, _), (7, _), (9, _), (16, _)] (sub_cons rfl (sub_cons rfl (sub_cons rfl (sub_cons rfl (sub_cons rfl (sub_nil))))))
                                          refine y_seq fun K400 hK400 => ?_
                                          obtain ⟨e1, f1, l5, hl4⟩ : ∃ e1 f1 l5, l3.drop 4 = e1 :: f1 :: l5 := by
                                            rcases hq : l3.drop 4 with _ | ⟨e1, _ | ⟨f1, l5⟩⟩
                                            · rw [hq] at hLd; simp at hLd; omega
                                            · rw [hq] at hLd; simp at hLd; omega
                                            · exact ⟨e1, f1, l5, rfl⟩
                                          have hL5 : l3.length = l5.length + 6 := by have := congrArg List.length hl4; simp at this; omega
                                          have hL6 : (e1 :: f1 :: l5).length = l5.length + 2 := rfl
                                          have h5l : 4 ≤ l5.length := by omega
                                          have hT5 : (l5.take 4).length = 4 := by rw [List.length_take]; omega
                                          have hv5 := View.eq hvs374 hl4
                                          have hbe := byte_bd e1
                                          have hbf := byte_bd f1
                                          have Hs401 := H
                                          rcases hx2 : hexN 0 (l5.take 4) with _ | x2
                                          · have H := Hs401
                                            have HN : strJ (c0 :: r) = none := strJ_no (by rw [HA4, escU_more h6 hx hs hl4 h5l, hx2])
                                            have hpz := pairR_zero x1
                                            refine y_reg ?_
                                            refine y_move H rfl rfl fun a H => ?_
                                            refine y_both (m := 2) (n := 6) (ys := l5.take 4) H rfl rfl rfl hv5 (by omega) (by omega) (by omega) (by first | omega | (simp <;> omega)) (rfl) rfl fun a vs402 H hvs402 => ?_
                                            refine y_conv H rfl hvs402 rfl fun a H => ?_
                                            refine y_call pf_parse H rfl rfl (Calls.mono (parseUint_none (l5.take 4) w364 hT5 hx2 (DW.glob (DW.below h hB369)).syn) ?_)
                                            rintro e w403 ⟨⟨t6, x6, rfl⟩, hb403⟩
                                            refine ⟨_, rfl, fun a H => ?_⟩
                                            have hv404 := View.below hv365 hb403
                                            have hv405 := View.below hv5 hb403
                                            have hv406 := View.below hvs402 hb403
                                            have ho407 := OutV.below ho368 hb403
                                            have hB408 := below_comp hB369 hb403
                                            have hz409 := Below.size hB408
                                            refine y_move H rfl rfl fun a H => ?_
                                            refine y_extract H rfl rfl rfl fun a H => ?_
                                            refine y_extract H rfl rfl rfl fun a H => ?_
                                            refine y_assign H rfl rfl fun a H => ?_
                                            refine y_assign H rfl rfl fun a H => ?_
                                            refine wpList_nil (then_normal (hK400 _ _ ?_))
                                            replace H := H.sub [(0, _), (1, _), (7, _), (9, _), (16, _), (17, _), (18, _)] (sub_cons rfl (sub_cons rfl (sub_cons rfl (sub_cons rfl (sub_cons rfl (sub_cons rfl (sub_cons rfl (sub_nil))))))))
                                            refine y_seq fun K410 hK410 => ?_
                                            refine y_reg ?_
                                            refine y_move H rfl rfl fun a H => ?_
                                            refine y_move H rfl rfl fun a H => ?_
                                            refine y_cvt Tryd.underlying116 Tryd.underlying21 H rfl (w_i32 (by omega) (by omega)) rfl fun a H => ?_
                                            refine y_call pf_pair H rfl rfl (Calls.mono (pair_any x1 0 w403) ?_)
                                            rintro e w411 ⟨rfl, rfl⟩
                                            refine ⟨_, rfl, fun a H => ?_⟩
                                            refine y_assign H rfl rfl fun a H => ?_
                                            refine wpList_nil (then_normal (hK410 _ _ ?_))
                                            replace H := H.sub [(0, _), (1, _), (7, _), (9, _), (16, _), (18, _)] (sub_cons rfl (sub_cons rfl (sub_cons rfl (sub_cons rfl (sub_cons rfl (sub_cons rfl (sub_nil)))))))
                                            refine y_seq fun K412 hK412 => ?_
                                            refine y_seq fun K413 hK413 => ?_
                                            refine y_reg ?_
                                            refine y_move H rfl rfl fun a H => ?_
                                            refine y_idx Tryd.underlying28 info5u H rfl rfl hv405 (by decide) rfl rfl fun a ad H hc414 => ?_
                                            refine y_load one5Z H rfl hc414 rfl fun a H => ?_
                                            by_cases q415 : ((e1.toNat : Int)) ≠ ((92 : Int))
                                            · refine y_neq (b := true) H rfl rfl (ine_t (by omega)) rfl fun a H => ?_
                                              refine y_move H rfl rfl fun a H => ?_
                                              refine y_off H rfl rfl rfl fun a H => ?_
                                              refine y_off H rfl rfl rfl fun a H => ?_
                                              refine y_off H rfl rfl rfl fun a H => ?_
                                              refine y_off H rfl rfl rfl fun a H => ?_
                                              refine y_pick H rfl rfl rfl fun a H => ?_
                                              refine y_move H rfl rfl fun a H => ?_
                                              refine y_off H rfl rfl rfl fun a H => ?_
                                              refine y_off H rfl rfl rfl fun a H => ?_
                                              refine y_pick H rfl rfl rfl fun a H => ?_
                                              refine y_move H rfl rfl fun a H => ?_
                                              refine y_off H rfl rfl rfl fun a H => ?_
                                              refine y_off H rfl rfl rfl fun a H => ?_
                                              refine y_pick H rfl rfl rfl fun a H => ?_
                                              refine wpList_nil (then_normal (hK413 _ _ ?_))
                                              replace H := H.sub [(0, _), (1, _), (7, _), (9, _), (16, _), (232, _)] (sub_cons rfl (sub_cons rfl (sub_cons rfl (sub_cons rfl (sub_cons rfl (sub_cons rfl (sub_nil)))))))
                                              refine y_ift H rfl ?_
                                              refine y_seq fun K416 hK416 => ?_
                                              refine d_begin (fun _ => True) 11 mixedZ rfl ?_
                                              have hbd417 : Below w403.heap.size w403 w403.drew := (Below.refl _ _).drew
                                              generalize w403.drew = wd417 at hbd417 ⊢
                                              have hv418 := View.below hv404 hbd417
                                              have hv419 := View.below hv405 hbd417
                                              have ho420 := OutV.below ho407 hbd417
                                              have hB421 := below_comp hB408 hbd417
                                              have hz422 := Below.size hB421
                                              refine d_take 0 H rfl (by kernel_rfl) (by kernel_rfl) (by kernel_rfl) (r_move H rfl) trivial rfl fun a H => ?_
                                              refine d_take 1 H rfl (by kernel_rfl) (by kernel_rfl) (by kernel_rfl) (r_move H rfl) trivial rfl fun a H => ?_
                                              refine d_take 3 H rfl (by kernel_rfl) (by kernel_rfl) (by kernel_rfl) (r_move H rfl) trivial rfl fun a H => ?_
                                              obtain ⟨ao426, c426, hsl426, hvs426⟩ := view_upto (P := Tryd.prog) hv419 28 5 Tryd.underlying28 info5u .i64 ((6 : Int)) 6 (by omega) (by first | omega | (simp <;> omega))
                                              refine d_take 4 H rfl (by kernel_rfl) (by kernel_rfl) (by kernel_rfl) (r_uptoZ Tryd.underlying28 H rfl rfl hsl426) trivial rfl fun a H => ?_
                                              refine d_take 5 H rfl (by kernel_rfl) (by kernel_rfl) (by kernel_rfl) (r_mkZ Tryd.underlying28 rfl H rfl) trivial rfl fun a H => ?_
                                              refine d_two 2 6 (by kernel_rfl) rfl rfl rfl rfl ?_ ?_
                                              · refine y_call pf_cur H rfl rfl (Calls.mono (currPos_any s wd417 (DW.below h hB421)) ?_)
                                                rintro e w428 ⟨rfl, hb428⟩
                                                refine ⟨_, rfl, fun a H => ?_⟩
                                                have hv429 := View.below hv418 hb428
                                                have hv430 := View.below hv419 hb428
                                                have hv431 := View.below hvs426 hb428
                                                have ho432 := OutV.below ho420 hb428
                                                have hB433 := below_comp hB421 hb428
                                                have hz434 := Below.size hB433
                                                refine wpList_nil ⟨trivial, ?_⟩
                                                refine d_one 6 (by kernel_rfl) rfl rfl ?_
                                                refine y_anyS H rfl rfl fun w435 u435 hb435 a H => ?_
                                                have hv436 := View.below hv429 hb435
                                                have hv437 := View.below hv430 hb435
                                                have hv438 := View.below hv431 hb435
                                                have ho439 := OutV.below ho432 hb435
                                                have hB440 := below_comp hB433 hb435
                                                have hz441 := Below.size hB440
                                                refine wpList_nil ⟨trivial, ?_⟩
                                                refine d_one 7 (by kernel_rfl) rfl rfl ?_
                                                refine y_call pf_nerr H rfl rfl (Calls.mono (newError_any _ _ _ _ w435 (by decide)) ?_)
                                                rintro e w442 ⟨⟨xe442, rfl⟩, hb442⟩
                                                refine ⟨_, rfl, fun a H => ?_⟩
                                                have hv443 := View.below hv436 hb442
                                                have hv444 := View.below hv437 hb442
                                                have hv445 := View.below hv438 hb442
                                                have ho446 := OutV.below ho439 hb442
                                                have hB447 := below_comp hB440 hb442
                                                have hz448 := Below.size hB447
                                                refine wpList_nil ⟨trivial, ?_⟩
                                                refine d_take 8 H rfl (by kernel_rfl) (by kernel_rfl) (by kernel_rfl) (r_assign H rfl) trivial rfl fun a H => ?_
                                                refine d_take 9 H rfl (by kernel_rfl) (by kernel_rfl) (by kernel_rfl) (r_assign H rfl) trivial rfl fun a H => ?_
                                                refine d_take 10 H rfl (by kernel_rfl) (by kernel_rfl) (by kernel_rfl) (r_assign H rfl) trivial rfl fun a H => ?_
                                                refine d_done (by kernel_rfl) (then_normal (hK416 _ _ ?_))
                                                replace H := H.sub [(0, _), (1, _), (4, _), (5, _), (6, _), (7, _), (9, _), (16, _)] (sub_cons rfl (sub_cons rfl (sub_cons rfl (sub_cons rfl (sub_cons rfl (sub_cons rfl (sub_cons rfl (sub_cons rfl (sub_nil)))))))))
                                                refine wp_ret (then_ret (then_ret (in_ret (in_ret (in_ret (then_ret (in_ret (then_ret (?_)))))))))
                                                exact ret3 (by rfl) H rfl rfl rfl ⟨StrRes.bad HN _ _, hB447⟩
                                              · refine y_anyS H rfl rfl fun w452 u452 hb452 a H => ?_
                                                have hv453 := View.below hv418 hb452
                                                have hv454 := View.below hv419 hb452
                                                have hv455 := View.below hvs426 hb452
                                                have ho456 := OutV.below ho420 hb452
                                                have hB457 := below_comp hB421 hb452
                                                have hz458 := Below.size hB457
                                                refine wpList_nil ⟨trivial, ?_⟩
                                                refine d_one 2 (by kernel_rfl) rfl rfl ?_
                                                refine y_call pf_cur H rfl rfl (Calls.mono (currPos_any s w452 (DW.below h hB457)) ?_)
                                                rintro e w459 ⟨rfl, hb459⟩
                                                refine ⟨_, rfl, fun a H => ?_⟩
                                                have hv460 := View.below hv453 hb459
                                                have hv461 := View.below hv454 hb459
                                                have hv462 := View.below hv455 hb459
                                                have ho463 := OutV.below ho456 hb459
                                                have hB464 := below_comp hB457 hb459
                                                have hz465 := Below.size hB464
                                                refine wpList_nil ⟨trivial, ?_⟩
                                                refine d_one 7 (by kernel_rfl) rfl rfl ?_
                                                refine y_call pf_nerr H rfl rfl (Calls.mono (newError_any _ _ _ _ w459 (by decide)) ?_)
                                                rintro e w466 ⟨⟨xe466, rfl⟩, hb466⟩
                                                refine ⟨_, rfl, fun a H => ?_⟩
                                                have hv467 := View.below hv460 hb466
                                                have hv468 := View.below hv461 hb466
                                                have hv469 := View.below hv462 hb466
                                                have ho470 := OutV.below ho463 hb466
                                                have hB471 := below_comp hB464 hb466
                                                have hz472 := Below.size hB471
                                                refine wpList_nil ⟨trivial, ?_⟩
                                                refine d_take 8 H rfl (by kernel_rfl) (by kernel_rfl) (by kernel_rfl) (r_assign H rfl) trivial rfl fun a H => ?_
                                                refine d_take 9 H rfl (by kernel_rfl) (by kernel_rfl) (by kernel_rfl) (r_assign H rfl) trivial rfl fun a H => ?_
                                                refine d_take 10 H rfl (by kernel_rfl) (by kernel_rfl) (by kernel_rfl) (r_assign H rfl) trivial rfl fun a H => ?_
                                                refine d_done (by kernel_rfl) (then_normal (hK416 _ _ ?_))
                                                replace H := H.sub [(0, _), (1, _), (4, _), (5, _), (6, _), (7, _), (9, _), (16, _)] (sub_cons rfl (sub_cons rfl (sub_cons rfl (sub_cons rfl (sub_cons rfl (sub_cons rfl (sub_cons rfl (sub_cons rfl (sub_nil)))))))))
                                                refine wp_ret (then_ret (then_ret (in_ret (in_ret (in_ret (then_ret (in_ret (then_ret (?_)))))))))
                                                exact ret3 (by rfl) H rfl rfl rfl ⟨StrRes.bad HN _ _, hB471⟩
                                            · refine y_neq (b := false) H rfl rfl (ine_f (by omega)) rfl fun a H => ?_
                                              refine y_move H rfl rfl fun a H => ?_
                                              refine y_on H rfl rfl ?_
                                              refine y_move H rfl rfl fun a H => ?_
                                              refine y_on H rfl rfl ?_
                                              refine y_idx Tryd.underlying28 info5u H rfl rfl hv405 (by decide) rfl rfl fun a ad H hc476 => ?_
                                              refine y_on H rfl rfl ?_
                                              refine y_load one5Z H rfl hc476 rfl fun a H => ?_
                                              refine y_on H rfl rfl ?_
                                              by_cases q477 : ((f1.toNat : Int)) ≠ ((117 : Int))
                                              · refine y_neq (b := true) H rfl rfl (ine_t (by omega)) rfl fun a H => ?_
                                                refine y_pick H rfl rfl rfl fun a H => ?_
                                                refine y_move H rfl rfl fun a H => ?_
                                                refine y_off H rfl rfl rfl fun a H => ?_
                                                refine y_off H rfl rfl rfl fun a H => ?_
                                                refine y_pick H rfl rfl rfl fun a H => ?_
                                                refine y_move H rfl rfl fun a H => ?_
                                                refine y_off H rfl rfl rfl fun a H => ?_
                                                refine y_off H rfl rfl rfl fun a H => ?_
                                                refine y_pick H rfl rfl rfl fun a H => ?_
                                                refine wpList_nil (then_normal (hK413 _ _ ?_))
                                                replace H := H.sub [(0, _), (1, _), (7, _), (9, _), (16, _), (232, _)] (sub_cons rfl (sub_cons rfl (sub_cons rfl (sub_cons rfl (sub_cons rfl (sub_cons rfl (sub_nil)))))))
                                                refine y_ift H rfl ?_
                                                refine y_seq fun K478 hK478 => ?_
                                                refine d_begin (fun _ => True) 11 mixedZ rfl ?_
                                                have hbd479 : Below w403.heap.size w403 w403.drew := (Below.refl _ _).drew
                                                generalize w403.drew = wd479 at hbd479 ⊢
                                                have hv480 := View.below hv404 hbd479
                                                have hv481 := View.below hv405 hbd479
                                                have ho482 := OutV.below ho407 hbd479
                                                have hB483 := below_comp hB408 hbd479
                                                have hz484 := Below.size hB483
                                                refine d_take 0 H rfl (by kernel_rfl) (by kernel_rfl) (by kernel_rfl) (r_move H rfl) trivial rfl fun a H => ?_
                                                refine d_take 1 H rfl (by kernel_rfl) (by kernel_rfl) (by kernel_rfl) (r_move H rfl) trivial rfl fun a H => ?_
                                                refine d_take 3 H rfl (by kernel_rfl) (by kernel_rfl) (by kernel_rfl) (r_move H rfl) trivial rfl fun a H => ?_
                                                obtain ⟨ao488, c488, hsl488, hvs488⟩ := view_upto (P := Tryd.prog) hv481 28 5 Tryd.underlying28 info5u .i64 ((6 : Int)) 6 (by omega) (by first | omega | (simp <;> omega))
                                                refine d_take 4 H rfl (by kernel_rfl) (by kernel_rfl) (by kernel_rfl) (r_uptoZ Tryd.underlying28 H rfl rfl hsl488) trivial rfl fun a H => ?_
                                                refine d_take 5 H rfl (by kernel_rfl) (by kernel_rfl) (by kernel_rfl) (r_mkZ Tryd.underlying28 rfl H rfl) trivial rfl fun a H => ?_
                                                refine d_two 2 6 (by kernel_rfl) rfl rfl rfl rfl ?_ ?_
                                                · refine y_call pf_cur H rfl rfl (Calls.mono (currPos_any s wd479 (DW.below h hB483)) ?_)
                                                  rintro e w490 ⟨rfl, hb490⟩
                                                  refine ⟨_, rfl, fun a H => ?_⟩
                                                  have hv491 := View.below hv480 hb490
                                                  have hv492 := View.below hv481 hb490
                                                  have hv493 := View.below hvs488 hb490
                                                  have ho494 := OutV.below ho482 hb490
                                                  have hB495 := below_comp hB483 hb490
                                                  have hz496 := Below.size hB495
                                                  refine wpList_nil ⟨trivial, ?_⟩
                                                  refine d_one 6 (by kernel_rfl) rfl rfl ?_
                                                  refine y_anyS H rfl rfl fun w497 u497 hb497 a H => ?_
                                                  have hv498 := View.below hv491 hb497
                                                  have hv499 := View.below hv492 hb497
                                                  have hv500 := View.below hv493 hb497
                                                  have ho501 := OutV.below ho494 hb497
                                                  have hB502 := below_comp hB495 hb497
                                                  have hz503 := Below.size hB502
                                                  refine wpList_nil ⟨trivial, ?_⟩
                                                  refine d_one 7 (by kernel_rfl) rfl rfl ?_
                                                  refine y_call pf_nerr H rfl rfl (Calls.mono (newError_any _ _ _ _ w497 (by decide)) ?_)
                                                  rintro e w504 ⟨⟨xe504, rfl⟩, hb504⟩
                                                  refine ⟨_, rfl, fun a H => ?_⟩
                                                  have hv505 := View.below hv498 hb504
                                                  have hv506 := View.below hv499 hb504
                                                  have hv507 := View.below hv500 hb504
                                                  have ho508 := OutV.below ho501 hb504
                                                  have hB509 := below_comp hB502 hb504
                                                  have hz510 := Below.size hB509
                                                  refine wpList_nil ⟨trivial, ?_⟩
                                                  refine d_take 8 H rfl (by kernel_rfl) (by kernel_rfl) (by kernel_rfl) (r_assign H rfl) trivial rfl fun a H => ?_
                                                  refine d_take 9 H rfl (by kernel_rfl) (by kernel_rfl) (by kernel_rfl) (r_assign H rfl) trivial rfl fun a H => ?_
                                                  refine d_take 10 H rfl (by kernel_rfl) (by kernel_rfl) (by kernel_rfl) (r_assign H rfl) trivial rfl fun a H => ?_
                                                  refine d_done (by kernel_rfl) (then_normal (hK478 _ _ ?_))
                                                  replace H := H.sub [(0, _), (1, _), (4, _), (5, _), (6, _), (7, _), (9, _), (16, _)] (sub_cons rfl (sub_cons rfl (sub_cons rfl (sub_cons rfl (sub_cons rfl (sub_cons rfl (sub_cons rfl (sub_cons rfl (sub_nil)))))))))
                                                  refine wp_ret (then_ret (then_ret (in_ret (in_ret (in_ret (then_ret (in_ret (then_ret (?_)))))))))
                                                  exact ret3 (by rfl) H rfl rfl rfl ⟨StrRes.bad HN _ _, hB509⟩
                                                · refine y_anyS H rfl rfl fun w514 u514 hb514 a H => ?_
                                                  have hv515 := View.below hv480 hb514
                                                  have hv516 := View.below hv481 hb514
                                                  have hv517 := View.below hvs488 hb514
                                                  have ho518 := OutV.below ho482 hb514
                                                  have hB519 := below_comp hB483 hb514
                                                  have hz520 := Below.size hB519
                                                  refine wpList_nil ⟨trivial, ?_⟩
                                                  refine d_one 2 (by kernel_rfl) rfl rfl ?_
                                                  refine y_call pf_cur H rfl rfl (Calls.mono (currPos_any s w514 (DW.below h hB519)) ?_)
                                                  rintro e w521 ⟨rfl, hb521⟩
                                                  refine ⟨_, rfl, fun a H => ?_⟩
                                                  have hv522 := View.below hv515 hb521
                                                  have hv523 := View.below hv516 hb521
                                                  have hv524 := View.below hv517 hb521
                                                  have ho525 := OutV.below ho518 hb521
                                                  have hB526 := below_comp hB519 hb521
                                                  have hz527 := Below.size hB526
                                                  refine wpList_nil ⟨trivial, ?_⟩
                                                  refine d_one 7 (by kernel_rfl) rfl rfl ?_
                                                  refine y_call pf_nerr H rfl rfl (Calls.mono (newError_any _ _ _ _ w521 (by decide)) ?_)
                                                  rintro e w528 ⟨⟨xe528, rfl⟩, hb528⟩
                                                  refine ⟨_, rfl, fun a H => ?_⟩
                                                  have hv529 := View.below hv522 hb528
                                                  have hv530 := View.below hv523 hb528
                                                  have hv531 := View.below hv524 hb528
                                                  have ho532 := OutV.below ho525 hb528
                                                  have hB533 := below_comp hB526 hb528
                                                  have hz534 := Below.size hB533
                                                  refine wpList_nil ⟨trivial, ?_⟩
                                                  refine d_take 8 H rfl (by kernel_rfl) (by kernel_rfl) (by kernel_rfl) (r_assign H rfl) trivial rfl fun a H => ?_
                                                  refine d_take 9 H rfl (by kernel_rfl) (by kernel_rfl) (by kernel_rfl) (r_assign H rfl) trivial rfl fun a H => ?_
                                                  refine d_take 10 H rfl (by kernel_rfl) (by kernel_rfl) (by kernel_rfl) (r_assign H rfl) trivial rfl fun a H => ?_
                                                  refine d_done (by kernel_rfl) (then_normal (hK478 _ _ ?_))
                                                  replace H := H.sub [(0, _), (1, _), (4, _), (5, _), (6, _), (7, _), (9, _), (16, _)] (sub_cons rfl (sub_cons rfl (sub_cons rfl (sub_cons rfl (sub_cons rfl (sub_cons rfl (sub_cons rfl (sub_cons rfl (sub_nil)))))))))
                                                  refine wp_ret (then_ret (then_ret (in_ret (in_ret (in_ret (then_ret (in_ret (then_ret (?_)))))))))
                                                  exact ret3 (by rfl) H rfl rfl rfl ⟨StrRes.bad HN _ _, hB533⟩
                                              · refine y_neq (b := false) H rfl rfl (ine_f (by omega)) rfl fun a H => ?_
                                                refine y_pick H rfl rfl rfl fun a H => ?_
                                                refine y_move H rfl rfl fun a H => ?_
                                                refine y_on H rfl rfl ?_
                                                refine y_move H rfl rfl fun a H => ?_
                                                refine y_on H rfl rfl ?_
                                                refine y_eql (b := true) H rfl rfl (ieq_t (by omega)) rfl fun a H => ?_
                                                refine y_pick H rfl rfl rfl fun a H => ?_
                                                refine y_move H rfl rfl fun a H => ?_
                                                refine y_off H rfl rfl rfl fun a H => ?_
                                                refine y_off H rfl rfl rfl fun a H => ?_
                                                refine y_pick H rfl rfl rfl fun a H => ?_
                                                refine wpList_nil (then_normal (hK413 _ _ ?_))
                                                replace H := H.sub [(0, _), (1, _), (7, _), (9, _), (16, _), (232, _)] (sub_cons rfl (sub_cons rfl (sub_cons rfl (sub_cons rfl (sub_cons rfl (sub_cons rfl (sub_nil)))))))
                                                refine y_ift H rfl ?_
                                                refine y_seq fun K538 hK538 => ?_
                                                refine d_begin (fun _ => True) 11 mixedZ rfl ?_
                                                have hbd539 : Below w403.heap.size w403 w403.drew := (Below.refl _ _).drew
                                                generalize w403.drew = wd539 at hbd539 ⊢
                                                have hv540 := View.below hv404 hbd539
                                                have hv541 := View.below hv405 hbd539
                                                have ho542 := OutV.below ho407 hbd539
                                                have hB543 := below_comp hB408 hbd539
                                                have hz544 := Below.size hB543
                                                refine d_take 0 H rfl (by kernel_rfl) (by kernel_rfl) (by kernel_rfl) (r_move H rfl) trivial rfl fun a H => ?_
                                                refine d_take 1 H rfl (by kernel_rfl) (by kernel_rfl) (by kernel_rfl) (r_move H rfl) trivial rfl fun a H => ?_
                                                refine d_take 3 H rfl (by kernel_rfl) (by kernel_rfl) (by kernel_rfl) (r_move H rfl) trivial rfl fun a H => ?_
                                                obtain ⟨ao548, c548, hsl548, hvs548⟩ := view_upto (P := Tryd.prog) hv541 28 5 Tryd.underlying28 info5u .i64 ((6 : Int)) 6 (by omega) (by first | omega | (simp <;> omega))
                                                refine d_take 4 H rfl (by kernel_rfl) (by kernel_rfl) (by kernel_rfl) (r_uptoZ Tryd.underlying28 H rfl rfl hsl548) trivial rfl fun a H => ?_
                                                refine d_take 5 H rfl (by kernel_rfl) (by kernel_rfl) (by kernel_rfl) (r_mkZ Tryd.underlying28 rfl H rfl) trivial rfl fun a H => ?_
                                                refine d_two 2 6 (by kernel_rfl) rfl rfl rfl rfl ?_ ?_
                                                · refine y_call pf_cur H rfl rfl (Calls.mono (currPos_any s wd539 (DW.below h hB543)) ?_)
                                                  rintro e w550 ⟨rfl, hb550⟩
                                                  refine ⟨_, rfl, fun a H => ?_⟩
                                                  have hv551 := View.below hv540 hb550
                                                  have hv552 := View.below hv541 hb550
                                                  have hv553 := View.below hvs548 hb550
                                                  have ho554 := OutV.below ho542 hb550
                                                  have hB555 := below_comp hB543 hb550
                                                  have hz556 := Below.size hB555
                                                  refine wpList_nil ⟨trivial, ?_⟩
                                                  refine d_one 6 (by kernel_rfl) rfl rfl ?_
                                                  refine y_anyS H rfl rfl fun w557 u557 hb557 a H => ?_
                                                  have hv558 := View.below hv551 hb557
                                                  have hv559 := View.below hv552 hb557
                                                  have hv560 := View.below hv553 hb557
                                                  have ho561 := OutV.below ho554 hb557
                                                  have hB562 := below_comp hB555 hb557
                                                  have hz563 := Below.size hB562
                                                  refine wpList_nil ⟨trivial, ?_⟩
                                                  refine d_one 7 (by kernel_rfl) rfl rfl ?_
                                                  refine y_call pf_nerr H rfl rfl (Calls.mono (newError_any _ _ _ _ w557 (by decide)) ?_)
                                                  rintro e w564 ⟨⟨xe564, rfl⟩, hb564⟩
                                                  refine ⟨_, rfl, fun a H => ?_⟩
                                                  have hv565 := View.below hv558 hb564
                                                  have hv566 := View.below hv559 hb564
                                                  have hv567 := View.below hv560 hb564
                                                  have ho568 := OutV.below ho561 hb564
                                                  have hB569 := below_comp hB562 hb564
                                                  have hz570 := Below.size hB569
                                                  refine wpList_nil ⟨trivial, ?_⟩
                                                  refine d_take 8 H rfl (by kernel_rfl) (by kernel_rfl) (by kernel_rfl) (r_assign H rfl) trivial rfl fun a H => ?_
                                                  refine d_take 9 H rfl (by kernel_rfl) (by kernel_rfl) (by kernel_rfl) (r_assign H rfl) trivial rfl fun a H => ?_
                                                  refine d_take 10 H rfl (by kernel_rfl) (by kernel_rfl) (by kernel_rfl) (r_assign H rfl) trivial rfl fun a H => ?_
                                                  refine d_done (by kernel_rfl) (then_normal (hK538 _ _ ?_))
                                                  replace H := H.sub [(0, _), (1, _), (4, _), (5, _), (6, _), (7, _), (9, _), (16, _)] (sub_cons rfl (sub_cons rfl (sub_cons rfl (sub_cons rfl (sub_cons rfl (sub_cons rfl (sub_cons rfl (sub_cons rfl (sub_nil)))))))))
                                                  refine wp_ret (then_ret (then_ret (in_ret (in_ret (in_ret (then_ret (in_ret (then_ret (?_)))))))))
                                                  exact ret3 (by rfl) H rfl rfl rfl ⟨StrRes.bad HN _ _, hB569⟩
                                                · refine y_anyS H rfl rfl fun w574 u574 hb574 a H => ?_
                                                  have hv575 := View.below hv540 hb574
                                                  have hv576 := View.below hv541 hb574
                                                  have hv577 := View.below hvs548 hb574
                                                  have ho578 := OutV.below ho542 hb574
                                                  have hB579 := below_comp hB543 hb574
                                                  have hz580 := Below.size hB579
                                                  refine wpList_nil ⟨trivial, ?_⟩
                                                  refine d_one 2 (by kernel_rfl) rfl rfl ?_
                                                  refine y_call pf_cur H rfl rfl (Calls.mono (currPos_any s w574 (DW.below h hB579)) ?_)
                                                  rintro e w581 ⟨rfl, hb581⟩
                                                  refine ⟨_, rfl, fun a H => ?_⟩
                                                  have hv582 := View.below hv575 hb581
                                                  have hv583 := View.below hv576 hb581
                                                  have hv584 := View.below hv577 hb581
                                                  have ho585 := OutV.below ho578 hb581
                                                  have hB586 := below_comp hB579 hb581
                                                  have hz587 := Below.size hB586
                                                  refine wpList_nil ⟨trivial, ?_⟩
                                                  refine d_one 7 (by kernel_rfl) rfl rfl ?_
                                                  refine y_call pf_nerr H rfl rfl (Calls.mono (newError_any _ _ _ _ w581 (by decide)) ?_)
                                                  rintro e w588 ⟨⟨xe588, rfl⟩, hb588⟩
                                                  refine ⟨_, rfl, fun a H => ?_⟩
                                                  have hv589 := View.below hv582 hb588
                                                  have hv590 := View.below hv583 hb588
                                                  have hv591 := View.below hv584 hb588
                                                  have ho592 := OutV.below ho585 hb588
                                                  have hB593 := below_comp hB586 hb588
                                                  have hz594 := Below.size hB593
                                                  refine wpList_nil ⟨trivial, ?_⟩
                                                  refine d_take 8 H rfl (by kernel_rfl) (by kernel_rfl) (by kernel_rfl) (r_assign H rfl) trivial rfl fun a H => ?_
                                                  refine d_take 9 H rfl (by kernel_rfl) (by kernel_rfl) (by kernel_rfl) (r_assign H rfl) trivial rfl fun a H => ?_
                                                  refine d_take 10 H rfl (by kernel_rfl) (by kernel_rfl) (by kernel_rfl) (r_assign H rfl) trivial rfl fun a H => ?_
                                                  refine d_done (by kernel_rfl) (then_normal (hK538 _ _ ?_))
                                                  replace H := H.sub [(0, _), (1, _), (4, _), (5, _), (6, _), (7, _), (9, _), (16, _)] (sub_cons rfl (sub_cons rfl (sub_cons rfl (sub_cons rfl (sub_cons rfl (sub_cons rfl (sub_cons rfl (sub_cons rfl (sub_nil)))))))))
                                                  refine wp_ret (then_ret (then_ret (in_ret (in_ret (in_ret (then_ret (in_ret (then_ret (?_)))))))))
                                                  exact ret3 (by rfl) H rfl rfl rfl ⟨StrRes.bad HN _ _, hB593⟩
                                          · have H := Hs401
                                            have hx2l : x2 < 65536 := by have h1 := hexN_lt _ _ _ hx2; have h2 := Nat.pow_le_pow_right (show 0 < 16 by omega) (show (l5.take 4).length ≤ 4 by omega); omega
                                            have HM := escU_more (b := b) (d := d) h6 hx hs hl4 h5l
                                            rw [hx2] at HM
                                            simp only at HM
                                            refine y_reg ?_
                                            refine y_move H rfl rfl fun a H => ?_
                                            refine y_both (m := 2) (n := 6) (ys := l5.take 4) H rfl rfl rfl hv5 (by omega) (by omega) (by omega) (by first | omega | (simp <;> omega)) (rfl) rfl fun a vs598 H hvs598 => ?_
                                            refine y_conv H rfl hvs598 rfl fun a H => ?_
                                            refine y_call pf_parse H rfl rfl (Calls.mono (parseUint_some (l5.take 4) x2 w364 hT5 hx2) ?_)
                                            rintro e w599 ⟨rfl, hb599⟩
                                            refine ⟨_, rfl, fun a H => ?_⟩
                                            have hv600 := View.below hv365 hb599
                                            have hv601 := View.below hv5 hb599
                                            have hv602 := View.below hvs598 hb599
                                            have ho603 := OutV.below ho368 hb599
                                            have hB604 := below_comp hB369 hb599
                                            have hz605 := Below.size hB604
                                            refine y_move H rfl rfl fun a H => ?_
                                            refine y_extract H rfl rfl rfl fun a H => ?_
                                            refine y_extract H rfl rfl rfl fun a H => ?_
                                            refine y_assign H rfl rfl fun a H => ?_
                                            refine y_assign H rfl rfl fun a H => ?_
                                            refine wpList_nil (then_normal (hK400 _ _ ?_))
                                            replace H := H.sub [(0, _), (1, _), (7, _), (9, _), (16, _), (17, _), (18, _)] (sub_cons rfl (sub_cons rfl (sub_cons rfl (sub_cons rfl (sub_cons rfl (sub_cons rfl (sub_cons rfl (sub_nil))))))))
                                            refine y_seq fun K606 hK606 => ?_
                                            refine y_reg ?_
                                            refine y_move H rfl rfl fun a H => ?_
                                            refine y_move H rfl rfl fun a H => ?_
                                            refine y_cvt Tryd.underlying116 Tryd.underlying21 H rfl (w_i32 (by omega) (by omega)) rfl fun a H => ?_
                                            refine y_call pf_pair H rfl rfl (Calls.mono (pair_any x1 x2 w599) ?_)
                                            rintro e w607 ⟨rfl, rfl⟩
                                            refine ⟨_, rfl, fun a H => ?_⟩
                                            refine y_assign H rfl rfl fun a H => ?_
                                            refine wpList_nil (then_normal (hK606 _ _ ?_))
                                            replace H := H.sub [(0, _), (1, _), (7, _), (9, _), (16, _), (18, _)] (sub_cons rfl (sub_cons rfl (sub_cons rfl (sub_cons rfl (sub_cons rfl (sub_cons rfl (sub_nil)))))))
                                            refine y_seq fun K608 hK608 => ?_
                                            refine y_seq fun K609 hK609 => ?_
                                            refine y_reg ?_
                                            refine y_move H rfl rfl fun a H => ?_
                                            refine y_idx Tryd.underlying28 info5u H rfl rfl hv601 (by decide) rfl rfl fun a ad H hc610 => ?_
                                            refine y_load one5Z H rfl hc610 rfl fun a H => ?_
                                            by_cases q611 : ((e1.toNat : Int)) ≠ ((92 : Int))
                                            · refine y_neq (b := true) H rfl rfl (ine_t (by omega)) rfl fun a H => ?_
                                              refine y_move H rfl rfl fun a H => ?_
                                              refine y_off H rfl rfl rfl fun a H => ?_
                                              refine y_off H rfl rfl rfl fun a H => ?_
                                              refine y_off H rfl rfl rfl fun a H => ?_
                                              refine y_off H rfl rfl rfl fun a H => ?_
                                              refine y_pick H rfl rfl rfl fun a H => ?_
                                              refine y_move H rfl rfl fun a H => ?_
                                              refine y_off H rfl rfl rfl fun a H => ?_
                                              refine y_off H rfl rfl rfl fun a H => ?_
                                              refine y_pick H rfl rfl rfl fun a H => ?_
                                              refine y_move H rfl rfl fun a H => ?_
                                              refine y_off H rfl rfl rfl fun a H => ?_
                                              refine y_off H rfl rfl rfl fun a H => ?_
                                              refine y_pick H rfl rfl rfl fun a H => ?_
                                              refine wpList_nil (then_normal (hK609 _ _ ?_))
                                              replace H := H.sub [(0, _), (1, _), (7, _), (9, _), (16, _), (232, _)] (sub_cons rfl (sub_cons rfl (sub_cons rfl (sub_cons rfl (sub_cons rfl (sub_cons rfl (sub_nil)))))))
                                              refine y_ift H rfl ?_
                                              refine y_seq fun K612 hK612 => ?_
                                              have HN : strJ (c0 :: r) = none := strJ_no (by rw [HA4, HM, if_neg (by omega)])
                                              refine d_begin (fun _ => True) 11 mixedZ rfl ?_
                                              have hbd613 : Below w599.heap.size w599 w599.drew := (Below.refl _ _).drew
                                              generalize w599.drew = wd613 at hbd613 ⊢
                                              have hv614 := View.below hv600 hbd613
                                              have hv615 := View.below hv601 hbd613
                                              have ho616 := OutV.below ho603 hbd613
                                              have hB617 := below_comp hB604 hbd613
                                              have hz618 := Below.size hB617
                                              refine d_take 0 H rfl (by kernel_rfl) (by kernel_rfl) (by kernel_rfl) (r_move H rfl) trivial rfl fun a H => ?_
                                              refine d_take 1 H rfl (by kernel_rfl) (by kernel_rfl) (by kernel_rfl) (r_move H rfl) trivial rfl fun a H => ?_
                                              refine d_take 3 H rfl (by kernel_rfl) (by kernel_rfl) (by kernel_rfl) (r_move H rfl) trivial rfl fun a H => ?_
                                              obtain ⟨ao622, c622, hsl622, hvs622⟩ := view_upto (P := Tryd.prog) hv615 28 5 Tryd.underlying28 info5u .i64 ((6 : Int)) 6 (by omega) (by first | omega | (simp <;> omega))
                                              refine d_take 4 H rfl (by kernel_rfl) (by kernel_rfl) (by kernel_rfl) (r_uptoZ Tryd.underlying28 H rfl rfl hsl622) trivial rfl fun a H => ?_
                                              refine d_take 5 H rfl (by kernel_rfl) (by kernel_rfl) (by kernel_rfl) (r_mkZ Tryd.underlying28 rfl H rfl) trivial rfl fun a H => ?_
                                              refine d_two 2 6 (by kernel_rfl) rfl rfl rfl rfl ?_ ?_
                                              · refine y_call pf_cur H rfl rfl (Calls.mono (currPos_any s wd613 (DW.below h hB617)) ?_)
                                                rintro e w624 ⟨rfl, hb624⟩
                                                refine ⟨_, rfl, fun a H => ?_⟩
                                                have hv625 := View.below hv614 hb624
                                                have hv626 := View.below hv615 hb624
                                                have hv627 := View.below hvs622 hb624
                                                have ho628 := OutV.below ho616 hb624
                                                have hB629 := below_comp hB617 hb624
                                                have hz630 := Below.size hB629
                                                refine wpList_nil ⟨trivial, ?_⟩
                                                refine d_one 6 (by kernel_rfl) rfl rfl ?_
                                                refine y_anyS H rfl rfl fun w631 u631 hb631 a H => ?_
                                                have hv632 := View.below hv625 hb631
                                                have hv633 := View.below hv626 hb631
                                                have hv634 := View.below hv627 hb631
                                                have ho635 := OutV.below ho628 hb631
                                                have hB636 := below_comp hB629 hb631
                                                have hz637 := Below.size hB636
                                                refine wpList_nil ⟨trivial, ?_⟩
                                                refine d_one 7 (by kernel_rfl) rfl rfl ?_
                                                refine y_call pf_nerr H rfl rfl (Calls.mono (newError_any _ _ _ _ w631 (by decide)) ?_)
                                                rintro e w638 ⟨⟨xe638, rfl⟩, hb638⟩
                                                refine ⟨_, rfl, fun a H => ?_⟩
                                                have hv639 := View.below hv632 hb638
                                                have hv640 := View.below hv633 hb638
                                                have hv641 := View.below hv634 hb638
                                                have ho642 := OutV.below ho635 hb638
                                                have hB643 := below_comp hB636 hb638
                                                have hz644 := Below.size hB643
                                                refine wpList_nil ⟨trivial, ?_⟩
                                                refine d_take 8 H rfl (by kernel_rfl) (by kernel_rfl) (by kernel_rfl) (r_assign H rfl) trivial rfl fun a H => ?_
                                                refine d_take 9 H rfl (by kernel_rfl) (by kernel_rfl) (by kernel_rfl) (r_assign H rfl) trivial rfl fun a H => ?_
                                                refine d_take 10 H rfl (by kernel_rfl) (by kernel_rfl) (by kernel_rfl) (r_assign H rfl) trivial rfl fun a H => ?_
                                                refine d_done (by kernel_rfl) (then_normal (hK612 _ _ ?_))
                                                replace H := H.sub [(0, _), (1, _), (4, _), (5, _), (6, _), (7, _), (9, _), (16, _)] (sub_cons rfl (sub_cons rfl (sub_cons rfl (sub_cons rfl (sub_cons rfl (sub_cons rfl (sub_cons rfl (sub_cons rfl (sub_nil)))))))))
                                                refine wp_ret (then_ret (then_ret (in_ret (in_ret (in_ret (then_ret (in_ret (then_ret (?_)))))))))
                                                exact ret3 (by rfl) H rfl rfl rfl ⟨StrRes.bad HN _ _, hB643⟩
                                              · refine y_anyS H rfl rfl fun w648 u648 hb648 a H => ?_
                                                have hv649 := View.below hv614 hb648
                                                have hv650 := View.below hv615 hb648
                                                have hv651 := View.below hvs622 hb648
                                                have ho652 := OutV.below ho616 hb648
                                                have hB653 := below_comp hB617 hb648
                                                have hz654 := Below.size hB653
                                                refine wpList_nil ⟨trivial, ?_⟩
                                                refine d_one 2 (by kernel_rfl) rfl rfl ?_
                                                refine y_call pf_cur H rfl rfl (Calls.mono (currPos_any s w648 (DW.below h hB653)) ?_)
                                                rintro e w655 ⟨rfl, hb655⟩
                                                refine ⟨_, rfl, fun a H => ?_⟩
                                                have hv656 := View.below hv649 hb655
                                                have hv657 := View.below hv650 hb655
                                                have hv658 := View.below hv651 hb655
                                                have ho659 := OutV.below ho652 hb655
                                                have hB660 := below_comp hB653 hb655
                                                have hz661 := Below.size hB660
                                                refine wpList_nil ⟨trivial, ?_⟩
                                                refine d_one 7 (by kernel_rfl) rfl rfl ?_
                                                refine y_call pf_nerr H rfl rfl (Calls.mono (newError_any _ _ _ _ w655 (by decide)) ?_)
                                                rintro e w662 ⟨⟨xe662, rfl⟩, hb662⟩
                                                refine ⟨_, rfl, fun a H => ?_⟩
                                                have hv663 := View.below hv656 hb662
                                                have hv664 := View.below hv657 hb662
                                                have hv665 := View.below hv658 hb662
                                                have ho666 := OutV.below ho659 hb662
                                                have hB667 := below_comp hB660 hb662
                                                have hz668 := Below.size hB667
                                                refine wpList_nil ⟨trivial, ?_⟩
                                                refine d_take 8 H rfl (by kernel_rfl) (by kernel_rfl) (by kernel_rfl) (r_assign H rfl) trivial rfl fun a H => ?_
                                                refine d_take 9 H rfl (by kernel_rfl) (by kernel_rfl) (by kernel_rfl) (r_assign H rfl) trivial rfl fun a H => ?_
                                                refine d_take 10 H rfl (by kernel_rfl) (by kernel_rfl) (by kernel_rfl) (r_assign H rfl) trivial rfl fun a H => ?_
                                                refine d_done (by kernel_rfl) (then_normal (hK612 _ _ ?_))
                                                replace H := H.sub [(0, _), (1, _), (4, _), (5, _), (6, _), (7, _), (9, _), (16, _)] (sub_cons rfl (sub_cons rfl (sub_cons rfl (sub_cons rfl (sub_cons rfl (sub_cons rfl (sub_cons rfl (sub_cons rfl (sub_nil)))))))))
                                                refine wp_ret (then_ret (then_ret (in_ret (in_ret (in_ret (then_ret (in_ret (then_ret (?_)))))))))
                                                exact ret3 (by rfl) H rfl rfl rfl ⟨StrRes.bad HN _ _, hB667⟩
                                            · refine y_neq (b := false) H rfl rfl (ine_f (by omega)) rfl fun a H => ?_
                                              refine y_move H rfl rfl fun a H => ?_
                                              refine y_on H rfl rfl ?_
                                              refine y_move H rfl rfl fun a H => ?_
                                              refine y_on H rfl rfl ?_
                                              refine y_idx Tryd.underlying28 info5u H rfl rfl hv601 (by decide) rfl rfl fun a ad H hc672 => ?_
                                              refine y_on H rfl rfl ?_
                                              refine y_load one5Z H rfl hc672 rfl fun a H => ?_
                                              refine y_on H rfl rfl ?_
                                              by_cases q673 : ((f1.toNat : Int)) ≠ ((117 : Int))
                                              · refine y_neq (b := true) H rfl rfl (ine_t (by omega)) rfl fun a H => ?_
                                                refine y_pick H rfl rfl rfl fun a H => ?_
                                                refine y_move H rfl rfl fun a H => ?_
                                                refine y_off H rfl rfl rfl fun a H => ?_
                                                refine y_off H rfl rfl rfl fun a H => ?_
                                                refine y_pick H rfl rfl rfl fun a H => ?_
                                                refine y_move H rfl rfl fun a H => ?_
                                                refine y_off H rfl rfl rfl fun a H => ?_
                                                refine y_off H rfl rfl rfl fun a H => ?_
                                                refine y_pick H rfl rfl rfl fun a H => ?_
                                                refine wpList_nil (then_normal (hK609 _ _ ?_))
                                                replace H := H.sub [(0, _), (1, _), (7, _), (9, _), (16, _), (232, _)] (sub_cons rfl (sub_cons rfl (sub_cons rfl (sub_cons rfl (sub_cons rfl (sub_cons rfl (sub_nil)))))))
                                                refine y_ift H rfl ?_
                                                refine y_seq fun K674 hK674 => ?_
                                                have HN : strJ (c0 :: r) = none := strJ_no (by rw [HA4, HM, if_neg (by omega)])
                                                refine d_begin (fun _ => True) 11 mixedZ rfl ?_
                                                have hbd675 : Below w599.heap.size w599 w599.drew := (Below.refl _ _).drew
                                                generalize w599.drew = wd675 at hbd675 ⊢
                                                have hv676 := View.below hv600 hbd675
                                                have hv677 := View.below hv601 hbd675
                                                have ho678 := OutV.below ho603 hbd675
                                                have hB679 := below_comp hB604 hbd675
                                                have hz680 := Below.size hB679
                                                refine d_take 0 H rfl (by kernel_rfl) (by kernel_rfl) (by kernel_rfl) (r_move H rfl) trivial rfl fun a H => ?_
                                                refine d_take 1 H rfl (by kernel_rfl) (by kernel_rfl) (by kernel_rfl) (r_move H rfl) trivial rfl fun a H => ?_
                                                refine d_take 3 H rfl (by kernel_rfl) (by kernel_rfl) (by kernel_rfl) (r_move H rfl) trivial rfl fun a H => ?_
                                                obtain ⟨ao684, c684, hsl684, hvs684⟩ := view_upto (P := Tryd.prog) hv677 28 5 Tryd.underlying28 info5u .i64 ((6 : Int)) 6 (by omega) (by first | omega | (simp <;> omega))
                                                refine d_take 4 H rfl (by kernel_rfl) (by kernel_rfl) (by kernel_rfl) (r_uptoZ Tryd.underlying28 H rfl rfl hsl684) trivial rfl fun a H => ?_
                                                refine d_take 5 H rfl (by kernel_rfl) (by kernel_rfl) (by kernel_rfl) (r_mkZ Tryd.underlying28 rfl H rfl) trivial rfl fun a H => ?_
                                                refine d_two 2 6 (by kernel_rfl) rfl rfl rfl rfl ?_ ?_
                                                · refine y_call pf_cur H rfl rfl (Calls.mono (currPos_any s wd675 (DW.below h hB679)) ?_)
                                                  rintro e w686 ⟨rfl, hb686⟩
                                                  refine ⟨_, rfl, fun a H => ?_⟩
                                                  have hv687 := View.below hv676 hb686
                                                  have hv688 := View.below hv677 hb686
                                                  have hv689 := View.below hvs684 hb686
                                                  have ho690 := OutV.below ho678 hb686
                                                  have hB691 := below_comp hB679 hb686
                                                  have hz692 := Below.size hB691
                                                  refine wpList_nil ⟨trivial, ?_⟩
                                                  refine d_one 6 (by kernel_rfl) rfl rfl ?_
                                                  refine y_anyS H rfl rfl fun w693 u693 hb693 a H => ?_
                                                  have hv694 := View.below hv687 hb693
                                                  have hv695 := View.below hv688 hb693
                                                  have hv696 := View.below hv689 hb693
                                                  have ho697 := OutV.below ho690 hb693
                                                  have hB698 := below_comp hB691 hb693
                                                  have hz699 := Below.size hB698
                                                  refine wpList_nil ⟨trivial, ?_⟩
                                                  refine d_one 7 (by kernel_rfl) rfl rfl ?_
                                                  refine y_call pf_nerr H rfl rfl (Calls.mono (newError_any _ _ _ _ w693 (by decide)) ?_)
                                                  rintro e w700 ⟨⟨xe700, rfl⟩, hb700⟩
                                                  refine ⟨_, rfl, fun a H => ?_⟩
                                                  have hv701 := View.below hv694 hb700
                                                  have hv702 := View.below hv695 hb700
                                                  have hv703 := View.below hv696 hb700
                                                  have ho704 := OutV.below ho697 hb700
                                                  have hB705 := below_comp hB698 hb700
                                                  have hz706 := Below.size hB705
                                                  refine wpList_nil ⟨trivial, ?_⟩
                                                  refine d_take 8 H rfl (by kernel_rfl) (by kernel_rfl) (by kernel_rfl) (r_assign H rfl) trivial rfl fun a H => ?_
                                                  refine d_take 9 H rfl (by kernel_rfl) (by kernel_rfl) (by kernel_rfl) (r_assign H rfl) trivial rfl fun a H => ?_
                                                  refine d_take 10 H rfl (by kernel_rfl) (by kernel_rfl) (by kernel_rfl) (r_assign H rfl) trivial rfl fun a H => ?_
                                                  refine d_done (by kernel_rfl) (then_normal (hK674 _ _ ?_))
                                                  replace H := H.sub [(0, _), (1, _), (4, _), (5, _), (6, _), (7, _), (9, _), (16, _)] (sub_cons rfl (sub_cons rfl (sub_cons rfl (sub_cons rfl (sub_cons rfl (sub_cons rfl (sub_cons rfl (sub_cons rfl (sub_nil)))))))))
                                                  refine wp_ret (then_ret (then_ret (in_ret (in_ret (in_ret (then_ret (in_ret (then_ret (?_)))))))))
                                                  exact ret3 (by rfl) H rfl rfl rfl ⟨StrRes.bad HN _ _, hB705⟩
                                                · refine y_anyS H rfl rfl fun w710 u710 hb710 a H => ?_
                                                  have hv711 := View.below hv676 hb710
                                                  have hv712 := View.below hv677 hb710
                                                  have hv713 := View.below hvs684 hb710
                                                  have ho714 := OutV.below ho678 hb710
                                                  have hB715 := below_comp hB679 hb710
                                                  have hz716 := Below.size hB715
                                                  refine wpList_nil ⟨trivial, ?_⟩
                                                  refine d_one 2 (by kernel_rfl) rfl rfl ?_
                                                  refine y_call pf_cur H rfl rfl (Calls.mono (currPos_any s w710 (DW.below h hB715)) ?_)
                                                  rintro e w717 ⟨rfl, hb717⟩
                                                  refine ⟨_, rfl, fun a H => ?_⟩
                                                  have hv718 := View.below hv711 hb717
                                                  have hv719 := View.below hv712 hb717
                                                  have hv720 := View.below hv713 hb717
                                                  have ho721 := OutV.below ho714 hb717
                                                  have hB722 := below_comp hB715 hb717
                                                  have hz723 := Below.size hB722
                                                  refine wpList_nil ⟨trivial, ?_⟩
                                                  refine d_one 7 (by kernel_rfl) rfl rfl ?_
                                                  refine y_call pf_nerr H rfl rfl (Calls.mono (newError_any _ _ _ _ w717 (by decide)) ?_)
                                                  rintro e w724 ⟨⟨xe724, rfl⟩, hb724⟩
                                                  refine ⟨_, rfl, fun a H => ?_⟩
                                                  have hv725 := View.below hv718 hb724
                                                  have hv726 := View.below hv719 hb724
                                                  have hv727 := View.below hv720 hb724
                                                  have ho728 := OutV.below ho721 hb724
                                                  have hB729 := below_comp hB722 hb724
                                                  have hz730 := Below.size hB729
                                                  refine wpList_nil ⟨trivial, ?_⟩
                                                  refine d_take 8 H rfl (by kernel_rfl) (by kernel_rfl) (by kernel_rfl) (r_assign H rfl) trivial rfl fun a H => ?_
                                                  refine d_take 9 H rfl (by kernel_rfl) (by kernel_rfl) (by kernel_rfl) (r_assign H rfl) trivial rfl fun a H => ?_
                                                  refine d_take 10 H rfl (by kernel_rfl) (by kernel_rfl) (by kernel_rfl) (r_assign H rfl) trivial rfl fun a H => ?_
                                                  refine d_done (by kernel_rfl) (then_normal (hK674 _ _ ?_))
                                                  replace H := H.sub [(0, _), (1, _), (4, _), (5, _), (6, _), (7, _), (9, _), (16, _)] (sub_cons rfl (sub_cons rfl (sub_cons rfl (sub_cons rfl (sub_cons rfl (sub_cons rfl (sub_cons rfl (sub_cons rfl (sub_nil)))))))))
                                                  refine wp_ret (then_ret (then_ret (in_ret (in_ret (in_ret (then_ret (in_ret (then_ret (?_)))))))))
                                                  exact ret3 (by rfl) H rfl rfl rfl ⟨StrRes.bad HN _ _, hB729⟩
                                              · refine y_neq (b := false) H rfl rfl (ine_f (by omega)) rfl fun a H => ?_
                                                refine y_pick H rfl rfl rfl fun a H => ?_
                                                refine y_move H rfl rfl fun a H => ?_
                                                refine y_on H rfl rfl ?_
                                                refine y_move H rfl rfl fun a H => ?_
                                                refine y_on H rfl rfl ?_
                                                by_cases q734 : (((pairR x1 x2 : Nat) : Int)) = ((65533 : Int))
                                                · refine y_eql (b := true) H rfl rfl (ieq_t (by omega)) rfl fun a H => ?_
                                                  refine y_pick H rfl rfl rfl fun a H => ?_
                                                  refine y_move H rfl rfl fun a H => ?_
                                                  refine y_off H rfl rfl rfl fun a H => ?_
                                                  refine y_off H rfl rfl rfl fun a H => ?_
                                                  refine y_pick H rfl rfl rfl fun a H => ?_
                                                  refine wpList_nil (then_normal (hK609 _ _ ?_))
                                                  replace H := H.sub [(0, _), (1, _), (7, _), (9, _), (16, _), (232, _)] (sub_cons rfl (sub_cons rfl (sub_cons rfl (sub_cons rfl (sub_cons rfl (sub_cons rfl (sub_nil)))))))
                                                  refine y_ift H rfl ?_
                                                  refine y_seq fun K735 hK735 => ?_
                                                  have HN : strJ (c0 :: r) = none := strJ_no (by rw [HA4, HM, if_neg (by omega)])
                                                  refine d_begin (fun _ => True) 11 mixedZ rfl ?_
                                                  have hbd736 : Below w599.heap.size w599 w599.drew := (Below.refl _ _).drew
                                                  generalize w599.drew = wd736 at hbd736 ⊢
                                                  have hv737 := View.below hv600 hbd736
                                                  have hv738 := View.below hv601 hbd736
                                                  have ho739 := OutV.below ho603 hbd736
                                                  have hB740 := below_comp hB604 hbd736
                                                  have hz741 := Below.size hB740
                                                  refine d_take 0 H rfl (by kernel_rfl) (by kernel_rfl) (by kernel_rfl) (r_move H rfl) trivial rfl fun a H => ?_
                                                  refine d_take 1 H rfl (by kernel_rfl) (by kernel_rfl) (by kernel_rfl) (r_move H rfl) trivial rfl fun a H => ?_
                                                  refine d_take 3 H rfl (by kernel_rfl) (by kernel_rfl) (by kernel_rfl) (r_move H rfl) trivial rfl fun a H => ?_
                                                  obtain ⟨ao745, c745, hsl745, hvs745⟩ := view_upto (P := Tryd.prog) hv738 28 5 Tryd.underlying28 info5u .i64 ((6 : Int)) 6 (by omega) (by first | omega | (simp <;> omega))
                                                  refine d_take 4 H rfl (by kernel_rfl) (by kernel_rfl) (by kernel_rfl) (r_uptoZ Tryd.underlying28 H rfl rfl hsl745) trivial rfl fun a H => ?_
                                                  refine d_take 5 H rfl (by kernel_rfl) (by kernel_rfl) (by kernel_rfl) (r_mkZ Tryd.underlying28 rfl H rfl) trivial rfl fun a H => ?_
                                                  refine d_two 2 6 (by kernel_rfl) rfl rfl rfl rfl ?_ ?_
                                                  · refine y_call pf_cur H rfl rfl (Calls.mono (currPos_any s wd736 (DW.below h hB740)) ?_)
                                                    rintro e w747 ⟨rfl, hb747⟩
                                                    refine ⟨_, rfl, fun a H => ?_⟩
                                                    have hv748 := View.below hv737 hb747
                                                    have hv749 := View.below hv738 hb747
                                                    have hv750 := View.below hvs745 hb747
                                                    have ho751 := OutV.below ho739 hb747
                                                    have hB752 := below_comp hB740 hb747
                                                    have hz753 := Below.size hB752
                                                    refine wpList_nil ⟨trivial, ?_⟩
                                                    refine d_one 6 (by kernel_rfl) rfl rfl ?_
                                                    refine y_anyS H rfl rfl fun w754 u754 hb754 a H => ?_
                                                    have hv755 := View.below hv748 hb754
                                                    have hv756 := View.below hv749 hb754
                                                    have hv757 := View.below hv750 hb754
                                                    have ho758 := OutV.below ho751 hb754
                                                    have hB759 := below_comp hB752 hb754
                                                    have hz760 := Below.size hB759
                                                    refine wpList_nil ⟨trivial, ?_⟩
                                                    refine d_one 7 (by kernel_rfl) rfl rfl ?_
                                                    refine y_call pf_nerr H rfl rfl (Calls.mono (newError_any _ _ _ _ w754 (by decide)) ?_)
                                                    rintro e w761 ⟨⟨xe761, rfl⟩, hb761⟩
                                                    refine ⟨_, rfl, fun a H => ?_⟩
                                                    have hv762 := View.below hv755 hb761
                                                    have hv763 := View.below hv756 hb761
                                                    have hv764 := View.below hv757 hb761
                                                    have ho765 := OutV.below ho758 hb761
                                                    have hB766 := below_comp hB759 hb761
                                                    have hz767 := Below.size hB766
                                                    refine wpList_nil ⟨trivial, ?_⟩
                                                    refine d_take 8 H rfl (by kernel_rfl) (by kernel_rfl) (by kernel_rfl) (r_assign H rfl) trivial rfl fun a H => ?_
                                                    refine d_take 9 H rfl (by kernel_rfl) (by kernel_rfl) (by kernel_rfl) (r_assign H rfl) trivial rfl fun a H => ?_
                                                    refine d_take 10 H rfl (by kernel_rfl) (by kernel_rfl) (by kernel_rfl) (r_assign H rfl) trivial rfl fun a H => ?_
                                                    refine d_done (by kernel_rfl) (then_normal (hK735 _ _ ?_))
                                                    replace H := H.sub [(0, _), (1, _), (4, _), (5, _), (6, _), (7, _), (9, _), (16, _)] (sub_cons rfl (sub_cons rfl (sub_cons rfl (sub_cons rfl (sub_cons rfl (sub_cons rfl (sub_cons rfl (sub_cons rfl (sub_nil)))))))))
                                                    refine wp_ret (then_ret (then_ret (in_ret (in_ret (in_ret (then_ret (in_ret (then_ret (?_)))))))))
                                                    exact ret3 (by rfl) H rfl rfl rfl ⟨StrRes.bad HN _ _, hB766⟩
                                                  · refine y_anyS H rfl rfl fun w771 u771 hb771 a H => ?_
                                                    have hv772 := View.below hv737 hb771
                                                    have hv773 := View.below hv738 hb771
                                                    have hv774 := View.below hvs745 hb771
                                                    have ho775 := OutV.below ho739 hb771
                                                    have hB776 := below_comp hB740 hb771
                                                    have hz777 := Below.size hB776
                                                    refine wpList_nil ⟨trivial, ?_⟩
                                                    refine d_one 2 (by kernel_rfl) rfl rfl ?_
                                                    refine y_call pf_cur H rfl rfl (Calls.mono (currPos_any s w771 (DW.below h hB776)) ?_)
                                                    rintro e w778 ⟨rfl, hb778⟩
                                                    refine ⟨_, rfl, fun a H => ?_⟩
                                                    have hv779 := View.below hv772 hb778
                                                    have hv780 := View.below hv773 hb778
                                                    have hv781 := View.below hv774 hb778
                                                    have ho782 := OutV.below ho775 hb778
                                                    have hB783 := below_comp hB776 hb778
                                                    have hz784 := Below.size hB783
                                                    refine wpList_nil ⟨trivial, ?_⟩
                                                    refine d_one 7 (by kernel_rfl) rfl rfl ?_
                                                    refine y_call pf_nerr H rfl rfl (Calls.mono (newError_any _ _ _ _ w778 (by decide)) ?_)
                                                    rintro e w785 ⟨⟨xe785, rfl⟩, hb785⟩
                                                    refine ⟨_, rfl, fun a H => ?_⟩
                                                    have hv786 := View.below hv779 hb785
                                                    have hv787 := View.below hv780 hb785
                                                    have hv788 := View.below hv781 hb785
                                                    have ho789 := OutV.below ho782 hb785
                                                    have hB790 := below_comp hB783 hb785
                                                    have hz791 := Below.size hB790
                                                    refine wpList_nil ⟨trivial, ?_⟩
                                                    refine d_take 8 H rfl (by kernel_rfl) (by kernel_rfl) (by kernel_rfl) (r_assign H rfl) trivial rfl fun a H => ?_
                                                    refine d_take 9 H rfl (by kernel_rfl) (by kernel_rfl) (by kernel_rfl) (r_assign H rfl) trivial rfl fun a H => ?_
                                                    refine d_take 10 H rfl (by kernel_rfl) (by kernel_rfl) (by kernel_rfl) (r_assign H rfl) trivial rfl fun a H => ?_
                                                    refine d_done (by kernel_rfl) (then_normal (hK735 _ _ ?_))
                                                    replace H := H.sub [(0, _), (1, _), (4, _), (5, _), (6, _), (7, _), (9, _), (16, _)] (sub_cons rfl (sub_cons rfl (sub_cons rfl (sub_cons rfl (sub_cons rfl (sub_cons rfl (sub_cons rfl (sub_cons rfl (sub_nil)))))))))
                                                    refine wp_ret (then_ret (then_ret (in_ret (in_ret (in_ret (then_ret (in_ret (then_ret (?_)))))))))
                                                    exact ret3 (by rfl) H rfl rfl rfl ⟨StrRes.bad HN _ _, hB790⟩
                                                · refine y_eql (b := false) H rfl rfl (ieq_f (by omega)) rfl fun a H => ?_
                                                  refine y_pick H rfl rfl rfl fun a H => ?_
                                                  refine y_move H rfl rfl fun a H => ?_
                                                  refine y_on H rfl rfl ?_
                                                  refine y_move H rfl rfl fun a H => ?_
                                                  refine y_on H rfl rfl ?_
                                                  refine y_neZ H rfl (.inl ⟨rfl, rfl⟩) rfl fun a H => ?_
                                                  refine y_pick H rfl rfl rfl fun a H => ?_
                                                  refine wpList_nil (then_normal (hK609 _ _ ?_))
                                                  replace H := H.sub [(0, _), (1, _), (7, _), (9, _), (16, _), (232, _)] (sub_cons rfl (sub_cons rfl (sub_cons rfl (sub_cons rfl (sub_cons rfl (sub_cons rfl (sub_nil)))))))
                                                  refine y_iff H rfl ?_
                                                  refine wp_skip (then_normal (hK608 _ _ ?_))
                                                  replace H := H.sub [(0, _), (1, _), (7, _), (9, _), (16, _)] (sub_cons rfl (sub_cons rfl (sub_cons rfl (sub_cons rfl (sub_cons rfl (sub_nil))))))
                                                  have hpr := pairR_ok (v := x1) (u := x2) (by omega)
                                                  have hdr : (b :: d :: l3).drop 12 = l5.drop 4 := by
                                                    show l3.drop 10 = _
                                                    rw [show l3.drop 10 = (l3.drop 4).drop 6 by rw [List.drop_drop], hl4]; rfl
                                                  have HE : strA r [] = strA (l5.drop 4) (out ++ encU (pairR x1 x2)) := by rw [HA4, HM, if_pos ⟨by omega, by omega, by omega⟩, ← hdr]
                                                  refine y_reg ?_
                                                  refine y_move H rfl rfl fun a H => ?_
                                                  refine y_fromN (m := 6) (ys := l5.drop 4) H rfl rfl hv601 (by omega) (by first | omega | (simp <;> omega)) (rfl) rfl fun a vs795 H hvs795 => ?_
                                                  refine y_assign H rfl rfl fun a H => ?_
                                                  refine wpList_nil (then_normal (hK376 _ _ ?_))
                                                  replace H := H.sub [(0, _), (1, _), (7, _), (9, _), (16, _)] (sub_cons rfl (sub_cons rfl (sub_cons rfl (sub_cons rfl (sub_cons rfl (sub_nil))))))
                                                  refine y_reg ?_
                                                  refine y_move H rfl rfl fun a H => ?_
                                                  refine y_move H rfl rfl fun a H => ?_
                                                  refine y_convRune H rfl (enc_str (c := pairR x1 x2) (by omega)) rfl fun a H => ?_
                                                  refine y_outS H rfl ho603 rfl (encU_pos _) (by omega) (by have := encU_le ((pairR x1 x2)); first | omega | (simp <;> omega)) rfl fun v796 w796 hown796 hbN796 a H => ?_
                                                  have hv797 := View.keptB hv600 hbN796 hgg
                                                  have hv798 := View.keptB hvs795 hbN796 hgg
                                                  have hB799 := Below.trans hB604 hbN796
                                                  have hz800 := Below.size hB799
                                                  refine y_assign H rfl rfl fun a H => ?_
                                                  refine wpList_nil (in_normal (in_normal (in_normal (then_normal (⟨_, ?_, l5.drop 4, out ++ encU ((pairR x1 x2)), _, _, rfl, H.sub _ (sub_cons rfl (sub_cons rfl (sub_cons rfl (sub_cons rfl (sub_nil))))), hv798, .inl hown796, HE, hB799, ?_, ?_⟩)))))
                                                  · rw [← hln]; (first | omega | (simp <;> omega))
                                                  · (first | omega | (simp <;> omega))
                                                  · (have := encU_le (pairR x1 x2); simp <;> omega)
                                · refine y_eql (b := false) H rfl rfl (ieq_f (by omega)) rfl fun a H => ?_
                                  refine y_assign H rfl rfl fun a H => ?_
                                  refine wpList_nil (then_normal (hK275 _ _ ?_))
                                  replace H := H.sub [(0, _), (1, _), (7, _), (9, _), (171, _)] (sub_cons rfl (sub_cons rfl (sub_cons rfl (sub_cons rfl (sub_cons rfl (sub_nil))))))
                                  refine y_iff H rfl ?_
                                  refine y_seq fun K801 hK801 => ?_
                                  have HN : strJ (c0 :: r) = none := strJ_no (by rw [HA2, escJ_cons, if_neg (by omega), if_pos (escC_no (by omega))])
                                  refine d_begin (fun _ => True) 11 mixedZ rfl ?_
                                  have hbd802 : Below w45.heap.size w45 w45.drew := (Below.refl _ _).drew
                                  generalize w45.drew = wd802 at hbd802 ⊢
                                  have hv803 := View.below hv46 hbd802
                                  have hv804 := View.below hv47 hbd802
                                  have ho805 := OutV.below ho48 hbd802
                                  have hB806 := below_comp hB49 hbd802
                                  have hz807 := Below.size hB806
                                  refine d_take 0 H rfl (by kernel_rfl) (by kernel_rfl) (by kernel_rfl) (r_move H rfl) trivial rfl fun a H => ?_
                                  refine d_take 1 H rfl (by kernel_rfl) (by kernel_rfl) (by kernel_rfl) (r_move H rfl) trivial rfl fun a H => ?_
                                  refine d_take 3 H rfl (by kernel_rfl) (by kernel_rfl) (by kernel_rfl) (r_move H rfl) trivial rfl fun a H => ?_
                                  obtain ⟨ao811, c811, hsl811, hvs811⟩ := view_upto (P := Tryd.prog) hv804 28 5 Tryd.underlying28 info5u .i64 ((2 : Int)) 2 (by omega) (by first | omega | (simp <;> omega))
                                  refine d_take 4 H rfl (by kernel_rfl) (by kernel_rfl) (by kernel_rfl) (r_uptoZ Tryd.underlying28 H rfl rfl hsl811) trivial rfl fun a H => ?_
                                  refine d_take 5 H rfl (by kernel_rfl) (by kernel_rfl) (by kernel_rfl) (r_mkZ Tryd.underlying28 rfl H rfl) trivial rfl fun a H => ?_
                                  refine d_two 2 6 (by kernel_rfl) rfl rfl rfl rfl ?_ ?_
                                  · refine y_call pf_cur H rfl rfl (Calls.mono (currPos_any s wd802 (DW.below h hB806)) ?_)
                                    rintro e w813 ⟨rfl, hb813⟩
                                    refine ⟨_, rfl, fun a H => ?_⟩
                                    have hv814 := View.below hv803 hb813
                                    have hv815 := View.below hv804 hb813
                                    have hv816 := View.below hvs811 hb813
                                    have ho817 := OutV.below ho805 hb813
                                    have hB818 := below_comp hB806 hb813
                                    have hz819 := Below.size hB818
                                    refine wpList_nil ⟨trivial, ?_⟩
                                    refine d_one 6 (by kernel_rfl) rfl rfl ?_
                                    refine y_anyS H rfl rfl fun w820 u820 hb820 a H => ?_
                                    have hv821 := View.below hv814 hb820
                                    have hv822 := View.below hv815 hb820
                                    have hv823 := View.below hv816 hb820
                                    have ho824 := OutV.below ho817 hb820
                                    have hB825 := below_comp hB818 hb820
                                    have hz826 := Below.size hB825
                                    refine wpList_nil ⟨trivial, ?_⟩
                                    refine d_one 7 (by kernel_rfl) rfl rfl ?_
                                    refine y_call pf_nerr H rfl rfl (Calls.mono (newError_any _ _ _ _ w820 (by decide)) ?_)
                                    rintro e w827 ⟨⟨xe827, rfl⟩, hb827⟩
                                    refine ⟨_, rfl, fun a H => ?_⟩
                                    have hv828 := View.below hv821 hb827
                                    have hv829 := View.below hv822 hb827
                                    have hv830 := View.below hv823 hb827
                                    have ho831 := OutV.below ho824 hb827
                                    have hB832 := below_comp hB825 hb827
                                    have hz833 := Below.size hB832
                                    refine wpList_nil ⟨trivial, ?_⟩
                                    refine d_take 8 H rfl (by kernel_rfl) (by kernel_rfl) (by kernel_rfl) (r_assign H rfl) trivial rfl fun a H => ?_
                                    refine d_take 9 H rfl (by kernel_rfl) (by kernel_rfl) (by kernel_rfl) (r_assign H rfl) trivial rfl fun a H => ?_
                                    refine d_take 10 H rfl (by kernel_rfl) (by kernel_rfl) (by kernel_rfl) (r_assign H rfl) trivial rfl fun a H => ?_
                                    refine d_done (by kernel_rfl) (then_normal (hK801 _ _ ?_))
                                    replace H := H.sub [(0, _), (1, _), (4, _), (5, _), (6, _), (7, _), (9, _)] (sub_cons rfl (sub_cons rfl (sub_cons rfl (sub_cons rfl (sub_cons rfl (sub_cons rfl (sub_cons rfl (sub_nil))))))))
                                    refine wp_ret (in_ret (in_ret (in_ret (then_ret (in_ret (then_ret (?_)))))))
                                    exact ret3 (by rfl) H rfl rfl rfl ⟨StrRes.bad HN _ _, hB832⟩
                                  · refine y_anyS H rfl rfl fun w837 u837 hb837 a H => ?_
                                    have hv838 := View.below hv803 hb837
                                    have hv839 := View.below hv804 hb837
                                    have hv840 := View.below hvs811 hb837
                                    have ho841 := OutV.below ho805 hb837
                                    have hB842 := below_comp hB806 hb837
                                    have hz843 := Below.size hB842
                                    refine wpList_nil ⟨trivial, ?_⟩
                                    refine d_one 2 (by kernel_rfl) rfl rfl ?_
                                    refine y_call pf_cur H rfl rfl (Calls.mono (currPos_any s w837 (DW.below h hB842)) ?_)
                                    rintro e w844 ⟨rfl, hb844⟩
                                    refine ⟨_, rfl, fun a H => ?_⟩
                                    have hv845 := View.below hv838 hb844
                                    have hv846 := View.below hv839 hb844
                                    have hv847 := View.below hv840 hb844
                                    have ho848 := OutV.below ho841 hb844
                                    have hB849 := below_comp hB842 hb844
                                    have hz850 := Below.size hB849
                                    refine wpList_nil ⟨trivial, ?_⟩
                                    refine d_one 7 (by kernel_rfl) rfl rfl ?_
                                    refine y_call pf_nerr H rfl rfl (Calls.mono (newError_any _ _ _ _ w844 (by decide)) ?_)
                                    rintro e w851 ⟨⟨xe851, rfl⟩, hb851⟩
                                    refine ⟨_, rfl, fun a H => ?_⟩
                                    have hv852 := View.below hv845 hb851
                                    have hv853 := View.below hv846 hb851
                                    have hv854 := View.below hv847 hb851
                                    have ho855 := OutV.below ho848 hb851
                                    have hB856 := below_comp hB849 hb851
                                    have hz857 := Below.size hB856
                                    refine wpList_nil ⟨trivial, ?_⟩
                                    refine d_take 8 H rfl (by kernel_rfl) (by kernel_rfl) (by kernel_rfl) (r_assign H rfl) trivial rfl fun a H => ?_
                                    refine d_take 9 H rfl (by kernel_rfl) (by kernel_rfl) (by kernel_rfl) (r_assign H rfl) trivial rfl fun a H => ?_
                                    refine d_take 10 H rfl (by kernel_rfl) (by kernel_rfl) (by kernel_rfl) (r_assign H rfl) trivial rfl fun a H => ?_
                                    refine d_done (by kernel_rfl) (then_normal (hK801 _ _ ?_))
                                    replace H := H.sub [(0, _), (1, _), (4, _), (5, _), (6, _), (7, _), (9, _)] (sub_cons rfl (sub_cons rfl (sub_cons rfl (sub_cons rfl (sub_cons rfl (sub_cons rfl (sub_cons rfl (sub_nil))))))))
                                    refine wp_ret (in_ret (in_ret (in_ret (then_ret (in_ret (then_ret (?_)))))))
                                    exact ret3 (by rfl) H rfl rfl rfl ⟨StrRes.bad HN _ _, hB856⟩
                · have H := Hs141
                  have q34 : d.toNat = 34 := by have := eq_of_beq hb34; omega
                  refine y_ift H rfl ?_
                  exact wp_skip (then_normal (hj126 _  (H.sub _ (sub_cons rfl (sub_cons rfl (sub_cons rfl (sub_cons rfl (sub_cons rfl (sub_cons rfl (sub_cons rfl (sub_nil))))))))) (by omega)))
            · refine y_eql (b := false) H rfl rfl (ieq_f (by omega)) rfl fun a H => ?_
              refine y_assign H rfl rfl fun a H => ?_
              refine wpList_nil (then_normal (hK93 _ _ ?_))
              replace H := H.sub [(0, _), (1, _), (7, _), (9, _), (11, _), (107, _)] (sub_cons rfl (sub_cons rfl (sub_cons rfl (sub_cons rfl (sub_cons rfl (sub_cons rfl (sub_nil)))))))
              refine y_iff H rfl ?_
              refine y_seq fun K861 hK861 => ?_
              obtain ⟨i2, hi2⟩ : ∃ i2, i2 = needAt (l.drop n1) := ⟨_, rfl⟩
              have hi2l : n1 + i2 ≤ l.length := by
                have := needN_le (l.drop n1).length (l.drop n1)
                rw [show needN (l.drop n1).length (l.drop n1) = needAt (l.drop n1) from rfl, ← hi2, List.length_drop] at this
                omega
              have HE : strA r [] = strA (l.drop (n1 + i2)) (out ++ l.take (n1 + i2)) := by rw [hi2, hst, HA, if_neg (by omega), if_neg (by omega), if_neg (by omega), strA_skip (l.drop n1).length (l.drop n1), List.drop_drop, List.append_assoc, List.take_add]; rfl
              refine y_reg ?_
              refine y_move H rfl rfl fun a H => ?_
              refine y_move H rfl rfl fun a H => ?_
              refine y_fromN (m := n1) (ys := l.drop n1) H rfl rfl hv47 (by omega) (by first | omega | (simp <;> omega)) (rfl) rfl fun a vs862 H hvs862 => ?_
              have hP := needBytes_any _ (l.drop n1) gg w45 hvs862 (by first | omega | (simp <;> omega))
              rw [← hi2] at hP
              refine y_call pf_need H rfl rfl (Calls.mono (hP) ?_)
              rintro e w863 ⟨rfl, hb863⟩
              refine ⟨_, rfl, fun a H => ?_⟩
              have hv864 := View.below hv46 hb863
              have hv865 := View.below hv47 hb863
              have hv866 := View.below hvs862 hb863
              have ho867 := OutV.below ho48 hb863
              have hB868 := below_comp hB49 hb863
              have hz869 := Below.size hB868
              refine y_assign H rfl rfl fun a H => ?_
              refine wpList_nil (then_normal (hK861 _ _ ?_))
              replace H := H.sub [(0, _), (1, _), (7, _), (9, _), (11, _), (19, _)] (sub_cons rfl (sub_cons rfl (sub_cons rfl (sub_cons rfl (sub_cons rfl (sub_cons rfl (sub_nil)))))))
              refine d_begin (fun _ => True) 14 mixedZ rfl ?_
              have hbd870 : Below w863.heap.size w863 w863.drew := (Below.refl _ _).drew
              generalize w863.drew = wd870 at hbd870 ⊢
              have hv871 := View.below hv864 hbd870
              have hv872 := View.below hv865 hbd870
              have ho873 := OutV.below ho867 hbd870
              have hB874 := below_comp hB868 hbd870
              have hz875 := Below.size hB874
              refine d_take 0 H rfl (by kernel_rfl) (by kernel_rfl) (by kernel_rfl) (r_move H rfl) trivial rfl fun a H => ?_
              refine d_take 1 H rfl (by kernel_rfl) (by kernel_rfl) (by kernel_rfl) (r_move H rfl) trivial rfl fun a H => ?_
              refine d_take 2 H rfl (by kernel_rfl) (by kernel_rfl) (by kernel_rfl) (r_move H rfl) trivial rfl fun a H => ?_
              refine d_take 3 H rfl (by kernel_rfl) (by kernel_rfl) (by kernel_rfl) (r_addZ (r := ((n1 + i2 : Nat) : Int)) H rfl rfl (by omega) (by omega) (by omega)) trivial rfl fun a H => ?_
              obtain ⟨vs880, hsl880, hvs880⟩ := view_from (P := Tryd.prog) hv872 28 5 Tryd.underlying28 info5u .i64 (((n1 + i2 : Nat) : Int)) (n1 + i2) (by omega) (by first | omega | (simp <;> omega))
              replace hvs880 : View _ _ vs880 ((l).drop (n1 + i2)) := hvs880
              refine d_take 4 H rfl (by kernel_rfl) (by kernel_rfl) (by kernel_rfl) (r_fromZ Tryd.underlying28 H rfl rfl hsl880) trivial rfl fun a H => ?_
              refine d_take 5 H rfl (by kernel_rfl) (by kernel_rfl) (by kernel_rfl) (r_move H rfl) trivial rfl fun a H => ?_
              refine d_take 6 H rfl (by kernel_rfl) (by kernel_rfl) (by kernel_rfl) (r_move H rfl) trivial rfl fun a H => ?_
              refine d_take 7 H rfl (by kernel_rfl) (by kernel_rfl) (by kernel_rfl) (r_move H rfl) trivial rfl fun a H => ?_
              refine d_take 8 H rfl (by kernel_rfl) (by kernel_rfl) (by kernel_rfl) (r_move H rfl) trivial rfl fun a H => ?_
              refine d_take 9 H rfl (by kernel_rfl) (by kernel_rfl) (by kernel_rfl) (r_addZ (r := ((n1 + i2 : Nat) : Int)) H rfl rfl (by omega) (by omega) (by omega)) trivial rfl fun a H => ?_
              obtain ⟨ao886, c886, hsl886, hvs886⟩ := view_upto (P := Tryd.prog) hv872 28 5 Tryd.underlying28 info5u .i64 (((n1 + i2 : Nat) : Int)) (n1 + i2) (by omega) (by first | omega | (simp <;> omega))
              refine d_take 10 H rfl (by kernel_rfl) (by kernel_rfl) (by kernel_rfl) (r_uptoZ Tryd.underlying28 H rfl rfl hsl886) trivial rfl fun a H => ?_
              refine d_one 11 (by kernel_rfl) rfl rfl ?_
              refine y_outV H rfl ho873 rfl hvs886 (by rw [List.length_take]; omega) (by omega) (by rw [List.length_take]; omega) rfl fun v887 w887 hown887 hbN887 a H => ?_
              have hv888 := View.keptB hv871 hbN887 hgg
              have hv889 := View.keptB hv872 hbN887 hgg
              have hv890 := View.keptB hvs880 hbN887 hgg
              have hv891 := View.keptB hvs886 hbN887 hgg
              have hB892 := Below.trans hB874 hbN887
              have hz893 := Below.size hB892
              refine wpList_nil ⟨trivial, ?_⟩
              refine d_take 12 H rfl (by kernel_rfl) (by kernel_rfl) (by kernel_rfl) (r_assign H rfl) trivial rfl fun a H => ?_
              refine d_take 13 H rfl (by kernel_rfl) (by kernel_rfl) (by kernel_rfl) (r_assign H rfl) trivial rfl fun a H => ?_
              refine d_done (by kernel_rfl) (in_normal (in_normal (then_normal (⟨_, ?_, (l).drop (n1 + i2), out ++ l.take (n1 + i2), _, _, rfl, H.sub _ (sub_cons rfl (sub_cons rfl (sub_cons rfl (sub_cons rfl (sub_nil))))), hv890, .inl hown887, HE, hB892, ?_, ?_⟩))))
              · rw [← hln]; (first | omega | (simp <;> omega))
              · (first | omega | (simp <;> omega))
              · (simp <;> omega)
      by_cases hc65 : c = 65533
      · refine y_reg ?_
        refine y_move H rfl rfl fun a H => ?_
        refine y_eql (b := true) H rfl rfl (ieq_t (by omega)) rfl fun a H => ?_
        refine y_move H rfl rfl fun a H => ?_
        refine y_on H rfl rfl ?_
        refine y_move H rfl rfl fun a H => ?_
        refine y_on H rfl rfl ?_
        refine y_eql (b := false) H rfl rfl (ieq_f (by omega)) rfl fun a H => ?_
        refine y_pick H rfl rfl rfl fun a H => ?_
        refine y_assign H rfl rfl fun a H => ?_
        exact wpList_nil (then_normal (hj73 _  (H.sub _ (sub_cons rfl (sub_cons rfl (sub_cons rfl (sub_cons rfl (sub_cons rfl (sub_cons rfl (sub_cons rfl (sub_nil))))))))) ))
      · refine y_reg ?_
        refine y_move H rfl rfl fun a H => ?_
        refine y_eql (b := false) H rfl rfl (ieq_f (by omega)) rfl fun a H => ?_
        refine y_move H rfl rfl fun a H => ?_
        refine y_off H rfl rfl rfl fun a H => ?_
        refine y_off H rfl rfl rfl fun a H => ?_
        refine y_pick H rfl rfl rfl fun a H => ?_
        refine y_assign H rfl rfl fun a H => ?_
        exact wpList_nil (then_normal (hj73 _  (H.sub _ (sub_cons rfl (sub_cons rfl (sub_cons rfl (sub_cons rfl (sub_cons rfl (sub_cons rfl (sub_cons rfl (sub_nil))))))))) ))
end Go.Proofs.YtjkmmhnhhiopiaaDoor
