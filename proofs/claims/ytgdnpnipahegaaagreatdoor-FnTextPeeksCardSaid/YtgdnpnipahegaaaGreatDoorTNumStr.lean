/-
 The package's reader of the text form, walked: a number's text.
-/
import Derived.Test.YtgdnpnipahegaaaGreatDoorTRun
import Derived.Test.YtgdnpnipahegaaaGreatDoorTNumBase
import Derived.Test.YtgdnpnipahegaaaGreatDoorTAcc
import Derived.Lib.SlBuf
import Derived.Laws.MakeOwn
import Derived.StillTailTactics
namespace Go.Proofs.YtgdnpnipahegaaaGreatDoor
open Go.ChangeShapes Go.WideShapes Go.ChangeAt Go.RowKit

section
variable {P : Program} {ops : Array Oper} {rest : List Oper} {o : Oper} {a : Act} {Q : Exit → Act → World → Prop}
theorem wpList_make_bytes (w : World) (hgd : o.guard = none) (x : Operand) (t e : TypeId) (ho : o.op = .makeSlice t x x)
  (ht : P.underlying t = some (.slice e)) (hinfo : (P.info? e).map (fun i => (i.zero, i.size, i.bytes)) = some (some (.int .u8 0), 1, 1))
  (n : Nat) (hx : a.eval x = .int .i64 (n : Int)) (hn : n ≤ 100000000)
  (h : ∀ w', Lib.Buf w w' w.heap.size n [] → wpList P ops Q rest (a.put o.dst (.slice (some ⟨w.heap.size, 0, none⟩) n n)) w') : wpList P ops Q (o :: rest) a w := by
 obtain ⟨i, hi, hz, hz1, hz2⟩ := info_parts hinfo
 refine wpList_plain hgd fun K hK => ?_
 have hr := run_make (P := P) w t e i (.int .u8 0) ht hi hz .i64 .i64 (n : Int) (n : Int) (by omega) (Int.le_refl _) (by rw [hz2]; omega) (by omega)
 simp only [Int.toNat_natCast, hz1, Nat.mul_one] at hr
 have hs : (madeCells (Value.int .u8 0).cells n).size = n := size_madeCells _ _
 generalize madeCells (Value.int .u8 0).cells n = cs at hr hs
 unfold Oper.wp
 simp [execOp, ho, hx, hr, Result.andThen]
 refine hK _ _ (h _ ?_)
 have := Lib.Buf.start w cs e n 0 (by omega)
 exact this
end
section
variable {P : Program}
theorem view_both {w : World} {g : Nat} {v : Value} {bs : List UInt8} (hv : View w g v bs) (t e : TypeId) (ht : P.underlying t = some (.slice e)) (hinfo : (P.info? e).map (fun i => (i.zero, i.size, i.bytes)) = some (some (.int .u8 0), 1, 1))
  (k k' : IntKind) (l m : Int) (n j : Nat) (hl : l = (n : Int)) (hj : m = (j : Int)) (hn : n ≤ j) (hm : j ≤ bs.length) : ∃ v', (∀ W, (Instr.slice t v (some (.int k l)) (some (.int k' m)) none).run P W = .ok v' W) ∧ View w g v' ((bs.drop n).take (j - n)) := by
 subst hl hj
 obtain ⟨ao, cap, rfl, h3, h4, hn0, off, h5, h6⟩ := hv
 obtain ⟨inf, hi1, hz, hz1, hz2⟩ := info_parts hinfo
 have hlen : ((bs.drop n).take (j - n)).length = j - n := by simp; omega
 refine ⟨sliced ao n j cap 1, fun W => ?_, ?_⟩
 ·have hs : P.underlying t = some (.slice (P.elem t)) := by simp [Program.elem, ht]
  have he : P.elem t = e := by simp [Program.elem, ht]
  have hsz : (sizeOf (P.elem t)).run P W = .ok 1 W := by simp [sizeOf, typeInfo, he, hi1, hz1]
  rw [run_slice_lh W t ao bs.length cap hs k k' (n : Int) (j : Int) (by omega) (by omega) (by omega), hsz]
  simp [Result.andThen]
 ·refine ⟨_, _, by rw [hlen]; rfl, by omega, by omega, by intro he; cases ao with
   | none => have := hn0 rfl; omega
   | some ad => split at he <;> simp at he, off + n, ?_, ?_⟩
  ·intro hne
   have : j - n ≠ 0 := by intro e; apply hne; exact List.eq_nil_of_length_eq_zero (by omega)
   have hbs : bs ≠ [] := by intro e; subst e; simp at hm; omega
   rw [if_neg (by omega), h5 hbs]
   simp [Addr.add_lit]
  ·intro i hi
   rw [hlen] at hi
   have e1 : off + n + i = off + (n + i) := by omega
   rw [e1, h6 (n + i) (by omega)]
   simp
end
theorem part_eq (l : List UInt8) (Z sp : Nat) : (l.take Z).drop (sp + 1) = (l.drop (sp + 1)).take (Z - (sp + 1)) := by rw [List.drop_take]
theorem holds_view {w : World} {g : Nat} {v : Value} {l : List UInt8} (h : View w g v l) : Lib.HoldsBytes w v l := by
 obtain ⟨ao, cap, rfl, h1, h2, h3, off, h4, h5⟩ := h
 refine ⟨ao, cap, rfl, fun e => ?_, fun a ha i x hx => ?_⟩
 ·by_cases hl : l = []
  ·exact hl
  ·rw [h4 hl] at e; cases e
 ·have hi : i < l.length := (List.getElem?_eq_some_iff.1 hx).1
  have hne : l ≠ [] := by intro e; rw [e] at hi; simp at hi
  rw [h4 hne] at ha
  injection ha with ha
  subst ha
  rw [Addr.add_lit, h5 i hi]
  rw [List.getElem?_eq_getElem hi] at hx
  injection hx with hx
  rw [hx]
theorem buf_view {w0 w : World} {h N : Nat} {acc : List UInt8} (hb : Lib.Buf w0 w h N acc) (hN : acc.length = N) (hm : N ≤ 100000000) : View w h (.slice (some ⟨h, 0, none⟩) N N) acc := by
 subst hN
 refine ⟨_, _, rfl, Nat.le_refl _, by unfold maxLen; omega, (fun e => by cases e), 0, fun _ => rfl, fun j hj => ?_⟩
 rw [Nat.zero_add]
 exact hb.holds j _ (List.getElem?_eq_getElem hj)
theorem buf_set0 {w0 w : World} {h N : Nat} (hb : Lib.Buf w0 w h N []) (hN : 0 < N) (c : UInt8) : Lib.Buf w0 (w.setCell ⟨h, 0, none⟩ (.int .u8 (c.toNat : Int))) h N [c] where
 below := hb.below.setCell (p := ⟨h, 0, none⟩) (Nat.le_refl _) _
 there := fun j hj => by
  by_cases h0 : j = 0
  ·subst h0
   obtain ⟨u, hu⟩ := Option.isSome_iff_exists.1 (hb.there 0 hN)
   rw [World.cell?_setCell_same w _ _ hu]
   rfl
  ·rw [World.cell?_setCell_other w _ _ _ (by intro e; injection e with _ e; exact h0 e.symm)]
   exact hb.there j hj
 free := fun j hj => by rw [World.frozen?_setCell]; exact hb.free j hj
 holds := fun j x hx => by
  cases j with
  | zero =>
   obtain ⟨u, hu⟩ := Option.isSome_iff_exists.1 (hb.there 0 hN)
   rw [World.cell?_setCell_same w _ _ hu]
   simp at hx
   rw [hx]
  | succ j => simp at hx
 fits := by simp; omega
set_option maxRecDepth 100000 in
set_option maxHeartbeats 10000000 in
theorem numString_any (x : NT) (l : List UInt8) (v : Value) (g : Nat) (w : World) (hv : View w g v l) (hx : numT l = some x) (hm : l.length ≤ 90000000) :
  Calls Tryz.prog 54 #[numV (some x), v] w (Ans (.string ⟨(numS x l).toArray⟩) w) := by
 obtain ⟨h1, h2, h3, h4⟩ := numT_size hx
 obtain ⟨kd, neg, sz, sp⟩ := x
 simp only at h1 h2 h3 h4
 clear hx
 have hzl : ((sz : Int) - 1).toNat < l.length := by omega
 have hgd : l.getD (sz - 1) 0 = l[((sz : Int) - 1).toNat] := by
  rw [List.getD_eq_getElem?_getD, List.getElem?_eq_getElem (by omega)]
  simp only [Option.getD_some]
  congr 1
  omega
 obtain ⟨fB, hfB⟩ : ∃ fB : Bool, fB = (kd == 4 && isF (l[((sz : Int) - 1).toNat])) := ⟨_, rfl⟩
 obtain ⟨Z, hZ⟩ : ∃ Z, Z = if fB then sz - 1 else sz := ⟨_, rfl⟩
 have HS : Hid (numS ⟨kd, neg, sz, sp⟩ l = if neg = true ∧ 0 < sp then l.getD 0 0 :: ((l.take Z).drop (sp + 1)) else l.take Z) := hid (by
  unfold numS
  simp only
  rw [hgd]
  have : (if kd = 4 ∧ isF (l[((sz : Int) - 1).toNat]) = true then sz - 1 else sz) = Z := by
   rw [hZ, hfB]
   by_cases hk : kd = 4
   ·simp [hk]
   ·simp [hk]
  rw [this])
 generalize numS ⟨kd, neg, sz, sp⟩ l = S at *
 unfold numV
 simp only
 obtain ⟨w1, hw1⟩ : ∃ w1, w1 = w.alloc (.cells #[.int .u8 (kd : Int), .bool neg, .int .i64 (sz : Int), .int .i64 (sp : Int)] 80) := ⟨_, rfl⟩
 have hb1 : Below w.heap.size w w1 := by rw [hw1]; exact (Below.refl _ w).alloc (Nat.le_refl _) _
 have hr : RowAt w1 w.heap.size [.int .u8 (kd : Int), .bool neg, .int .i64 (sz : Int), .int .i64 (sp : Int)] := by rw [hw1]; exact rowAt_new (heap_alloc_new w _)
 have hlt1 : w.heap.size < w1.heap.size := by rw [hw1, size_allocT]; omega
 have HW := hid hw1
 have HB1 := hid hb1
 have hv1 := hv.below hb1
 have HV1 := hid hv1
 obtain ⟨a0, _⟩ := hr 0 _ rfl
 obtain ⟨a1, _⟩ := hr 1 _ rfl
 obtain ⟨a2, _⟩ := hr 2 _ rfl
 obtain ⟨a3, _⟩ := hr 3 _ rfl
 have R0 := hid hr
 obtain ⟨ao, cp, rfl⟩ := hv1.slice
 have hcp := hv1.cap
 clear hw1 hb1 hv hv1 hr hgd
 have HFB := hid hfB
 have HZ := hid hZ
 have hsz2 : sz ≤ 90000000 := by omega
 have bcz := byte_bd l[((sz : Int) - 1).toNat]
 clear hfB hZ
 go_enter Tryz.func54, Tryz.ntmps54
 go_upto_region 1 with fail
 rw [← HW.out]
 clear HW
 go_upto_region 3 with fail
 go_cut [30] (fun t wx => t = .bool fB ∧ w1 = wx)
 case first =>
  as_aux_lemma =>
  by_cases hk : kd = 4
  ·have e1 : ((kd : Int) == 4) = true := by simp; omega
   have HF : Hid (fB = isF (l[((sz : Int) - 1).toNat])) := hid (by rw [HFB.out, hk]; rfl)
   clear hk
   generalize hc : l[((sz : Int) - 1).toNat] = c at *
   by_cases h102 : c.toNat = 102
   ·have e2 : ((c.toNat : Int) == 102) = true := by simp; omega
    have HF2 : Hid (fB = true) := hid (by rw [HF.out]; unfold isF; rw [h102]; rfl)
    clear h102
    go_wp2_with (first | ((with_reducible refine is_index ?_); refine wpList_index_view _ (by rfl) _ _ 22 5 rfl Tryz.underlying22 info5u _ _ _ rfl HV1.out _ ((sz : Int) - 1) rfl (by omega) hzl ?_; intro ad1 hc1; rw [hc] at hc1) | fail)
    go_meet
    exact ⟨by rw [HF2.out], rfl⟩
   ·have e2 : ((c.toNat : Int) == 102) = false := by simp; omega
    by_cases h70 : c.toNat = 70
    ·have e3 : ((c.toNat : Int) == 70) = true := by simp; omega
     have HF2 : Hid (fB = true) := hid (by rw [HF.out]; unfold isF; rw [h70]; rfl)
     clear h70 h102
     go_wp2_with (first | ((with_reducible refine is_index ?_); refine wpList_index_view _ (by rfl) _ _ 22 5 rfl Tryz.underlying22 info5u _ _ _ rfl HV1.out _ ((sz : Int) - 1) rfl (by omega) hzl ?_; intro ad1 hc1; rw [hc] at hc1) | fail)
     go_meet
     exact ⟨by rw [HF2.out], rfl⟩
    ·have e3 : ((c.toNat : Int) == 70) = false := by simp; omega
     have HF2 : Hid (fB = false) := hid (by rw [HF.out]; unfold isF; simp [h70, h102])
     clear h70 h102
     go_wp2_with (first | ((with_reducible refine is_index ?_); refine wpList_index_view _ (by rfl) _ _ 22 5 rfl Tryz.underlying22 info5u _ _ _ rfl HV1.out _ ((sz : Int) - 1) rfl (by omega) hzl ?_; intro ad1 hc1; rw [hc] at hc1) | fail)
     go_meet
     exact ⟨by rw [HF2.out], rfl⟩
  ·have e1 : ((kd : Int) == 4) = false := by simp; omega
   have HF2 : Hid (fB = false) := hid (by rw [HFB.out]; simp [hk])
   clear hk
   go_wp2_with fail
   go_meet
   exact ⟨by rw [HF2.out], rfl⟩
  --END
 case rest =>
  obtain ⟨rfl, rfl⟩ := hcut
  go_upto_if 30 with fail
  go_cut [5] (fun z wx => z = .int .i64 (Z : Int) ∧ w1 = wx)
  case first =>
   as_aux_lemma =>
   cases fB with
   | true =>
    have HZ2 : Hid ((sz : Int) - 1 = (Z : Int)) := hid (by have := HZ.out; simp at this; omega)
    go_wp2_with fail
    go_meet
    exact ⟨by rw [HZ2.out], rfl⟩
   | false =>
    have HZ2 : Hid ((sz : Int) = (Z : Int)) := hid (by have := HZ.out; simp at this; omega)
    go_wp2_with fail
    go_meet
    exact ⟨by rw [HZ2.out], rfl⟩
   --END
  case rest =>
   obtain ⟨rfl, rfl⟩ := hcut
   have hZs : Z ≤ sz ∧ sz ≤ Z + 1 := by have := HZ.out; split at this <;> omega
   clear HZ HFB bcz hzl
   by_cases hns : neg = true ∧ 0 < sp
   ·obtain ⟨rfl, hsp⟩ := hns
    have HF : Hid (S = l.getD 0 0 :: ((l.take Z).drop (sp + 1))) := hid (by rw [HS.out, if_pos ⟨rfl, hsp⟩])
    have h3' := h3 rfl
    have hspI : (0 : Int) < (sp : Int) := by omega
    obtain ⟨N, hN⟩ : ∃ N, N = Z - sp := ⟨_, rfl⟩
    have hNI : (Z : Int) - (sp : Int) = (N : Int) := by omega
    have hN0 : 0 < N := by omega
    have hNm : N ≤ 90000000 := by omega
    obtain ⟨c0, l0, hl⟩ : ∃ c0 l0, l = c0 :: l0 := by
     cases l with
     | nil => simp at h2; omega
     | cons a b => exact ⟨a, b, rfl⟩
    have h00 : (0 : Int).toNat < l.length := by simp; omega
    have hg0 : l[(0 : Int).toNat]'h00 = c0 := by subst hl; rfl
    have bc0 := byte_bd c0
    have HL := hid hl
    have HN := hid hN
    clear h3 hl hN h4
    go_upto_region 7 with fail
    try rw [hNI]
    go_upto_region 9 with (first
     | (refine wpList_make_bytes _ (by rfl) _ 22 5 (by rfl) Tryz.underlying22 info5u N rfl (by omega) ?_; intro w2 hbuf; obtain ⟨u0, hu0⟩ := Option.isSome_iff_exists.1 (hbuf.there 0 hN0); have f0 := hbuf.free 0 hN0; have HBUF := hid hbuf; have HV2 := hid (HV1.out.below hbuf.below); have HA3 := hid (show w2.cell? ⟨w.heap.size, 3, none⟩ = some (.int .i64 (sp : Int)) from (hbuf.below.cell (p := ⟨w.heap.size, 3, none⟩) hlt1).trans a3); clear hbuf)
     | ((with_reducible refine is_index ?_); refine wpList_index_view _ (by rfl) _ _ 22 5 rfl Tryz.underlying22 info5u _ _ _ rfl HV2.out _ 0 rfl (by omega) h00 ?_; intro ad1 hc1; rw [hg0] at hc1)
     | fail)
    obtain ⟨wS, hwS⟩ : ∃ wS, wS = w2.setCell ⟨w1.heap.size, 0, none⟩ (.int .u8 (c0.toNat : Int)) := ⟨_, rfl⟩
    have HBS : Hid (Lib.Buf w1 wS w1.heap.size N [c0]) := hid (by
     rw [hwS]
     exact buf_set0 HBUF.out hN0 c0)
    have aS3 : wS.cell? ⟨w.heap.size, 3, none⟩ = some (.int .i64 (sp : Int)) := (HBS.out.below.cell (p := ⟨w.heap.size, 3, none⟩) hlt1).trans a3
    rw [← hwS]
    obtain ⟨w3, hw3⟩ : ∃ w3, w3 = wS.drew := ⟨_, rfl⟩
    have HB3 : Hid (Lib.Buf w1 w3 w1.heap.size N [c0]) := hid (by
     have h := HBS.out
     rw [hw3]
     exact ⟨h.below.drew, h.there, h.free, h.holds, h.fits⟩)
    have hgl := HV1.out.lt (by intro e; rw [e] at h00; simp at h00)
    have HG1 := hid hgl
    clear hgl
    have HV3 := hid (HV1.out.kept (HB3.out.below.block g HG1.out))
    have h1Z : (sp : Int) + 1 ≤ (Z : Int) := by have := HN.out; omega
    have hZl : (Z : Int) ≤ (l.length : Int) := by omega
    obtain ⟨v2, hs2, hv2⟩ := view_both (P := Tryz.prog) HV3.out 22 5 Tryz.underlying22 info5u .i64 .i64 ((sp : Int) + 1) (Z : Int) (sp + 1) Z (by simp) rfl (by omega) (by omega)
    obtain ⟨v1, hv1⟩ : ∃ v1, v1 = Lib.tailV w1.heap.size N 1 := ⟨_, rfl⟩
    have hs1 := fun W : World => Lib.run_slice_tailV (P := Tryz.prog) W 22 5 Tryz.underlying22 (fun w => by kernel_rfl) w1.heap.size N 1 (by omega)
    rw [← hv1] at hs1
    change ∀ W : World, (Instr.slice 22 (.slice (some ⟨w1.heap.size, 0, none⟩) N N) (some (.int .i64 (1 : Int))) none none).run Tryz.prog W = .ok v1 W at hs1
    obtain ⟨w4, hr4, hb4⟩ := Lib.copy_part (P := Tryz.prog) w1 w3 w1.heap.size N [c0] _ v2 22 3 5 Tryz.underlying22 (by kernel_rfl) (Nat.le_refl _) HB3.out (holds_view (hv2.kept (HB3.out.below.block g HG1.out).symm)) (by simp; have := HN.out; omega)
    simp only [List.length_cons, List.length_nil, Nat.zero_add] at hr4
    rw [← hv1] at hr4
    have HR4 := hid hr4
    have HV4 := hid (buf_view hb4 (by simp; have := HN.out; omega) (by omega))
    have HB4 := hid hb4.below
    have HF2 : Hid (S = [c0] ++ ((l.drop (sp + 1)).take (Z - (sp + 1)))) := hid (by rw [HF.out, part_eq, HL.out]; rfl)
    clear hv1 hr4 hb4 hv2 hwS a0 a1 a2 a3 HA3 HV2 hu0 f0 hc1
    have hwr : IntKind.i64.wrap ((sp : Int) + 1) = (sp : Int) + 1 := IntWalk.i64_in _ (by omega)
    go_still_tail 8, (by kernel_rfl)
    change wpList _ _ _ _ _ wS.drew
    rw [← hw3]
    clear hw3 hs1 hs2 aS3
    refine Lib.wpList_copy_run _ rfl _ _ 22 22 rfl v1 v2 rfl rfl HR4.out ?_
    go_wp2_with (first
     | ((with_reducible refine is_conv ?_); refine wpList_string_view _ (by rfl) _ 22 9 5 rfl Tryz.underlying22 Tryz.underlying5 Tryz.underlying9 _ _ _ rfl HV4.out ?_)
     | fail)
    go_ret
    exact ⟨by rw [HF2.out]; rfl, HB1.out.trans (HB4.out.mono (by omega))⟩
   ·have HF : Hid (S = l.take Z) := hid (by rw [HS.out, if_neg hns])
    have hZl : (Z : Int) ≤ (l.length : Int) := by omega
    cases neg with
    | false =>
     clear hns
     go_wp2_with (first | ((with_reducible refine is_upto ?_); refine wpList_slice_to _ (by rfl) _ _ 22 5 rfl Tryz.underlying22 info5u _ _ _ rfl HV1.out _ (Z : Int) rfl (by omega) hZl ?_; intro vs2 hvs2; simp only [Int.toNat_natCast] at hvs2) | ((with_reducible refine is_conv ?_); refine wpList_string_view _ (by rfl) _ 22 9 5 rfl Tryz.underlying22 Tryz.underlying5 Tryz.underlying9 _ _ _ rfl hvs2 ?_) | fail)
     go_ret
     exact ⟨by rw [HF.out]; rfl, HB1.out⟩
    | true =>
     have hsp : ¬ (0 : Int) < (sp : Int) := by have : ¬ 0 < sp := fun h => hns ⟨rfl, h⟩; omega
     clear hns
     go_wp2_with (first | ((with_reducible refine is_upto ?_); refine wpList_slice_to _ (by rfl) _ _ 22 5 rfl Tryz.underlying22 info5u _ _ _ rfl HV1.out _ (Z : Int) rfl (by omega) hZl ?_; intro vs2 hvs2; simp only [Int.toNat_natCast] at hvs2) | ((with_reducible refine is_conv ?_); refine wpList_string_view _ (by rfl) _ 22 9 5 rfl Tryz.underlying22 Tryz.underlying5 Tryz.underlying9 _ _ _ rfl hvs2 ?_) | fail)
     go_ret
     exact ⟨by rw [HF.out]; rfl, HB1.out⟩
end Go.Proofs.YtgdnpnipahegaaaGreatDoor
