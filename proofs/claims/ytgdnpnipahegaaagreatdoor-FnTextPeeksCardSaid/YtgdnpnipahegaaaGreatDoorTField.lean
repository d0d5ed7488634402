/-
 The package's reader of the text form, walked: a field's name.
-/
import Derived.Test.YtgdnpnipahegaaaGreatDoorJI
import Derived.Test.YtgdnpnipahegaaaGreatDoorTTypeN
import Derived.Lib.AtoiErrMem
namespace Go.Proofs.YtgdnpnipahegaaaGreatDoor
open Go.ChangeShapes Go.WideShapes Go.ChangeAt Go.RowKit

theorem fieldI_type {bs r : List UInt8} {k : Nat} {c : UInt8} (h : bs.drop k = c :: r) (hc : c.toNat = 91) : fieldI bs k = typeT bs k := by unfold fieldI; rw [h]; simp only; rw [if_pos hc]
theorem fieldI_ident {bs r : List UInt8} {k n : Nat} {c : UInt8} (h : bs.drop k = c :: r) (hc : c.toNat ≠ 91) (hi : identT false (c :: r) = n + 1) : fieldI bs k = some (tokT bs k 2 (n + 1) 1) := by unfold fieldI; rw [h]; simp only; rw [if_neg hc, hi, if_pos (by omega)]
theorem fieldI_num {bs r : List UInt8} {k sz sp : Nat} {c : UInt8} (h : bs.drop k = c :: r) (hc : c.toNat ≠ 91) (hi : identT false (c :: r) = 0) (hN : numT (c :: r) = some ⟨0, false, sz, sp⟩) (hv : tenV 0 (numS ⟨0, false, sz, sp⟩ (c :: r)) ≤ 2147483647) : fieldI bs k = some (tokT bs k 2 sz 3) := by
 unfold fieldI; rw [h]; simp only; rw [if_neg hc, hi, if_neg (by simp), hN]; simp only; rw [if_pos (by exact ⟨trivial, trivial, hv⟩)]
theorem fieldI_none {bs r : List UInt8} {k : Nat} {c : UInt8} (h : bs.drop k = c :: r) (hc : c.toNat ≠ 91) (hi : identT false (c :: r) = 0) (hN : numT (c :: r) = none) : fieldI bs k = none := by
 unfold fieldI; rw [h]; simp only; rw [if_neg hc, hi, if_neg (by simp), hN]
theorem fieldI_bad {bs r : List UInt8} {k : Nat} {c : UInt8} {x : NT} (h : bs.drop k = c :: r) (hc : c.toNat ≠ 91) (hi : identT false (c :: r) = 0) (hN : numT (c :: r) = some x) (hx : ¬ (x.neg = false ∧ x.kind = 0 ∧ tenV 0 (numS x (c :: r)) ≤ 2147483647)) : fieldI bs k = none := by
 unfold fieldI; rw [h]; simp only; rw [if_neg hc, hi, if_neg (by simp), hN]; simp only; rw [if_neg hx]
theorem typeT_att {bs : List UInt8} {k k2 : Nat} {t : TT} (h : typeT bs k = some (t, k2)) : t.sep = false ∧ t.att ≤ 3 := by
 unfold typeT at h
 split at h
 ·cases h
 ·split at h
  ·injection h with h; injection h with h1 h2; subst h1; exact ⟨rfl, by show 2 ≤ 3; omega⟩
  ·cases h
theorem r_mkIface {S : World → Prop} {P : Program} {N : Nat} {D : List Deferred} {a : Act} {l : List (Nat × Value)} {ty : TypeId} {pos : String} {af : Array Edge} {dd : Option Tmp} {gd : Option (Nat × Bool)} {t : TypeId} {x : Operand} {v : Value} {ds : TypeDesc} (hu : P.underlying t = some ds) (hds : (match ds with | .interface _ => false | _ => true) = true) (H : Has N D a l) (hx : ev l x = some v) : ∀ w, S w → (execOp a.eval ⟨dd, .makeInterface t x, ty, pos, af, gd⟩).run P w = .ok (.value (.iface t v)) w := fun w _ => by
 have h1 := H.ev hx
 simp only [execOp, h1]
 cases ds <;> simp_all [Instr.makeInterface, run_underlying hu, Sem.run_bind, Result.andThen]
theorem pf_typename : PlainFn Tryz.prog 51 := ⟨_, Tryz.func51, by kernel_rfl, by kernel_rfl⟩
theorem pf_ctoken : PlainFn Tryz.prog 40 := ⟨_, Tryz.func40, by kernel_rfl, by kernel_rfl⟩
theorem pf_ident : PlainFn Tryz.prog 52 := ⟨_, Tryz.func52, by kernel_rfl, by kernel_rfl⟩
theorem pf_pint : PlainFn Tryz.prog 55 := ⟨_, Tryz.func55, by kernel_rfl, by kernel_rfl⟩
variable {B p g : Nat} {bs : List UInt8} {vr ve vst vo vi : Value} {s : DT} {w : World}
theorem field_err {a : Act} {l : List (Nat × Value)} {q1 q2 q3 : Nat} {te : TypeId} {xe c0 c1 c2 c3 c4 c5 : Value} {R : Ending → World → Prop} (H : Has 80 [{ target := .fn (.func 49) #[.pointer (some ⟨q3, 0, none⟩), .pointer (some ⟨q1, 0, none⟩), .pointer (some ⟨q2, 0, none⟩)], args := #[] }] a l)
  (l2 : look l 2 = some (.pointer (some ⟨q2, 0, none⟩))) (l3 : look l 3 = some (.pointer (some ⟨q3, 0, none⟩))) (h2 : RowAt w q2 [c0, c1, c2, c3, c4, c5]) (h3 : RowAt w q3 [.iface te xe]) (hR : R (.returned (.tuple #[.agg #[c0, c1, c2, c3, c4, c5], .iface te xe])) w) :
  bodyPostD Tryz.prog Tryz.f41 R .ret a w := by
 show Leaves Tryz.prog Tryz.f41 a.tmps R a.defers .returning w
 rw [H.defers]
 have e2 := H.get 2 _ l2
 have e3 := H.get 3 _ l3
 refine leaves_cons (f := 49) (args := #[.pointer (some ⟨q3, 0, none⟩), .pointer (some ⟨q1, 0, none⟩), .pointer (some ⟨q2, 0, none⟩)]) (by simp) (by simp [go_sem]) ?_
 refine (fieldEnd_err h3).mono ?_
 rintro e u' w'' ⟨rfl, rfl, rfl⟩
 exact ⟨_, results_two (by rfl) _ _ q2 q3 c0 c1 c2 c3 c4 c5 _ (by simp [e2]) (by simp [e3]) h2 (h3 0 _ rfl).1, hR⟩
theorem field_ok {a : Act} {l : List (Nat × Value)} {q1 q2 q3 : Nat} {w0 : World} {t : TT} {vt : Value} {R : Ending → World → Prop} (H : Has 80 [{ target := .fn (.func 49) #[.pointer (some ⟨q3, 0, none⟩), .pointer (some ⟨q1, 0, none⟩), .pointer (some ⟨q2, 0, none⟩)], args := #[] }] a l)
  (l2 : look l 2 = some (.pointer (some ⟨q2, 0, none⟩))) (l3 : look l 3 = some (.pointer (some ⟨q3, 0, none⟩))) (h : DW B p g bs vr ve vst vo vi s w) (hm : bs.length ≤ 90000000) (h3 : RowAt w q3 [.nilIface]) (h1 : RowAt w q1 [.pointer (some ⟨p, 0, none⟩)]) (h2 : RowAt w q2 (tokCells6 vt t)) (hv : View w g vt t.raw)
  (hsep : t.sep = false) (hat : t.att ≤ 3) (hq2 : q2 ≠ p) (hq3 : q3 ≠ p) (hq23 : q3 ≠ q2) (hpn : p < w0.heap.size) (hgn : g < w0.heap.size) (hon : ∀ k, vst.ownBlock = some k → k < w0.heap.size) (hqn : w0.heap.size ≤ q2) (g0 : w0.grownBy w (some p))
  (hR : ∀ w' vi' t' k', (t', k') = sepT bs (t, s.k) → DW B p g bs vr ve vst vo vi' { s with k := k' } w' → w0.grownBy w' (some p) → View w' g vt t'.raw → R (.returned (.tuple #[tokV vt t', .nilIface])) w') :
  bodyPostD Tryz.prog Tryz.f41 R .ret a w := by
 show Leaves Tryz.prog Tryz.f41 a.tmps R a.defers .returning w
 rw [H.defers]
 have e2 := H.get 2 _ l2
 have e3 := H.get 3 _ l3
 refine leaves_cons (f := 49) (args := #[.pointer (some ⟨q3, 0, none⟩), .pointer (some ⟨q1, 0, none⟩), .pointer (some ⟨q2, 0, none⟩)]) (by simp) (by simp [go_sem]) ?_
 refine (fieldEnd_ok h hm h3 h1 h2 hv hsep hat hq2 hq3 hq23 hpn hgn hon hqn).mono ?_
 rintro e u' w'' ⟨rfl, rfl, w1, vi', t', k', hk', hd', hr', h3', hg1, hg2, hv'⟩
 exact ⟨_, results_two (by rfl) _ _ q2 q3 _ _ _ _ _ _ _ (by simp [e2]) (by simp [e3]) hr' (h3' 0 _ rfl).1, hR _ _ _ _ hk' hd' (grownBy_then (grown_trans g0 hg1) (below_of_grown hg2 hqn (grown_trans g0 hg1).size)) hv'⟩
set_option maxRecDepth 100000 in
set_option maxHeartbeats 100000000 in
theorem parseField_any (h : DW B p g bs vr ve vst vo vi s w) (hm : bs.length ≤ 10000000) (c : UInt8) (r : List UInt8) (hbk : bs.drop s.k = c :: r) :
  Calls Tryz.prog 41 #[.pointer (some ⟨p, 0, none⟩)] w (ScRes B p g bs vr ve vst vo s w (fieldT bs s.k)) := by
 suffices key : ∀ Z, Hid (fieldT bs s.k = Z) → Calls Tryz.prog 41 #[.pointer (some ⟨p, 0, none⟩)] w (ScRes B p g bs vr ve vst vo s w Z) from key _ (hid rfl)
 intro Z HZ
 have hlp := h.lt
 have hgl := h.gl
 have hgp : g ≠ p := h.gp
 have HO := hid h.ownLt
 have h9 : 9 ≤ w.heap.size := by have := h.base; have := h.b9; omega
 have hle := h.le
 have hlk : (bs.drop s.k).length = bs.length - s.k := List.length_drop
 have hg0 : w.grownBy w (some p) := grownBy_below (Below.refl _ _) _
 have hlcr : s.k + (r.length + 1) = bs.length := by have := congrArg List.length hbk; simp at this; omega
 have hlI : (c :: r).length = r.length + 1 := rfl
 have bc := byte_bd c
 refine enterD1 (M := 80) Tryz.func41 rfl rfl rfl fun a H => ?_
 refine y_seq fun K1 hK1 => ?_
 refine y_reg ?_
 obtain ⟨q2, hq2⟩ : ∃ q, q = w.heap.size := ⟨_, rfl⟩
 refine y_boxRow rfl H rfl rfl fun w2 hr2 hb2 hs2 a H => ?_
 rw [← hq2] at H hr2
 have hz3 := Below.size hb2
 have hd4 := DW.below h hb2
 have hg5 := grownBy_then hg0 (Below.mono hb2 (by omega))
 obtain ⟨q6, hq6⟩ : ∃ q, q = w2.heap.size := ⟨_, rfl⟩
 refine y_allocRow alloc_tok H rfl fun w6 hr6 hb6 hs6 a H => ?_
 rw [← hq6] at H hr6
 have hz7 := Below.size hb6
 have hr8 := RowAt.below hr2 (by omega) hb6
 have hd9 := DW.below hd4 hb6
 have hg10 := grownBy_then hg5 (Below.mono hb6 (by omega))
 obtain ⟨q11, hq11⟩ : ∃ q, q = w6.heap.size := ⟨_, rfl⟩
 refine y_allocRow alloc_err H rfl fun w11 hr11 hb11 hs11 a H => ?_
 rw [← hq11] at H hr11
 have hz12 := Below.size hb11
 have hr13 := RowAt.below hr8 (by omega) hb11
 have hr14 := RowAt.below hr6 (by omega) hb11
 have hd15 := DW.below hd9 hb11
 have hg16 := grownBy_then hg10 (Below.mono hb11 (by omega))
 refine wpList_nil (then_normal (hK1 _ _ ?_))
 replace H := H.k4 0 1 2 3 rfl rfl rfl rfl
 refine y_seq fun K17 hK17 => ?_
 refine y_reg ?_
 refine y_makeFunc H rfl rfl fun a H => y_defer H rfl rfl fun a H => wpList_nil (then_normal (hK17 _ _ ?_))
 replace H := H.k4 0 1 2 3 rfl rfl rfl rfl
 refine y_seq fun K18 hK18 => ?_
 refine y_seq fun K19 hK19 => ?_
 refine y_reg ?_
 refine y_load onePtr H rfl (hr13 0 _ rfl).1 rfl fun a H => y_nilCheck H rfl rfl fun a H => y_field fld_in H rfl rfl fun a H => ?_
 have hvI20 : View w11 g vi (c :: r) := (DW.inn hd15).eq hbk
 refine y_load one22 H rfl (DW.c10 hd15).1 rfl fun a H => y_idx Tryz.underlying22 info5u H rfl rfl hvI20 (by decide) rfl rfl fun a ad H hc21 => ?_
 refine y_load one5 H rfl hc21 rfl fun a H => ?_
 by_cases q22 : ((c.toNat : Int)) = ((91 : Int))
 ·refine y_eql (b := true) H rfl rfl (ieq_t (by omega)) rfl fun a H => wpList_nil (then_normal (hK19 _ _ ?_))
  replace H := H.k5 0 1 2 3 16 rfl rfl rfl rfl rfl
  have h91 : c.toNat = 91 := by omega
  refine y_ift H rfl ?_
  refine y_seq fun K23 hK23 => ?_
  have Hs24 := H
  rcases hS : typeT bs s.k with _ | ⟨t, k2⟩
  ·have H := Hs24
   have hI : fieldI bs s.k = none := by rw [fieldI_type hbk h91, hS]
   refine y_reg ?_
   refine y_load onePtr H rfl (hr13 0 _ rfl).1 rfl fun a H => ?_
   have HP25 := parseTypeName_any hd15 (by omega) (by omega)
   rw [hS] at HP25
   refine y_call pf_typename H rfl rfl (Calls.mono HP25 ?_)
   rintro e w25 ⟨⟨te, xe, rfl⟩, hd25, hb25⟩
   refine ⟨_, rfl, fun a H => ?_⟩
   have hz26 := Below.size hb25
   have hr28 := RowAt.below hr14 (by omega) hb25
   have hr29 := RowAt.below hr11 (by omega) hb25
   have hd30 := DW.below hd15 hb25
   have hg31 := grownBy_then hg16 (Below.mono hb25 (by omega))
   refine y_extract H rfl rfl rfl fun a H => y_extract H rfl rfl rfl fun a H => y_storeRow (vs := [_, _, _, _, _, _]) H rfl rfl hr28 rfl (tok_size' _ _ _ _ _ _) (by simp [Value.oneCell']) fun w32 hr32 hg32 => ?_
   have hz33 := World.grownBy.size hg32
   have hB33 := below_of_grown (N := w.heap.size) hg32 (by omega) (by omega)
   have hr35 := RowAt.grown hr29 hg32 (by omega) (by omega)
   have hd36 := DW.belowAt hd30 w.heap.size hlp hgl HO.out hB33
   have hg37 := grownBy_then hg31 hB33
   refine y_storeCell (v := (.iface te xe)) err_size H rfl rfl rfl (hr35 0 _ rfl).1 (hr35 0 _ rfl).2 rfl ?_
   have hr38 := hr35.set 0 (by simp) (.iface te xe)
   have hg38 := grownBy_set w32 q11 0 (.iface te xe)
   generalize w32.setCell ⟨q11, 0, none⟩ (.iface te xe) = w38 at hr38 hg38 ⊢
   have hz39 := World.grownBy.size hg38
   have hB39 := below_of_grown (N := w.heap.size) hg38 (by omega) (by omega)
   have hr41 := RowAt.grown hr32 hg38 (by omega) (by omega)
   have hd42 := DW.belowAt hd36 w.heap.size hlp hgl HO.out hB39
   have hg43 := grownBy_then hg37 hB39
   refine wpList_nil (then_normal (hK23 _ _ ?_))
   replace H := H.k4 0 1 2 3 rfl rfl rfl rfl
   refine wp_ret (then_ret (?_))
   refine field_err H rfl rfl hr41 hr38 ?_
   rw [show Z = none from by rw [← HZ.out, fieldT_eq, hI]; rfl]
   exact ⟨⟨_, _, rfl⟩, ⟨_, _, hd42⟩, hg43⟩
  ·have H := Hs24
   have hI : fieldI bs s.k = some (t, k2) := by rw [fieldI_type hbk h91, hS]
   have htn := typeT_att hS
   refine y_reg ?_
   refine y_load onePtr H rfl (hr13 0 _ rfl).1 rfl fun a H => ?_
   have HP44 := parseTypeName_any hd15 (by omega) (by omega)
   rw [hS] at HP44
   refine y_call pf_typename H rfl rfl (Calls.mono HP44 ?_)
   rintro e w44 ⟨vt44, vi44, rfl, hvt44, hd44, hgc44⟩
   have Hs45 := H
   obtain ⟨ao44, n44, c44, rfl⟩ := View.slice3 hvt44
   have H := Hs45
   refine ⟨_, rfl, fun a H => ?_⟩
   have hz46 := World.grownBy.size hgc44
   have hr47 := RowAt.grown hr13 hgc44 (by omega) (by omega)
   have hr48 := RowAt.grown hr14 hgc44 (by omega) (by omega)
   have hr49 := RowAt.grown hr11 hgc44 (by omega) (by omega)
   have hg50 := grown_trans hg16 hgc44
   refine y_extract H rfl rfl rfl fun a H => y_extract H rfl rfl rfl fun a H => y_storeRow (vs := [_, _, _, _, _, _]) H rfl rfl hr48 rfl (tok_size' _ _ _ _ _ _) (by simp [Value.oneCell']) fun w51 hr51 hg51 => ?_
   have hz52 := World.grownBy.size hg51
   have hB52 := below_of_grown (N := w.heap.size) hg51 (by omega) (by omega)
   have hv53 := View.kept hvt44 (World.grownBy.block hg51 g (by omega) (fun e => by injection e with e; omega))
   have hr54 := RowAt.grown hr47 hg51 (by omega) (by omega)
   have hr55 := RowAt.grown hr49 hg51 (by omega) (by omega)
   have hd56 := DW.belowAt hd44 w.heap.size hlp hgl HO.out hB52
   have hg57 := grownBy_then hg50 hB52
   refine y_storeCell (v := .nilIface) err_size H rfl rfl rfl (hr55 0 _ rfl).1 (hr55 0 _ rfl).2 rfl ?_
   have hr58 := hr55.set 0 (by simp) .nilIface
   have hg58 := grownBy_set w51 q11 0 .nilIface
   generalize w51.setCell ⟨q11, 0, none⟩ .nilIface = w58 at hr58 hg58 ⊢
   have hz59 := World.grownBy.size hg58
   have hB59 := below_of_grown (N := w.heap.size) hg58 (by omega) (by omega)
   have hv60 := View.kept hv53 (World.grownBy.block hg58 g (by omega) (fun e => by injection e with e; omega))
   have hr61 := RowAt.grown hr54 hg58 (by omega) (by omega)
   have hr62 := RowAt.grown hr51 hg58 (by omega) (by omega)
   have hd63 := DW.belowAt hd56 w.heap.size hlp hgl HO.out hB59
   have hg64 := grownBy_then hg57 hB59
   refine wpList_nil (then_normal (hK23 _ _ ?_))
   replace H := H.k4 0 1 2 3 rfl rfl rfl rfl
   refine wp_ret (then_ret (?_))
   have hzz := World.grownBy.size hg64
   refine field_ok (w0 := w) (t := t) H rfl rfl hd63 (by omega) hr58 hr61 hr62 hv60 (htn.1) (htn.2) (by omega) (by omega) (by omega) hlp hgl HO.out (by omega) hg64 ?_
   rintro w9 vi9 t9 k9 ht9 hd9 hg9 hv9
   rw [show Z = some (t9, k9) from by rw [← HZ.out, fieldT_eq, hI]; exact congrArg some ht9.symm]
   exact ⟨_, _, rfl, hv9, hd9, hg9⟩
 ·refine y_eql (b := false) H rfl rfl (ieq_f (by omega)) rfl fun a H => wpList_nil (then_normal (hK19 _ _ ?_))
  replace H := H.k5 0 1 2 3 16 rfl rfl rfl rfl rfl
  have h91 : c.toNat ≠ 91 := by omega
  refine y_iff H rfl ?_
  refine wp_skip (then_normal (hK18 _ _ ?_))
  replace H := H.k4 0 1 2 3 rfl rfl rfl rfl
  refine y_seq fun K65 hK65 => ?_
  refine y_seq fun K66 hK66 => ?_
  refine y_reg ?_
  refine y_load onePtr H rfl (hr13 0 _ rfl).1 rfl fun a H => y_nilCheck H rfl rfl fun a H => y_field fld_in H rfl rfl fun a H => ?_
  have hvI67 : View w11 g vi (c :: r) := (DW.inn hd15).eq hbk
  refine y_load one22 H rfl (DW.c10 hd15).1 rfl fun a H => y_call pf_ident H rfl rfl (Calls.mono (parseIdent_any false _ _ g w11 hvI67 (by rw [hlI]; omega)) ?_)
  rintro e w68 ⟨rfl, rfl⟩
  refine ⟨_, rfl, fun a H => ?_⟩
  have hile := identT_le false (c :: r)
  have Hs69 := H
  rcases hid0 : identT false (c :: r) with _ | n0
  ·have H := Hs69
   rw [hid0] at H
   refine y_assign H rfl rfl fun a H => wpList_nil (then_normal (hK66 _ _ ?_))
   replace H := H.k5 0 1 2 3 4 rfl rfl rfl rfl rfl
   refine y_seq fun K70 hK70 => ?_
   refine y_reg ?_
   refine y_move H rfl rfl fun a H => y_gtr (b := false) H rfl rfl (decide_eq_false (by omega)) rfl fun a H => wpList_nil (then_normal (hK70 _ _ ?_))
   replace H := H.k6 0 1 2 3 4 27 rfl rfl rfl rfl rfl rfl
   refine y_iff H rfl ?_
   refine wp_skip (then_normal (hK65 _ _ ?_))
   replace H := H.k4 0 1 2 3 rfl rfl rfl rfl
   refine y_seq fun K71 hK71 => ?_
   refine y_seq fun K72 hK72 => ?_
   have Hs73 := H
   rcases hN : numT (c :: r) with _ | ⟨kd, neg, sz, sp⟩
   ·have H := Hs73
    have hI : fieldI bs s.k = none := fieldI_none hbk h91 hid0 hN
    refine y_reg ?_
    refine y_load onePtr H rfl (hr13 0 _ rfl).1 rfl fun a H => y_nilCheck H rfl rfl fun a H => y_field fld_in H rfl rfl fun a H => ?_
    have hvI74 : View w11 g vi (c :: r) := (DW.inn hd15).eq hbk
    refine y_load one22 H rfl (DW.c10 hd15).1 rfl fun a H => y_call pf_num H rfl rfl (Calls.mono (parseNumber_any _ _ g w11 hvI74 (by rw [hlI]; omega)) ?_)
    rintro e w75 ⟨rfl, hb75⟩
    refine ⟨_, rfl, fun a H => ?_⟩
    have hz76 := Below.size hb75
    have hr78 := RowAt.below hr13 (by omega) hb75
    have hr79 := RowAt.below hr14 (by omega) hb75
    have hr80 := RowAt.below hr11 (by omega) hb75
    have hd81 := DW.below hd15 hb75
    have hg82 := grownBy_then hg16 (Below.mono hb75 (by omega))
    rw [hN] at H
    obtain ⟨q83, hq83⟩ : ∃ q, q = w75.heap.size := ⟨_, rfl⟩
    refine y_allocRow alloc_num H rfl fun w83 hr83 hb83 hs83 a H => ?_
    rw [← hq83] at H hr83
    have hz84 := Below.size hb83
    have hr86 := RowAt.below hr78 (by omega) hb83
    have hr87 := RowAt.below hr79 (by omega) hb83
    have hr88 := RowAt.below hr80 (by omega) hb83
    have hd89 := DW.below hd81 hb83
    have hg90 := grownBy_then hg82 (Below.mono hb83 (by omega))
    refine y_storeRow (vs := [.int .u8 (0 : Int), .bool false, .int .i64 (0 : Int), .int .i64 (0 : Int)]) H rfl rfl hr83 rfl (num_size' _ _ _ _) (by simp [Value.oneCell']) fun w91 hr91 hg91 => ?_
    have hz92 := World.grownBy.size hg91
    have hB92 := below_of_grown (N := w.heap.size) hg91 (by omega) (by omega)
    have hr94 := RowAt.grown hr86 hg91 (by omega) (by omega)
    have hr95 := RowAt.grown hr87 hg91 (by omega) (by omega)
    have hr96 := RowAt.grown hr88 hg91 (by omega) (by omega)
    have hd97 := DW.belowAt hd89 w.heap.size hlp hgl HO.out hB92
    have hg98 := grownBy_then hg90 hB92
    refine wpList_nil (then_normal (hK72 _ _ ?_))
    replace H := H.k5 0 1 2 3 5 rfl rfl rfl rfl rfl
    refine y_seq fun K99 hK99 => ?_
    refine y_reg ?_
    refine y_field fld_nz H rfl rfl fun a H => y_load oneInt H rfl (hr91 2 _ rfl).1 rfl fun a H => y_gtr (b := false) H rfl rfl (by decide) rfl fun a H => wpList_nil (then_normal (hK99 _ _ ?_))
    replace H := H.k6 0 1 2 3 5 38 rfl rfl rfl rfl rfl rfl
    refine y_iff H rfl ?_
    refine wp_skip (then_normal (hK71 _ _ ?_))
    replace H := H.k4 0 1 2 3 rfl rfl rfl rfl
    refine y_seq fun K100 hK100 => ?_
    refine d_begin (fun w' => RowAt w' q2 [.pointer (some ⟨p, 0, none⟩)] ∧ w'.cell? ⟨p, 10, none⟩ = some vi) 12 mixedP rfl ?_
    have hbd101 : Below w91.heap.size w91 w91.drew := (Below.refl _ _).drew
    generalize w91.drew = wd101 at hbd101 ⊢
    have hz102 := Below.size hbd101
    have hr103 := RowAt.below hr94 (by omega) hbd101
    have hr104 := RowAt.below hr95 (by omega) hbd101
    have hr105 := RowAt.below hr96 (by omega) hbd101
    have hd107 := DW.below hd97 hbd101
    have hg108 := grownBy_then hg98 (Below.mono hbd101 (by omega))
    refine d_take 0 H rfl (by kernel_rfl) (by kernel_rfl) (by kernel_rfl) (r_bld built_tok0 H rfl) ⟨hr103, (DW.c10 hd107).1⟩ rfl fun a H => d_take 1 H rfl (by kernel_rfl) (by kernel_rfl) (by kernel_rfl) (r_load onePtr H rfl (fun _ h => (h.1 0 _ rfl).1)) ⟨hr103, (DW.c10 hd107).1⟩ rfl fun a H => d_take 2 H rfl (by kernel_rfl) (by kernel_rfl) (by kernel_rfl) (r_load onePtr H rfl (fun _ h => (h.1 0 _ rfl).1)) ⟨hr103, (DW.c10 hd107).1⟩ rfl fun a H => d_take 3 H rfl (by kernel_rfl) (by kernel_rfl) (by kernel_rfl) (r_nilCheck H rfl) ⟨hr103, (DW.c10 hd107).1⟩ rfl fun a H => d_take 4 H rfl (by kernel_rfl) (by kernel_rfl) (by kernel_rfl) (r_field fld_in H rfl) ⟨hr103, (DW.c10 hd107).1⟩ rfl fun a H => d_take 5 H rfl (by kernel_rfl) (by kernel_rfl) (by kernel_rfl) (r_load one22 H rfl (fun _ h => h.2)) ⟨hr103, (DW.c10 hd107).1⟩ rfl fun a H => ?_
    refine d_one 6 (by kernel_rfl) rfl rfl ?_
    refine y_call pf_errid H rfl rfl (Calls.mono (errId_any _ _ g wd101 ((DW.inn hd107).eq hbk) (by rw [hlI]; omega) (DW.glob hd107) (by omega)) ?_)
    rintro e w109 ⟨⟨v109, rfl⟩, hb109⟩
    refine ⟨_, rfl, fun a H => ?_⟩
    have hz110 := Below.size hb109
    have hr111 := RowAt.below hr103 (by omega) hb109
    have hr112 := RowAt.below hr104 (by omega) hb109
    have hr113 := RowAt.below hr105 (by omega) hb109
    have hd115 := DW.below hd107 hb109
    have hg116 := grownBy_then hg108 (Below.mono hb109 (by omega))
    refine wpList_nil ⟨⟨hr111, (DW.c10 hd115).1⟩, ?_⟩
    refine d_take 7 H rfl (by kernel_rfl) (by kernel_rfl) (by kernel_rfl) (r_mkIface Tryz.underlying22 rfl H rfl) ⟨hr111, (DW.c10 hd115).1⟩ rfl fun a H => ?_
    refine d_one 8 (by kernel_rfl) rfl rfl ?_
    refine y_any1 H rfl rfl fun w117 u117 hb117 a H => ?_
    have hz118 := Below.size hb117
    have hr119 := RowAt.below hr111 (by omega) hb117
    have hr120 := RowAt.below hr112 (by omega) hb117
    have hr121 := RowAt.below hr113 (by omega) hb117
    have hd123 := DW.below hd115 hb117
    have hg124 := grownBy_then hg116 (Below.mono hb117 (by omega))
    refine wpList_nil ⟨⟨hr119, (DW.c10 hd123).1⟩, ?_⟩
    refine d_one 9 (by kernel_rfl) rfl rfl ?_
    refine y_call pf_newerr H rfl rfl (Calls.mono (newError_any _ _ _ w117 (by decide)) ?_)
    rintro e w125 ⟨⟨xe, rfl⟩, hb125⟩
    refine ⟨_, rfl, fun a H => ?_⟩
    have hz126 := Below.size hb125
    have hr127 := RowAt.below hr119 (by omega) hb125
    have hr128 := RowAt.below hr120 (by omega) hb125
    have hr129 := RowAt.below hr121 (by omega) hb125
    have hd131 := DW.below hd123 hb125
    have hg132 := grownBy_then hg124 (Below.mono hb125 (by omega))
    refine wpList_nil ⟨⟨hr127, (DW.c10 hd131).1⟩, ?_⟩
    refine d_one 10 (by kernel_rfl) rfl rfl ?_
    refine y_storeRow (vs := [_, _, _, _, _, _]) H rfl rfl hr128 rfl (tok_size' _ _ _ _ _ _) (by simp [Value.oneCell']) fun w133 hr133 hg133 => ?_
    have hz134 := World.grownBy.size hg133
    have hB134 := below_of_grown (N := w.heap.size) hg133 (by omega) (by omega)
    have hr135 := RowAt.grown hr127 hg133 (by omega) (by omega)
    have hr136 := RowAt.grown hr129 hg133 (by omega) (by omega)
    have hd138 := DW.belowAt hd131 w.heap.size hlp hgl HO.out hB134
    have hg139 := grownBy_then hg132 hB134
    refine wpList_nil ⟨⟨hr135, (DW.c10 hd138).1⟩, ?_⟩
    refine d_one 11 (by kernel_rfl) rfl rfl ?_
    refine y_storeCell (v := (.iface 98 xe)) err_size H rfl rfl rfl (hr136 0 _ rfl).1 (hr136 0 _ rfl).2 rfl ?_
    have hr140 := hr136.set 0 (by simp) (.iface 98 xe)
    have hg140 := grownBy_set w133 q11 0 (.iface 98 xe)
    generalize w133.setCell ⟨q11, 0, none⟩ (.iface 98 xe) = w140 at hr140 hg140 ⊢
    have hz141 := World.grownBy.size hg140
    have hB141 := below_of_grown (N := w.heap.size) hg140 (by omega) (by omega)
    have hr142 := RowAt.grown hr135 hg140 (by omega) (by omega)
    have hr144 := RowAt.grown hr133 hg140 (by omega) (by omega)
    have hd145 := DW.belowAt hd138 w.heap.size hlp hgl HO.out hB141
    have hg146 := grownBy_then hg139 hB141
    refine wpList_nil ⟨⟨hr142, (DW.c10 hd145).1⟩, ?_⟩
    refine d_done (by kernel_rfl) (then_normal (hK100 _ _ ?_))
    replace H := H.k4 0 1 2 3 rfl rfl rfl rfl
    refine wp_ret (?_)
    refine field_err H rfl rfl hr144 hr140 ?_
    rw [show Z = none from by rw [← HZ.out, fieldT_eq, hI]; rfl]
    exact ⟨⟨_, _, rfl⟩, ⟨_, _, hd145⟩, hg146⟩
   ·have H := Hs73
    have hnz := numT_size hN
    have hkd := numT_kind hN
    simp only at hnz hkd
    have hnz1 := hnz.1
    have hnz2 := hnz.2.1
    rw [hlI] at hnz2
    have Hs147 := H
    cases neg with
    | true =>
     have H := Hs147
     refine y_reg ?_
     refine y_load onePtr H rfl (hr13 0 _ rfl).1 rfl fun a H => y_nilCheck H rfl rfl fun a H => y_field fld_in H rfl rfl fun a H => ?_
     have hvI148 : View w11 g vi (c :: r) := (DW.inn hd15).eq hbk
     refine y_load one22 H rfl (DW.c10 hd15).1 rfl fun a H => y_call pf_num H rfl rfl (Calls.mono (parseNumber_any _ _ g w11 hvI148 (by rw [hlI]; omega)) ?_)
     rintro e w149 ⟨rfl, hb149⟩
     refine ⟨_, rfl, fun a H => ?_⟩
     have hz150 := Below.size hb149
     have hr152 := RowAt.below hr13 (by omega) hb149
     have hr153 := RowAt.below hr14 (by omega) hb149
     have hr154 := RowAt.below hr11 (by omega) hb149
     have hd155 := DW.below hd15 hb149
     have hg156 := grownBy_then hg16 (Below.mono hb149 (by omega))
     rw [hN] at H
     obtain ⟨q157, hq157⟩ : ∃ q, q = w149.heap.size := ⟨_, rfl⟩
     refine y_allocRow alloc_num H rfl fun w157 hr157 hb157 hs157 a H => ?_
     rw [← hq157] at H hr157
     have hz158 := Below.size hb157
     have hr160 := RowAt.below hr152 (by omega) hb157
     have hr161 := RowAt.below hr153 (by omega) hb157
     have hr162 := RowAt.below hr154 (by omega) hb157
     have hd163 := DW.below hd155 hb157
     have hg164 := grownBy_then hg156 (Below.mono hb157 (by omega))
     refine y_storeRow (vs := [.int .u8 ((kd : Nat) : Int), .bool true, .int .i64 ((sz : Nat) : Int), .int .i64 ((sp : Nat) : Int)]) H rfl rfl hr157 rfl (num_size' _ _ _ _) (by simp [Value.oneCell']) fun w165 hr165 hg165 => ?_
     have hz166 := World.grownBy.size hg165
     have hB166 := below_of_grown (N := w.heap.size) hg165 (by omega) (by omega)
     have hr168 := RowAt.grown hr160 hg165 (by omega) (by omega)
     have hr169 := RowAt.grown hr161 hg165 (by omega) (by omega)
     have hr170 := RowAt.grown hr162 hg165 (by omega) (by omega)
     have hd171 := DW.belowAt hd163 w.heap.size hlp hgl HO.out hB166
     have hg172 := grownBy_then hg164 hB166
     refine wpList_nil (then_normal (hK72 _ _ ?_))
     replace H := H.k5 0 1 2 3 5 rfl rfl rfl rfl rfl
     refine y_seq fun K173 hK173 => ?_
     refine y_reg ?_
     refine y_field fld_nz H rfl rfl fun a H => y_load oneInt H rfl (hr165 2 _ rfl).1 rfl fun a H => y_gtr (b := true) H rfl rfl (decide_eq_true (by omega)) rfl fun a H => wpList_nil (then_normal (hK173 _ _ ?_))
     replace H := H.k6 0 1 2 3 5 38 rfl rfl rfl rfl rfl rfl
     refine y_ift H rfl ?_
     refine y_seq fun K174 hK174 => ?_
     refine d_begin (fun w' => RowAt w' q2 [.pointer (some ⟨p, 0, none⟩)] ∧ w'.cell? ⟨p, 10, none⟩ = some vi ∧ RowAt w' q157 [.int .u8 ((kd : Nat) : Int), .bool true, .int .i64 ((sz : Nat) : Int), .int .i64 ((sp : Nat) : Int)]) 7 mixedP rfl ?_
     have hbd175 : Below w165.heap.size w165 w165.drew := (Below.refl _ _).drew
     generalize w165.drew = wd175 at hbd175 ⊢
     have hz176 := Below.size hbd175
     have hr177 := RowAt.below hr168 (by omega) hbd175
     have hr178 := RowAt.below hr169 (by omega) hbd175
     have hr179 := RowAt.below hr170 (by omega) hbd175
     have hr180 := RowAt.below hr165 (by omega) hbd175
     have hd181 := DW.below hd171 hbd175
     have hg182 := grownBy_then hg172 (Below.mono hbd175 (by omega))
     refine d_take 0 H rfl (by kernel_rfl) (by kernel_rfl) (by kernel_rfl) (r_loadRow Tryz.underlying80 rfl (num_size _ rfl) H rfl (fun _ h j v hj => by rw [Nat.zero_add]; exact (h.2.2 j v hj).1)) ⟨hr177, (DW.c10 hd181).1, hr180⟩ rfl fun a H => d_take 1 H rfl (by kernel_rfl) (by kernel_rfl) (by kernel_rfl) (r_load onePtr H rfl (fun _ h => (h.1 0 _ rfl).1)) ⟨hr177, (DW.c10 hd181).1, hr180⟩ rfl fun a H => d_take 2 H rfl (by kernel_rfl) (by kernel_rfl) (by kernel_rfl) (r_nilCheck H rfl) ⟨hr177, (DW.c10 hd181).1, hr180⟩ rfl fun a H => d_take 3 H rfl (by kernel_rfl) (by kernel_rfl) (by kernel_rfl) (r_field fld_in H rfl) ⟨hr177, (DW.c10 hd181).1, hr180⟩ rfl fun a H => d_take 4 H rfl (by kernel_rfl) (by kernel_rfl) (by kernel_rfl) (r_load one22 H rfl (fun _ h => h.2.1)) ⟨hr177, (DW.c10 hd181).1, hr180⟩ rfl fun a H => ?_
     refine d_one 5 (by kernel_rfl) rfl rfl ?_
     have hvN183 : View wd175 g vi (c :: r) := (DW.inn hd181).eq hbk
     refine y_call pf_numstr H rfl rfl (Calls.mono (numString_any ⟨kd, true, sz, sp⟩ _ _ g wd175 hvN183 hN (by rw [hlI]; omega)) ?_)
     rintro e w183 ⟨rfl, hb183⟩
     refine ⟨_, rfl, fun a H => ?_⟩
     have hz184 := Below.size hb183
     have hr185 := RowAt.below hr177 (by omega) hb183
     have hr186 := RowAt.below hr178 (by omega) hb183
     have hr187 := RowAt.below hr179 (by omega) hb183
     have hr188 := RowAt.below hr180 (by omega) hb183
     have hd189 := DW.below hd181 hb183
     have hg190 := grownBy_then hg182 (Below.mono hb183 (by omega))
     refine wpList_nil ⟨⟨hr185, (DW.c10 hd189).1, hr188⟩, ?_⟩
     refine d_take 6 H rfl (by kernel_rfl) (by kernel_rfl) (by kernel_rfl) (r_assign H rfl) ⟨hr185, (DW.c10 hd189).1, hr188⟩ rfl fun a H => ?_
     refine d_done (by kernel_rfl) (then_normal (hK174 _ _ ?_))
     replace H := H.k6 0 1 2 3 5 6 rfl rfl rfl rfl rfl rfl
     refine y_seq fun K191 hK191 => ?_
     refine y_seq fun K192 hK192 => ?_
     have hI : fieldI bs s.k = none := fieldI_bad hbk h91 hid0 hN (fun h => by cases h.1)
     refine y_reg ?_
     refine y_field fld_nn H rfl rfl fun a H => y_load oneBool H rfl (hr188 1 _ rfl).1 rfl fun a H => y_not H rfl rfl fun a H => y_move H rfl rfl fun a H => y_off H rfl rfl rfl fun a H => y_off H rfl rfl rfl fun a H => y_off H rfl rfl rfl fun a H => y_pick H rfl rfl rfl fun a H => wpList_nil (then_normal (hK192 _ _ ?_))
     replace H := H.k7 0 1 2 3 5 6 52 rfl rfl rfl rfl rfl rfl rfl
     refine y_iff H rfl ?_
     refine wp_skip (then_normal (hK191 _ _ ?_))
     replace H := H.k5 0 1 2 3 6 rfl rfl rfl rfl rfl
     refine y_seq fun K193 hK193 => ?_
     refine y_reg ?_
     refine y_bld built_tok0 H rfl rfl fun a H => y_load onePtr H rfl (hr185 0 _ rfl).1 rfl fun a H => y_move H rfl rfl fun a H => y_mkIface Tryz.underlying9 rfl H rfl rfl fun a H => y_any1 H rfl rfl fun w194 u194 hb194 a H => ?_
     have hz195 := Below.size hb194
     have hr197 := RowAt.below hr186 (by omega) hb194
     have hr198 := RowAt.below hr187 (by omega) hb194
     have hd200 := DW.below hd189 hb194
     have hg201 := grownBy_then hg190 (Below.mono hb194 (by omega))
     refine y_call pf_newerr H rfl rfl (Calls.mono (newError_any _ _ _ w194 (by decide)) ?_)
     rintro e w202 ⟨⟨xe, rfl⟩, hb202⟩
     refine ⟨_, rfl, fun a H => ?_⟩
     have hz203 := Below.size hb202
     have hr205 := RowAt.below hr197 (by omega) hb202
     have hr206 := RowAt.below hr198 (by omega) hb202
     have hd208 := DW.below hd200 hb202
     have hg209 := grownBy_then hg201 (Below.mono hb202 (by omega))
     refine y_storeRow (vs := [_, _, _, _, _, _]) H rfl rfl hr205 rfl (tok_size' _ _ _ _ _ _) (by simp [Value.oneCell']) fun w210 hr210 hg210 => ?_
     have hz211 := World.grownBy.size hg210
     have hB211 := below_of_grown (N := w.heap.size) hg210 (by omega) (by omega)
     have hr213 := RowAt.grown hr206 hg210 (by omega) (by omega)
     have hd215 := DW.belowAt hd208 w.heap.size hlp hgl HO.out hB211
     have hg216 := grownBy_then hg209 hB211
     refine y_storeCell (v := (.iface 98 xe)) err_size H rfl rfl rfl (hr213 0 _ rfl).1 (hr213 0 _ rfl).2 rfl ?_
     have hr217 := hr213.set 0 (by simp) (.iface 98 xe)
     have hg217 := grownBy_set w210 q11 0 (.iface 98 xe)
     generalize w210.setCell ⟨q11, 0, none⟩ (.iface 98 xe) = w217 at hr217 hg217 ⊢
     have hz218 := World.grownBy.size hg217
     have hB218 := below_of_grown (N := w.heap.size) hg217 (by omega) (by omega)
     have hr221 := RowAt.grown hr210 hg217 (by omega) (by omega)
     have hd222 := DW.belowAt hd215 w.heap.size hlp hgl HO.out hB218
     have hg223 := grownBy_then hg216 hB218
     refine wpList_nil (then_normal (hK193 _ _ ?_))
     replace H := H.k4 0 1 2 3 rfl rfl rfl rfl
     refine wp_ret (then_ret (?_))
     refine field_err H rfl rfl hr221 hr217 ?_
     rw [show Z = none from by rw [← HZ.out, fieldT_eq, hI]; rfl]
     exact ⟨⟨_, _, rfl⟩, ⟨_, _, hd222⟩, hg223⟩
    | false =>
     have H := Hs147
     refine y_reg ?_
     refine y_load onePtr H rfl (hr13 0 _ rfl).1 rfl fun a H => y_nilCheck H rfl rfl fun a H => y_field fld_in H rfl rfl fun a H => ?_
     have hvI224 : View w11 g vi (c :: r) := (DW.inn hd15).eq hbk
     refine y_load one22 H rfl (DW.c10 hd15).1 rfl fun a H => y_call pf_num H rfl rfl (Calls.mono (parseNumber_any _ _ g w11 hvI224 (by rw [hlI]; omega)) ?_)
     rintro e w225 ⟨rfl, hb225⟩
     refine ⟨_, rfl, fun a H => ?_⟩
     have hz226 := Below.size hb225
     have hr228 := RowAt.below hr13 (by omega) hb225
     have hr229 := RowAt.below hr14 (by omega) hb225
     have hr230 := RowAt.below hr11 (by omega) hb225
     have hd231 := DW.below hd15 hb225
     have hg232 := grownBy_then hg16 (Below.mono hb225 (by omega))
     rw [hN] at H
     obtain ⟨q233, hq233⟩ : ∃ q, q = w225.heap.size := ⟨_, rfl⟩
     refine y_allocRow alloc_num H rfl fun w233 hr233 hb233 hs233 a H => ?_
     rw [← hq233] at H hr233
     have hz234 := Below.size hb233
     have hr236 := RowAt.below hr228 (by omega) hb233
     have hr237 := RowAt.below hr229 (by omega) hb233
     have hr238 := RowAt.below hr230 (by omega) hb233
     have hd239 := DW.below hd231 hb233
     have hg240 := grownBy_then hg232 (Below.mono hb233 (by omega))
     refine y_storeRow (vs := [.int .u8 ((kd : Nat) : Int), .bool false, .int .i64 ((sz : Nat) : Int), .int .i64 ((sp : Nat) : Int)]) H rfl rfl hr233 rfl (num_size' _ _ _ _) (by simp [Value.oneCell']) fun w241 hr241 hg241 => ?_
     have hz242 := World.grownBy.size hg241
     have hB242 := below_of_grown (N := w.heap.size) hg241 (by omega) (by omega)
     have hr244 := RowAt.grown hr236 hg241 (by omega) (by omega)
     have hr245 := RowAt.grown hr237 hg241 (by omega) (by omega)
     have hr246 := RowAt.grown hr238 hg241 (by omega) (by omega)
     have hd247 := DW.belowAt hd239 w.heap.size hlp hgl HO.out hB242
     have hg248 := grownBy_then hg240 hB242
     refine wpList_nil (then_normal (hK72 _ _ ?_))
     replace H := H.k5 0 1 2 3 5 rfl rfl rfl rfl rfl
     refine y_seq fun K249 hK249 => ?_
     refine y_reg ?_
     refine y_field fld_nz H rfl rfl fun a H => y_load oneInt H rfl (hr241 2 _ rfl).1 rfl fun a H => y_gtr (b := true) H rfl rfl (decide_eq_true (by omega)) rfl fun a H => wpList_nil (then_normal (hK249 _ _ ?_))
     replace H := H.k6 0 1 2 3 5 38 rfl rfl rfl rfl rfl rfl
     refine y_ift H rfl ?_
     refine y_seq fun K250 hK250 => ?_
     refine d_begin (fun w' => RowAt w' q2 [.pointer (some ⟨p, 0, none⟩)] ∧ w'.cell? ⟨p, 10, none⟩ = some vi ∧ RowAt w' q233 [.int .u8 ((kd : Nat) : Int), .bool false, .int .i64 ((sz : Nat) : Int), .int .i64 ((sp : Nat) : Int)]) 7 mixedP rfl ?_
     have hbd251 : Below w241.heap.size w241 w241.drew := (Below.refl _ _).drew
     generalize w241.drew = wd251 at hbd251 ⊢
     have hz252 := Below.size hbd251
     have hr253 := RowAt.below hr244 (by omega) hbd251
     have hr254 := RowAt.below hr245 (by omega) hbd251
     have hr255 := RowAt.below hr246 (by omega) hbd251
     have hr256 := RowAt.below hr241 (by omega) hbd251
     have hd257 := DW.below hd247 hbd251
     have hg258 := grownBy_then hg248 (Below.mono hbd251 (by omega))
     refine d_take 0 H rfl (by kernel_rfl) (by kernel_rfl) (by kernel_rfl) (r_loadRow Tryz.underlying80 rfl (num_size _ rfl) H rfl (fun _ h j v hj => by rw [Nat.zero_add]; exact (h.2.2 j v hj).1)) ⟨hr253, (DW.c10 hd257).1, hr256⟩ rfl fun a H => d_take 1 H rfl (by kernel_rfl) (by kernel_rfl) (by kernel_rfl) (r_load onePtr H rfl (fun _ h => (h.1 0 _ rfl).1)) ⟨hr253, (DW.c10 hd257).1, hr256⟩ rfl fun a H => d_take 2 H rfl (by kernel_rfl) (by kernel_rfl) (by kernel_rfl) (r_nilCheck H rfl) ⟨hr253, (DW.c10 hd257).1, hr256⟩ rfl fun a H => d_take 3 H rfl (by kernel_rfl) (by kernel_rfl) (by kernel_rfl) (r_field fld_in H rfl) ⟨hr253, (DW.c10 hd257).1, hr256⟩ rfl fun a H => d_take 4 H rfl (by kernel_rfl) (by kernel_rfl) (by kernel_rfl) (r_load one22 H rfl (fun _ h => h.2.1)) ⟨hr253, (DW.c10 hd257).1, hr256⟩ rfl fun a H => ?_
     refine d_one 5 (by kernel_rfl) rfl rfl ?_
     have hvN259 : View wd251 g vi (c :: r) := (DW.inn hd257).eq hbk
     refine y_call pf_numstr H rfl rfl (Calls.mono (numString_any ⟨kd, false, sz, sp⟩ _ _ g wd251 hvN259 hN (by rw [hlI]; omega)) ?_)
     rintro e w259 ⟨rfl, hb259⟩
     refine ⟨_, rfl, fun a H => ?_⟩
     have hz260 := Below.size hb259
     have hr261 := RowAt.below hr253 (by omega) hb259
     have hr262 := RowAt.below hr254 (by omega) hb259
     have hr263 := RowAt.below hr255 (by omega) hb259
     have hr264 := RowAt.below hr256 (by omega) hb259
     have hd265 := DW.below hd257 hb259
     have hg266 := grownBy_then hg258 (Below.mono hb259 (by omega))
     refine wpList_nil ⟨⟨hr261, (DW.c10 hd265).1, hr264⟩, ?_⟩
     refine d_take 6 H rfl (by kernel_rfl) (by kernel_rfl) (by kernel_rfl) (r_assign H rfl) ⟨hr261, (DW.c10 hd265).1, hr264⟩ rfl fun a H => ?_
     refine d_done (by kernel_rfl) (then_normal (hK250 _ _ ?_))
     replace H := H.k6 0 1 2 3 5 6 rfl rfl rfl rfl rfl rfl
     refine y_seq fun K267 hK267 => ?_
     refine y_seq fun K268 hK268 => ?_
     have Hs269 := H
     by_cases hk0 : kd = 0
     ·have H := Hs269
      subst hk0
      refine y_reg ?_
      refine y_field fld_nn H rfl rfl fun a H => y_load oneBool H rfl (hr264 1 _ rfl).1 rfl fun a H => y_not H rfl rfl fun a H => y_move H rfl rfl fun a H => y_on H rfl rfl ?_
      refine y_field fld_nk H rfl rfl fun a H => y_on H rfl rfl ?_
      refine y_load one5 H rfl (hr264 0 _ rfl).1 rfl fun a H => y_on H rfl rfl ?_
      refine y_eql (b := true) H rfl rfl (ieq_t (by omega)) rfl fun a H => y_pick H rfl rfl rfl fun a H => wpList_nil (then_normal (hK268 _ _ ?_))
      replace H := H.k7 0 1 2 3 5 6 52 rfl rfl rfl rfl rfl rfl rfl
      refine y_ift H rfl ?_
      refine y_seq fun K270 hK270 => ?_
      refine y_reg ?_
      refine y_move H rfl rfl fun a H => ?_
      obtain ⟨hS1, hS2⟩ := numT_dec hN rfl rfl
      have hne : numS ⟨0, false, sz, sp⟩ (c :: r) ≠ [] := by
       rw [hS1]
       intro h0
       have := congrArg List.length h0
       simp at this
       omega
      have hsl : (numS ⟨0, false, sz, sp⟩ (c :: r)).length ≤ r.length + 1 := by rw [hS1]; simp; omega
      have hint := int32_digits hne (by rw [hS1]; exact hS2)
      by_cases hv : tenV 0 (numS ⟨0, false, sz, sp⟩ (c :: r)) ≤ 2147483647
      ·rw [if_pos hv] at hint
       refine y_call pf_pint H rfl rfl (Calls.mono (Tryz.strconv_ParseInt_10_at32_ok _ (by show (ByteArray.mk _).size ≤ _; rw [size_mk]; omega) _ (by rw [data_mk]; exact hint) w259) ?_)
       rintro e w271 ⟨rfl, hw271⟩
       have hb271 : Below w259.heap.size w259 w271 := by
        rcases hw271 with rfl | ⟨_, rfl⟩
        ·exact Below.refl _ _
        ·exact Lib.bytesWorld_below _ _ _
       refine ⟨_, rfl, fun a H => ?_⟩
       have hz272 := Below.size hb271
       have hr273 := RowAt.below hr261 (by omega) hb271
       have hr274 := RowAt.below hr262 (by omega) hb271
       have hr275 := RowAt.below hr263 (by omega) hb271
       have hr276 := RowAt.below hr264 (by omega) hb271
       have hd277 := DW.below hd265 hb271
       have hg278 := grownBy_then hg266 (Below.mono hb271 (by omega))
       have hI : fieldI bs s.k = some (tokT bs s.k 2 sz 3) := fieldI_num hbk h91 hid0 hN hv
       refine y_move H rfl rfl fun a H => y_extract H rfl rfl rfl fun a H => y_extract H rfl rfl rfl fun a H => y_assign H rfl rfl fun a H => y_assign H rfl rfl fun a H => wpList_nil (then_normal (hK270 _ _ ?_))
       replace H := H.k7 0 1 2 3 5 6 8 rfl rfl rfl rfl rfl rfl rfl
       refine y_seq fun K279 hK279 => ?_
       refine y_reg ?_
       refine y_move H rfl rfl fun a H => y_eqNil (b := true) H rfl (.inl ⟨rfl, rfl⟩) rfl fun a H => wpList_nil (then_normal (hK279 _ _ ?_))
       replace H := H.k7 0 1 2 3 5 6 59 rfl rfl rfl rfl rfl rfl rfl
       refine y_ift H rfl ?_
       refine y_seq fun K280 hK280 => ?_
       refine y_reg ?_
       refine y_load onePtr H rfl (hr273 0 _ rfl).1 rfl fun a H => y_field fld_nz H rfl rfl fun a H => y_load oneInt H rfl (hr276 2 _ rfl).1 rfl fun a H => ?_
       have HP281 := consumeToken_any _ 2 3 sz w271 hd277 (by show s.k + _ ≤ bs.length; omega) (by omega)
       refine y_call pf_ctoken H rfl rfl (Calls.mono HP281 ?_)
       rintro e w281 ⟨vt281, vi281, rfl, hvt281, hd281, hgc281⟩
       have Hs282 := H
       obtain ⟨ao281, n281, c281, rfl⟩ := View.slice3 hvt281
       have H := Hs282
       refine ⟨_, rfl, fun a H => ?_⟩
       have hz283 := World.grownBy.size hgc281
       have hr284 := RowAt.grown hr273 hgc281 (by omega) (by omega)
       have hr285 := RowAt.grown hr274 hgc281 (by omega) (by omega)
       have hr286 := RowAt.grown hr275 hgc281 (by omega) (by omega)
       have hg288 := grown_trans hg278 hgc281
       refine y_storeRow (vs := [_, _, _, _, _, _]) H rfl rfl hr285 rfl (tok_size' _ _ _ _ _ _) (by simp [Value.oneCell']) fun w289 hr289 hg289 => ?_
       have hz290 := World.grownBy.size hg289
       have hB290 := below_of_grown (N := w.heap.size) hg289 (by omega) (by omega)
       have hv291 := View.kept hvt281 (World.grownBy.block hg289 g (by omega) (fun e => by injection e with e; omega))
       have hr292 := RowAt.grown hr284 hg289 (by omega) (by omega)
       have hr293 := RowAt.grown hr286 hg289 (by omega) (by omega)
       have hd295 := DW.belowAt hd281 w.heap.size hlp hgl HO.out hB290
       have hg296 := grownBy_then hg288 hB290
       refine y_storeCell (v := .nilIface) err_size H rfl rfl rfl (hr293 0 _ rfl).1 (hr293 0 _ rfl).2 rfl ?_
       have hr297 := hr293.set 0 (by simp) .nilIface
       have hg297 := grownBy_set w289 q11 0 .nilIface
       generalize w289.setCell ⟨q11, 0, none⟩ .nilIface = w297 at hr297 hg297 ⊢
       have hz298 := World.grownBy.size hg297
       have hB298 := below_of_grown (N := w.heap.size) hg297 (by omega) (by omega)
       have hv299 := View.kept hv291 (World.grownBy.block hg297 g (by omega) (fun e => by injection e with e; omega))
       have hr300 := RowAt.grown hr292 hg297 (by omega) (by omega)
       have hr302 := RowAt.grown hr289 hg297 (by omega) (by omega)
       have hd303 := DW.belowAt hd295 w.heap.size hlp hgl HO.out hB298
       have hg304 := grownBy_then hg296 hB298
       refine wpList_nil (then_normal (hK280 _ _ ?_))
       replace H := H.k5 0 1 2 3 6 rfl rfl rfl rfl rfl
       refine wp_ret (then_ret (then_ret (?_)))
       have hzz := World.grownBy.size hg304
       refine field_ok (w0 := w) (t := (tokT bs s.k 2 sz 3).1) H rfl rfl hd303 (by omega) hr297 hr300 hr302 hv299 (rfl) (by show (3 : Nat) ≤ 3; omega) (by omega) (by omega) (by omega) hlp hgl HO.out (by omega) hg304 ?_
       rintro w9 vi9 t9 k9 ht9 hd9 hg9 hv9
       rw [show Z = some (t9, k9) from by rw [← HZ.out, fieldT_eq, hI]; exact congrArg some ht9.symm]
       exact ⟨_, _, rfl, hv9, hd9, hg9⟩
      ·rw [if_neg hv] at hint
       obtain ⟨tR, xR, hcR⟩ := (DW.glob hd265).rng
       refine y_call pf_pint H rfl rfl (Calls.mono (Tryz.strconv_ParseInt_10_at32_range _ (by show (ByteArray.mk _).size ≤ _; rw [size_mk]; omega) (by rw [data_mk]; exact hint) (.iface tR xR) w259 hcR (.inr ⟨_, _, rfl⟩)) ?_)
       rintro e w271 ⟨_, rfl, _, _, hb271⟩
       refine ⟨_, rfl, fun a H => ?_⟩
       have hz305 := Below.size hb271
       have hr306 := RowAt.below hr261 (by omega) hb271
       have hr307 := RowAt.below hr262 (by omega) hb271
       have hr308 := RowAt.below hr263 (by omega) hb271
       have hd310 := DW.below hd265 hb271
       have hg311 := grownBy_then hg266 (Below.mono hb271 (by omega))
       have hI : fieldI bs s.k = none := fieldI_bad hbk h91 hid0 hN (fun h => hv h.2.2)
       refine y_move H rfl rfl fun a H => y_extract H rfl rfl rfl fun a H => y_extract H rfl rfl rfl fun a H => y_assign H rfl rfl fun a H => y_assign H rfl rfl fun a H => wpList_nil (then_normal (hK270 _ _ ?_))
       replace H := H.k7 0 1 2 3 5 6 8 rfl rfl rfl rfl rfl rfl rfl
       refine y_seq fun K312 hK312 => ?_
       refine y_reg ?_
       refine y_move H rfl rfl fun a H => y_eqNil (b := false) H rfl (.inr ⟨_, _, rfl, rfl⟩) rfl fun a H => wpList_nil (then_normal (hK312 _ _ ?_))
       replace H := H.k7 0 1 2 3 5 6 59 rfl rfl rfl rfl rfl rfl rfl
       refine y_iff H rfl ?_
       refine wp_skip (then_normal (hK267 _ _ ?_))
       replace H := H.k5 0 1 2 3 6 rfl rfl rfl rfl rfl
       refine y_seq fun K313 hK313 => ?_
       refine y_reg ?_
       refine y_bld built_tok0 H rfl rfl fun a H => y_load onePtr H rfl (hr306 0 _ rfl).1 rfl fun a H => y_move H rfl rfl fun a H => y_mkIface Tryz.underlying9 rfl H rfl rfl fun a H => y_any1 H rfl rfl fun w314 u314 hb314 a H => ?_
       have hz315 := Below.size hb314
       have hr317 := RowAt.below hr307 (by omega) hb314
       have hr318 := RowAt.below hr308 (by omega) hb314
       have hd320 := DW.below hd310 hb314
       have hg321 := grownBy_then hg311 (Below.mono hb314 (by omega))
       refine y_call pf_newerr H rfl rfl (Calls.mono (newError_any _ _ _ w314 (by decide)) ?_)
       rintro e w322 ⟨⟨xe, rfl⟩, hb322⟩
       refine ⟨_, rfl, fun a H => ?_⟩
       have hz323 := Below.size hb322
       have hr325 := RowAt.below hr317 (by omega) hb322
       have hr326 := RowAt.below hr318 (by omega) hb322
       have hd328 := DW.below hd320 hb322
       have hg329 := grownBy_then hg321 (Below.mono hb322 (by omega))
       refine y_storeRow (vs := [_, _, _, _, _, _]) H rfl rfl hr325 rfl (tok_size' _ _ _ _ _ _) (by simp [Value.oneCell']) fun w330 hr330 hg330 => ?_
       have hz331 := World.grownBy.size hg330
       have hB331 := below_of_grown (N := w.heap.size) hg330 (by omega) (by omega)
       have hr333 := RowAt.grown hr326 hg330 (by omega) (by omega)
       have hd335 := DW.belowAt hd328 w.heap.size hlp hgl HO.out hB331
       have hg336 := grownBy_then hg329 hB331
       refine y_storeCell (v := (.iface 98 xe)) err_size H rfl rfl rfl (hr333 0 _ rfl).1 (hr333 0 _ rfl).2 rfl ?_
       have hr337 := hr333.set 0 (by simp) (.iface 98 xe)
       have hg337 := grownBy_set w330 q11 0 (.iface 98 xe)
       generalize w330.setCell ⟨q11, 0, none⟩ (.iface 98 xe) = w337 at hr337 hg337 ⊢
       have hz338 := World.grownBy.size hg337
       have hB338 := below_of_grown (N := w.heap.size) hg337 (by omega) (by omega)
       have hr341 := RowAt.grown hr330 hg337 (by omega) (by omega)
       have hd342 := DW.belowAt hd335 w.heap.size hlp hgl HO.out hB338
       have hg343 := grownBy_then hg336 hB338
       refine wpList_nil (then_normal (hK313 _ _ ?_))
       replace H := H.k4 0 1 2 3 rfl rfl rfl rfl
       refine wp_ret (then_ret (?_))
       refine field_err H rfl rfl hr341 hr337 ?_
       rw [show Z = none from by rw [← HZ.out, fieldT_eq, hI]; rfl]
       exact ⟨⟨_, _, rfl⟩, ⟨_, _, hd342⟩, hg343⟩
     ·have H := Hs269
      have hI : fieldI bs s.k = none := fieldI_bad hbk h91 hid0 hN (fun h => hk0 h.2.1)
      refine y_reg ?_
      refine y_field fld_nn H rfl rfl fun a H => y_load oneBool H rfl (hr264 1 _ rfl).1 rfl fun a H => y_not H rfl rfl fun a H => y_move H rfl rfl fun a H => y_on H rfl rfl ?_
      refine y_field fld_nk H rfl rfl fun a H => y_on H rfl rfl ?_
      refine y_load one5 H rfl (hr264 0 _ rfl).1 rfl fun a H => y_on H rfl rfl ?_
      refine y_eql (b := false) H rfl rfl (ieq_f (by omega)) rfl fun a H => y_pick H rfl rfl rfl fun a H => wpList_nil (then_normal (hK268 _ _ ?_))
      replace H := H.k7 0 1 2 3 5 6 52 rfl rfl rfl rfl rfl rfl rfl
      refine y_iff H rfl ?_
      refine wp_skip (then_normal (hK267 _ _ ?_))
      replace H := H.k5 0 1 2 3 6 rfl rfl rfl rfl rfl
      refine y_seq fun K344 hK344 => ?_
      refine y_reg ?_
      refine y_bld built_tok0 H rfl rfl fun a H => y_load onePtr H rfl (hr261 0 _ rfl).1 rfl fun a H => y_move H rfl rfl fun a H => y_mkIface Tryz.underlying9 rfl H rfl rfl fun a H => y_any1 H rfl rfl fun w345 u345 hb345 a H => ?_
      have hz346 := Below.size hb345
      have hr348 := RowAt.below hr262 (by omega) hb345
      have hr349 := RowAt.below hr263 (by omega) hb345
      have hd351 := DW.below hd265 hb345
      have hg352 := grownBy_then hg266 (Below.mono hb345 (by omega))
      refine y_call pf_newerr H rfl rfl (Calls.mono (newError_any _ _ _ w345 (by decide)) ?_)
      rintro e w353 ⟨⟨xe, rfl⟩, hb353⟩
      refine ⟨_, rfl, fun a H => ?_⟩
      have hz354 := Below.size hb353
      have hr356 := RowAt.below hr348 (by omega) hb353
      have hr357 := RowAt.below hr349 (by omega) hb353
      have hd359 := DW.below hd351 hb353
      have hg360 := grownBy_then hg352 (Below.mono hb353 (by omega))
      refine y_storeRow (vs := [_, _, _, _, _, _]) H rfl rfl hr356 rfl (tok_size' _ _ _ _ _ _) (by simp [Value.oneCell']) fun w361 hr361 hg361 => ?_
      have hz362 := World.grownBy.size hg361
      have hB362 := below_of_grown (N := w.heap.size) hg361 (by omega) (by omega)
      have hr364 := RowAt.grown hr357 hg361 (by omega) (by omega)
      have hd366 := DW.belowAt hd359 w.heap.size hlp hgl HO.out hB362
      have hg367 := grownBy_then hg360 hB362
      refine y_storeCell (v := (.iface 98 xe)) err_size H rfl rfl rfl (hr364 0 _ rfl).1 (hr364 0 _ rfl).2 rfl ?_
      have hr368 := hr364.set 0 (by simp) (.iface 98 xe)
      have hg368 := grownBy_set w361 q11 0 (.iface 98 xe)
      generalize w361.setCell ⟨q11, 0, none⟩ (.iface 98 xe) = w368 at hr368 hg368 ⊢
      have hz369 := World.grownBy.size hg368
      have hB369 := below_of_grown (N := w.heap.size) hg368 (by omega) (by omega)
      have hr372 := RowAt.grown hr361 hg368 (by omega) (by omega)
      have hd373 := DW.belowAt hd366 w.heap.size hlp hgl HO.out hB369
      have hg374 := grownBy_then hg367 hB369
      refine wpList_nil (then_normal (hK344 _ _ ?_))
      replace H := H.k4 0 1 2 3 rfl rfl rfl rfl
      refine wp_ret (then_ret (?_))
      refine field_err H rfl rfl hr372 hr368 ?_
      rw [show Z = none from by rw [← HZ.out, fieldT_eq, hI]; rfl]
      exact ⟨⟨_, _, rfl⟩, ⟨_, _, hd373⟩, hg374⟩
  ·have H := Hs69
   rw [hid0] at H
   rw [hid0] at hile
   refine y_assign H rfl rfl fun a H => wpList_nil (then_normal (hK66 _ _ ?_))
   replace H := H.k5 0 1 2 3 4 rfl rfl rfl rfl rfl
   refine y_seq fun K375 hK375 => ?_
   refine y_reg ?_
   refine y_move H rfl rfl fun a H => y_gtr (b := true) H rfl rfl (decide_eq_true (by omega)) rfl fun a H => wpList_nil (then_normal (hK375 _ _ ?_))
   replace H := H.k6 0 1 2 3 4 27 rfl rfl rfl rfl rfl rfl
   refine y_ift H rfl ?_
   refine y_seq fun K376 hK376 => ?_
   have hI : fieldI bs s.k = some (tokT bs s.k 2 (n0 + 1) 1) := fieldI_ident hbk h91 hid0
   refine y_reg ?_
   refine y_load onePtr H rfl (hr13 0 _ rfl).1 rfl fun a H => y_move H rfl rfl fun a H => ?_
   have HP377 := consumeToken_any _ 2 1 (n0 + 1) w11 hd15 (by show s.k + _ ≤ bs.length; omega) (by omega)
   refine y_call pf_ctoken H rfl rfl (Calls.mono HP377 ?_)
   rintro e w377 ⟨vt377, vi377, rfl, hvt377, hd377, hgc377⟩
   have Hs378 := H
   obtain ⟨ao377, n377, c377, rfl⟩ := View.slice3 hvt377
   have H := Hs378
   refine ⟨_, rfl, fun a H => ?_⟩
   have hz379 := World.grownBy.size hgc377
   have hr380 := RowAt.grown hr13 hgc377 (by omega) (by omega)
   have hr381 := RowAt.grown hr14 hgc377 (by omega) (by omega)
   have hr382 := RowAt.grown hr11 hgc377 (by omega) (by omega)
   have hg383 := grown_trans hg16 hgc377
   refine y_storeRow (vs := [_, _, _, _, _, _]) H rfl rfl hr381 rfl (tok_size' _ _ _ _ _ _) (by simp [Value.oneCell']) fun w384 hr384 hg384 => ?_
   have hz385 := World.grownBy.size hg384
   have hB385 := below_of_grown (N := w.heap.size) hg384 (by omega) (by omega)
   have hv386 := View.kept hvt377 (World.grownBy.block hg384 g (by omega) (fun e => by injection e with e; omega))
   have hr387 := RowAt.grown hr380 hg384 (by omega) (by omega)
   have hr388 := RowAt.grown hr382 hg384 (by omega) (by omega)
   have hd389 := DW.belowAt hd377 w.heap.size hlp hgl HO.out hB385
   have hg390 := grownBy_then hg383 hB385
   refine y_storeCell (v := .nilIface) err_size H rfl rfl rfl (hr388 0 _ rfl).1 (hr388 0 _ rfl).2 rfl ?_
   have hr391 := hr388.set 0 (by simp) .nilIface
   have hg391 := grownBy_set w384 q11 0 .nilIface
   generalize w384.setCell ⟨q11, 0, none⟩ .nilIface = w391 at hr391 hg391 ⊢
   have hz392 := World.grownBy.size hg391
   have hB392 := below_of_grown (N := w.heap.size) hg391 (by omega) (by omega)
   have hv393 := View.kept hv386 (World.grownBy.block hg391 g (by omega) (fun e => by injection e with e; omega))
   have hr394 := RowAt.grown hr387 hg391 (by omega) (by omega)
   have hr395 := RowAt.grown hr384 hg391 (by omega) (by omega)
   have hd396 := DW.belowAt hd389 w.heap.size hlp hgl HO.out hB392
   have hg397 := grownBy_then hg390 hB392
   refine wpList_nil (then_normal (hK376 _ _ ?_))
   replace H := H.k4 0 1 2 3 rfl rfl rfl rfl
   refine wp_ret (then_ret (?_))
   have hzz := World.grownBy.size hg397
   refine field_ok (w0 := w) (t := (tokT bs s.k 2 (n0 + 1) 1).1) H rfl rfl hd396 (by omega) hr391 hr394 hr395 hv393 (rfl) (by show (1 : Nat) ≤ 3; omega) (by omega) (by omega) (by omega) hlp hgl HO.out (by omega) hg397 ?_
   rintro w9 vi9 t9 k9 ht9 hd9 hg9 hv9
   rw [show Z = some (t9, k9) from by rw [← HZ.out, fieldT_eq, hI]; exact congrArg some ht9.symm]
   exact ⟨_, _, rfl, hv9, hd9, hg9⟩
end Go.Proofs.YtgdnpnipahegaaaGreatDoor
