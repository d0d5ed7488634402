/-
 The package's reader of the text form, walked: a scalar.
-/
import Derived.Test.YtgdnpnipahegaaaGreatDoorTStrVal
import Derived.Test.YtgdnpnipahegaaaGreatDoorTNumVal
import Derived.Test.YtgdnpnipahegaaaGreatDoorTErrId
namespace Go.Proofs.YtgdnpnipahegaaaGreatDoor
open Go.ChangeShapes Go.WideShapes Go.ChangeAt Go.RowKit

theorem scalarT_str {bs r : List UInt8} {k : Nat} {c : UInt8} (h : bs.drop k = c :: r) (hq : c.toNat = 34 ∨ c.toNat = 39) : scalarT bs k = strTk bs k := by unfold scalarT strTk; rw [h]; simp only; rw [if_pos hq]; rfl
theorem litT_some {bs r : List UInt8} {k : Nat} {c : UInt8} (h : bs.drop k = c :: r) {x : TT × Nat} (hl : litT bs k = some x) : identT true (c :: r) ≠ 0 ∧ x = tokT bs k 3 (identT true (c :: r)) 3 := by
 unfold litT at hl
 rw [h] at hl
 split at hl
 ·rename_i hn; injection hl with hl; exact ⟨hn, hl.symm⟩
 ·cases hl
theorem litT_none {bs r : List UInt8} {k : Nat} {c : UInt8} (h : bs.drop k = c :: r) (hl : litT bs k = none) : identT true (c :: r) = 0 := by
 unfold litT at hl
 rw [h] at hl
 split at hl
 ·cases hl
 ·rename_i hn; simpa using hn
theorem scalarT_lit {bs r : List UInt8} {k : Nat} {c : UInt8} (h : bs.drop k = c :: r) (hq : ¬ (c.toNat = 34 ∨ c.toNat = 39)) {x : TT × Nat} (hl : litT bs k = some x) : scalarT bs k = some x := by
 obtain ⟨h1, h2⟩ := litT_some h hl
 unfold scalarT
 rw [h]
 simp only
 rw [if_neg hq, if_pos h1, h2]
theorem scalarT_num {bs r : List UInt8} {k : Nat} {c : UInt8} (h : bs.drop k = c :: r) (hq : ¬ (c.toNat = 34 ∨ c.toNat = 39)) (hl : litT bs k = none) : scalarT bs k = numTk bs k := by
 unfold scalarT numTk
 rw [h]
 simp only
 rw [if_neg hq, if_neg (by rw [litT_none h hl]; simp)]
 rfl
theorem pf_strv : PlainFn Tryz.prog 57 := ⟨_, Tryz.func57, by kernel_rfl, by kernel_rfl⟩
theorem pf_lit : PlainFn Tryz.prog 58 := ⟨_, Tryz.func58, by kernel_rfl, by kernel_rfl⟩
theorem pf_numv : PlainFn Tryz.prog 59 := ⟨_, Tryz.func59, by kernel_rfl, by kernel_rfl⟩
theorem pf_errid : PlainFn Tryz.prog 56 := ⟨_, Tryz.func56, by kernel_rfl, by kernel_rfl⟩
theorem pf_newerr : PlainFn Tryz.prog 47 := ⟨_, Tryz.func47, by kernel_rfl, by kernel_rfl⟩
theorem infoAny : (Tryz.prog.info? 20).map (fun i => (i.zero, i.size, i.bytes)) = some (some .nilIface, 1, 16) := by kernel_rfl
theorem y_any1 {N : Nat} {D : List Deferred} {a : Act} {l : List (Nat × Value)} {L rest : List Oper} {Q : Exit → Act → World → Prop} {w : World} {d : Nat} {ty : TypeId} {pos : String} {af : Array Edge} {x : Operand} {t : TypeId} {v : Value} (H : Has N D a l) (hx : ev l x = some (.iface t v)) (hd : Nat.blt d N = true)
  (h : ∀ w' u, Below w.heap.size w w' → ∀ a, Has N D a ((d, u) :: l) → wpList Tryz.prog L.toArray Q rest a w') : wpList Tryz.prog L.toArray Q (⟨some d, .buildSlice 87 1 #[(0, x)], ty, pos, af, none⟩ :: rest) a w := by
 obtain ⟨inf, hi1, hz, hz1, hz2⟩ : ∃ i, Tryz.prog.info? 20 = some i ∧ i.zero = some .nilIface ∧ i.size = 1 ∧ i.bytes = 16 := by
  have := infoAny
  cases hi : Tryz.prog.info? 20 with
  | none => rw [hi] at this; cases this
  | some i => rw [hi] at this; simp at this; exact ⟨i, rfl, this.1, this.2.1, this.2.2⟩
 have h1 := H.ev hx
 have := run_buildSlice (P := Tryz.prog) w 87 20 1 #[(0, .iface t v)] #[.iface t v] inf .nilIface Tryz.underlying87 hi1 hz (by rw [hz1]; decide) (by rw [hz1]; decide) (by rw [hz1]; kernel_rfl)
 refine y_wp H hd (v := .slice (some ⟨w.heap.size, 0, none⟩) 1 1) (w' := w.alloc (.cells #[.iface t v] 20)) (by simp [execOp, h1, this, Result.andThen]) ?_
 exact h _ _ ((Below.refl _ w).alloc (Nat.le_refl _) _)
variable {B p g : Nat} {bs : List UInt8} {vr ve vst vo vi : Value} {s : DT} {w : World}
set_option maxRecDepth 100000 in
set_option maxHeartbeats 100000000 in
theorem parseScalar_any (h : DW B p g bs vr ve vst vo vi s w) (hm : bs.length ≤ 10000000) (c : UInt8) (r : List UInt8) (hbk : bs.drop s.k = c :: r) :
  Calls Tryz.prog 43 #[.pointer (some ⟨p, 0, none⟩)] w (ScRes B p g bs vr ve vst vo s w (scalarT bs s.k)) := by
 suffices key : ∀ Z, Hid (scalarT bs s.k = Z) → Calls Tryz.prog 43 #[.pointer (some ⟨p, 0, none⟩)] w (ScRes B p g bs vr ve vst vo s w Z) from key _ (hid rfl)
 intro Z HZ
 have hlp := h.lt
 have hgl := h.gl
 have hgp : g ≠ p := h.gp
 have HO := hid h.ownLt
 have h9 : 9 ≤ w.heap.size := by have := h.base; have := h.b9; omega
 have hle := h.le
 have hlk : (bs.drop s.k).length = bs.length - s.k := List.length_drop
 have hg0 : w.grownBy w (some p) := grownBy_below (Below.refl _ _) _
 have hlcr : r.length + 1 ≤ bs.length := by have := congrArg List.length hbk; simp at this; omega
 have hlI : (c :: r).length = r.length + 1 := rfl
 have bc := byte_bd c
 refine enter1 (M := 52) Tryz.func43 rfl rfl rfl fun a H => ?_
 refine y_seq fun K1 hK1 => ?_
 refine y_reg ?_
 obtain ⟨q2, hq2⟩ : ∃ q, q = w.heap.size := ⟨_, rfl⟩
 refine y_allocRow alloc_tok H rfl fun w2 hr2 hb2 hs2 a H => ?_
 rw [← hq2] at H hr2
 have hz3 := Below.size hb2
 have hd4 := DW.below h hb2
 have hg5 := grownBy_then hg0 (Below.mono hb2 (by omega))
 refine y_assign H rfl rfl fun a H => wpList_nil (then_normal (hK1 _ _ ?_))
 replace H := H.k3 0 2 3 rfl rfl rfl
 refine y_seq fun K6 hK6 => ?_
 refine y_seq fun K7 hK7 => ?_
 refine y_reg ?_
 refine y_move H rfl rfl fun a H => y_nilCheck H rfl rfl fun a H => y_field fld_in H rfl rfl fun a H => ?_
 have hvI8 : View w2 g vi (c :: r) := (DW.inn hd4).eq hbk
 refine y_load one22 H rfl (DW.c10 hd4).1 rfl fun a H => y_idx Tryz.underlying22 info5u H rfl rfl hvI8 (by decide) rfl rfl fun a ad H hc9 => ?_
 refine y_load one5 H rfl hc9 rfl fun a H => ?_
 by_cases q10 : ((c.toNat : Int)) = ((34 : Int))
 ·refine y_eql (b := true) H rfl rfl (ieq_t (by omega)) rfl fun a H => y_move H rfl rfl fun a H => y_off H rfl rfl rfl fun a H => y_off H rfl rfl rfl fun a H => y_off H rfl rfl rfl fun a H => y_off H rfl rfl rfl fun a H => y_off H rfl rfl rfl fun a H => y_off H rfl rfl rfl fun a H => y_off H rfl rfl rfl fun a H => y_pick H rfl rfl rfl fun a H => wpList_nil (then_normal (hK7 _ _ ?_))
  replace H := H.k4 0 2 3 23 rfl rfl rfl rfl
  have hq : c.toNat = 34 ∨ c.toNat = 39 := by omega
  refine y_ift H rfl ?_
  refine y_seq fun K11 hK11 => ?_
  have Hs12 := H
  rcases hSS : strTk bs s.k with _ | ⟨tS, kS⟩
  ·have H := Hs12
   refine y_reg ?_
   refine y_move H rfl rfl fun a H => ?_
   have HP13 := parseStrVal_any hd4 hm
   rw [hSS] at HP13
   refine y_call pf_strv H rfl rfl (Calls.mono HP13 ?_)
   rintro e w13 ⟨⟨te, xe, rfl⟩, ⟨vi13, k13, hd13⟩, hgc13⟩
   refine ⟨_, rfl, fun a H => ?_⟩
   have hz14 := World.grownBy.size hgc13
   have hr15 := RowAt.grown hr2 hgc13 (by omega) (by omega)
   have hg16 := grown_trans hg5 hgc13
   refine y_extract H rfl rfl rfl fun a H => y_extract H rfl rfl rfl fun a H => y_storeRow (vs := [_, _, _, _, _, _]) H rfl rfl hr15 rfl (tok_size' _ _ _ _ _ _) (by simp [Value.oneCell']) fun w17 hr17 hg17 => ?_
   have hz18 := World.grownBy.size hg17
   have hB18 := below_of_grown (N := w.heap.size) hg17 (by omega) (by omega)
   have hd19 := DW.belowAt hd13 w.heap.size hlp hgl HO.out hB18
   have hg20 := grownBy_then hg16 hB18
   refine y_assign H rfl rfl fun a H => wpList_nil (then_normal (hK11 _ _ ?_))
   replace H := H.k3 0 2 3 rfl rfl rfl
   refine wp_ret (then_ret (?_))
   refine ret2 (by rfl) H rfl rfl hr17 ?_
   rw [show Z = none from by rw [← HZ.out, scalarT_str hbk hq, hSS]]
   exact ⟨⟨_, _, rfl⟩, ⟨_, _, hd19⟩, hg20⟩
  ·have H := Hs12
   refine y_reg ?_
   refine y_move H rfl rfl fun a H => ?_
   have HP21 := parseStrVal_any hd4 hm
   rw [hSS] at HP21
   refine y_call pf_strv H rfl rfl (Calls.mono HP21 ?_)
   rintro e w21 ⟨vt21, vi21, rfl, hvt21, hd21, hgc21⟩
   have Hs22 := H
   obtain ⟨ao21, n21, c21, rfl⟩ := View.slice3 hvt21
   have H := Hs22
   refine ⟨_, rfl, fun a H => ?_⟩
   have hz23 := World.grownBy.size hgc21
   have hr24 := RowAt.grown hr2 hgc21 (by omega) (by omega)
   have hg25 := grown_trans hg5 hgc21
   refine y_extract H rfl rfl rfl fun a H => y_extract H rfl rfl rfl fun a H => y_storeRow (vs := [_, _, _, _, _, _]) H rfl rfl hr24 rfl (tok_size' _ _ _ _ _ _) (by simp [Value.oneCell']) fun w26 hr26 hg26 => ?_
   have hz27 := World.grownBy.size hg26
   have hB27 := below_of_grown (N := w.heap.size) hg26 (by omega) (by omega)
   have hv28 := View.kept hvt21 (World.grownBy.block hg26 g (by omega) (fun e => by injection e with e; omega))
   have hd29 := DW.belowAt hd21 w.heap.size hlp hgl HO.out hB27
   have hg30 := grownBy_then hg25 hB27
   refine y_assign H rfl rfl fun a H => wpList_nil (then_normal (hK11 _ _ ?_))
   replace H := H.k3 0 2 3 rfl rfl rfl
   refine wp_ret (then_ret (?_))
   refine ret2 (by rfl) H rfl rfl hr26 ?_
   rw [show Z = some (tS, kS) from by rw [← HZ.out, scalarT_str hbk hq, hSS]]
   exact ⟨_, _, rfl, hv28, hd29, hg30⟩
 ·refine y_eql (b := false) H rfl rfl (ieq_f (by omega)) rfl fun a H => y_move H rfl rfl fun a H => y_on H rfl rfl ?_
  refine y_move H rfl rfl fun a H => y_on H rfl rfl ?_
  refine y_nilCheck H rfl rfl fun a H => y_on H rfl rfl ?_
  refine y_field fld_in H rfl rfl fun a H => y_on H rfl rfl ?_
  have hvI31 : View w2 g vi (c :: r) := (DW.inn hd4).eq hbk
  refine y_load one22 H rfl (DW.c10 hd4).1 rfl fun a H => y_on H rfl rfl ?_
  refine y_idx Tryz.underlying22 info5u H rfl rfl hvI31 (by decide) rfl rfl fun a ad H hc32 => ?_
  refine y_on H rfl rfl ?_
  refine y_load one5 H rfl hc32 rfl fun a H => y_on H rfl rfl ?_
  by_cases q33 : ((c.toNat : Int)) = ((39 : Int))
  ·refine y_eql (b := true) H rfl rfl (ieq_t (by omega)) rfl fun a H => y_pick H rfl rfl rfl fun a H => wpList_nil (then_normal (hK7 _ _ ?_))
   replace H := H.k4 0 2 3 23 rfl rfl rfl rfl
   have hq : c.toNat = 34 ∨ c.toNat = 39 := by omega
   refine y_ift H rfl ?_
   refine y_seq fun K34 hK34 => ?_
   have Hs35 := H
   rcases hSS : strTk bs s.k with _ | ⟨tS, kS⟩
   ·have H := Hs35
    refine y_reg ?_
    refine y_move H rfl rfl fun a H => ?_
    have HP36 := parseStrVal_any hd4 hm
    rw [hSS] at HP36
    refine y_call pf_strv H rfl rfl (Calls.mono HP36 ?_)
    rintro e w36 ⟨⟨te, xe, rfl⟩, ⟨vi36, k36, hd36⟩, hgc36⟩
    refine ⟨_, rfl, fun a H => ?_⟩
    have hz37 := World.grownBy.size hgc36
    have hr38 := RowAt.grown hr2 hgc36 (by omega) (by omega)
    have hg39 := grown_trans hg5 hgc36
    refine y_extract H rfl rfl rfl fun a H => y_extract H rfl rfl rfl fun a H => y_storeRow (vs := [_, _, _, _, _, _]) H rfl rfl hr38 rfl (tok_size' _ _ _ _ _ _) (by simp [Value.oneCell']) fun w40 hr40 hg40 => ?_
    have hz41 := World.grownBy.size hg40
    have hB41 := below_of_grown (N := w.heap.size) hg40 (by omega) (by omega)
    have hd42 := DW.belowAt hd36 w.heap.size hlp hgl HO.out hB41
    have hg43 := grownBy_then hg39 hB41
    refine y_assign H rfl rfl fun a H => wpList_nil (then_normal (hK34 _ _ ?_))
    replace H := H.k3 0 2 3 rfl rfl rfl
    refine wp_ret (then_ret (?_))
    refine ret2 (by rfl) H rfl rfl hr40 ?_
    rw [show Z = none from by rw [← HZ.out, scalarT_str hbk hq, hSS]]
    exact ⟨⟨_, _, rfl⟩, ⟨_, _, hd42⟩, hg43⟩
   ·have H := Hs35
    refine y_reg ?_
    refine y_move H rfl rfl fun a H => ?_
    have HP44 := parseStrVal_any hd4 hm
    rw [hSS] at HP44
    refine y_call pf_strv H rfl rfl (Calls.mono HP44 ?_)
    rintro e w44 ⟨vt44, vi44, rfl, hvt44, hd44, hgc44⟩
    have Hs45 := H
    obtain ⟨ao44, n44, c44, rfl⟩ := View.slice3 hvt44
    have H := Hs45
    refine ⟨_, rfl, fun a H => ?_⟩
    have hz46 := World.grownBy.size hgc44
    have hr47 := RowAt.grown hr2 hgc44 (by omega) (by omega)
    have hg48 := grown_trans hg5 hgc44
    refine y_extract H rfl rfl rfl fun a H => y_extract H rfl rfl rfl fun a H => y_storeRow (vs := [_, _, _, _, _, _]) H rfl rfl hr47 rfl (tok_size' _ _ _ _ _ _) (by simp [Value.oneCell']) fun w49 hr49 hg49 => ?_
    have hz50 := World.grownBy.size hg49
    have hB50 := below_of_grown (N := w.heap.size) hg49 (by omega) (by omega)
    have hv51 := View.kept hvt44 (World.grownBy.block hg49 g (by omega) (fun e => by injection e with e; omega))
    have hd52 := DW.belowAt hd44 w.heap.size hlp hgl HO.out hB50
    have hg53 := grownBy_then hg48 hB50
    refine y_assign H rfl rfl fun a H => wpList_nil (then_normal (hK34 _ _ ?_))
    replace H := H.k3 0 2 3 rfl rfl rfl
    refine wp_ret (then_ret (?_))
    refine ret2 (by rfl) H rfl rfl hr49 ?_
    rw [show Z = some (tS, kS) from by rw [← HZ.out, scalarT_str hbk hq, hSS]]
    exact ⟨_, _, rfl, hv51, hd52, hg53⟩
  ·refine y_eql (b := false) H rfl rfl (ieq_f (by omega)) rfl fun a H => y_pick H rfl rfl rfl fun a H => wpList_nil (then_normal (hK7 _ _ ?_))
   replace H := H.k4 0 2 3 23 rfl rfl rfl rfl
   have hq : ¬ (c.toNat = 34 ∨ c.toNat = 39) := by omega
   refine y_iff H rfl ?_
   refine wp_skip (then_normal (hK6 _ _ ?_))
   replace H := H.k3 0 2 3 rfl rfl rfl
   refine y_seq fun K54 hK54 => ?_
   refine y_seq fun K55 hK55 => ?_
   have Hs56 := H
   rcases hSL : litT bs s.k with _ | ⟨tL, kL⟩
   ·have H := Hs56
    refine y_reg ?_
    refine y_move H rfl rfl fun a H => ?_
    have HP57 := parseLiteral_any hd4 (by omega)
    rw [hSL] at HP57
    refine y_call pf_lit H rfl rfl (Calls.mono HP57 ?_)
    rintro e w57 ⟨rfl, hd57, hb57⟩
    refine ⟨_, rfl, fun a H => ?_⟩
    have hz58 := Below.size hb57
    have hr59 := RowAt.below hr2 (by omega) hb57
    have hd60 := DW.below hd4 hb57
    have hg61 := grownBy_then hg5 (Below.mono hb57 (by omega))
    refine y_move H rfl rfl fun a H => y_extract H rfl rfl rfl fun a H => y_extract H rfl rfl rfl fun a H => ?_
    obtain ⟨q62, hq62⟩ : ∃ q, q = w57.heap.size := ⟨_, rfl⟩
    refine y_allocRow alloc_tok H rfl fun w62 hr62 hb62 hs62 a H => ?_
    rw [← hq62] at H hr62
    have hz63 := Below.size hb62
    have hr64 := RowAt.below hr59 (by omega) hb62
    have hd65 := DW.below hd60 hb62
    have hg66 := grownBy_then hg61 (Below.mono hb62 (by omega))
    refine y_storeRow (vs := [_, _, _, _, _, _]) H rfl rfl hr62 rfl (tok_size' _ _ _ _ _ _) (by simp [Value.oneCell']) fun w67 hr67 hg67 => ?_
    have hz68 := World.grownBy.size hg67
    have hB68 := below_of_grown (N := w.heap.size) hg67 (by omega) (by omega)
    have hr69 := RowAt.grown hr64 hg67 (by omega) (by omega)
    have hd70 := DW.belowAt hd65 w.heap.size hlp hgl HO.out hB68
    have hg71 := grownBy_then hg66 hB68
    refine y_assign H rfl rfl fun a H => wpList_nil (then_normal (hK55 _ _ ?_))
    replace H := H.k5 0 2 3 4 5 rfl rfl rfl rfl rfl
    refine y_seq fun K72 hK72 => ?_
    refine y_reg ?_
    refine y_move H rfl rfl fun a H => wpList_nil (then_normal (hK72 _ _ ?_))
    replace H := H.k5 0 2 3 4 33 rfl rfl rfl rfl rfl
    refine y_iff H rfl ?_
    refine wp_skip (then_normal (hK54 _ _ ?_))
    replace H := H.k3 0 2 3 rfl rfl rfl
    refine y_seq fun K73 hK73 => ?_
    refine y_seq fun K74 hK74 => ?_
    have Hs75 := H
    rcases hSN : numTk bs s.k with _ | ⟨tN, kN⟩
    ·have H := Hs75
     refine y_reg ?_
     refine y_move H rfl rfl fun a H => ?_
     have HP76 := parseNumVal_any hd70 (by omega)
     rw [hSN] at HP76
     refine y_call pf_numv H rfl rfl (Calls.mono HP76 ?_)
     rintro e w76 ⟨rfl, hd76, hgc76⟩
     refine ⟨_, rfl, fun a H => ?_⟩
     have hz77 := World.grownBy.size hgc76
     have hr78 := RowAt.grown hr69 hgc76 (by omega) (by omega)
     have hg80 := grown_trans hg71 hgc76
     refine y_move H rfl rfl fun a H => y_extract H rfl rfl rfl fun a H => y_extract H rfl rfl rfl fun a H => ?_
     obtain ⟨q81, hq81⟩ : ∃ q, q = w76.heap.size := ⟨_, rfl⟩
     refine y_allocRow alloc_tok H rfl fun w81 hr81 hb81 hs81 a H => ?_
     rw [← hq81] at H hr81
     have hz82 := Below.size hb81
     have hr83 := RowAt.below hr78 (by omega) hb81
     have hd85 := DW.below hd76 hb81
     have hg86 := grownBy_then hg80 (Below.mono hb81 (by omega))
     refine y_storeRow (vs := [_, _, _, _, _, _]) H rfl rfl hr81 rfl (tok_size' _ _ _ _ _ _) (by simp [Value.oneCell']) fun w87 hr87 hg87 => ?_
     have hz88 := World.grownBy.size hg87
     have hB88 := below_of_grown (N := w.heap.size) hg87 (by omega) (by omega)
     have hr89 := RowAt.grown hr83 hg87 (by omega) (by omega)
     have hd91 := DW.belowAt hd85 w.heap.size hlp hgl HO.out hB88
     have hg92 := grownBy_then hg86 hB88
     refine y_assign H rfl rfl fun a H => wpList_nil (then_normal (hK74 _ _ ?_))
     replace H := H.k5 0 2 3 6 7 rfl rfl rfl rfl rfl
     refine y_seq fun K93 hK93 => ?_
     refine y_reg ?_
     refine y_move H rfl rfl fun a H => wpList_nil (then_normal (hK93 _ _ ?_))
     replace H := H.k5 0 2 3 6 40 rfl rfl rfl rfl rfl
     refine y_iff H rfl ?_
     refine wp_skip (then_normal (hK73 _ _ ?_))
     replace H := H.k3 0 2 3 rfl rfl rfl
     refine y_seq fun K94 hK94 => ?_
     refine y_reg ?_
     refine y_bld built_tok0 H rfl rfl fun a H => y_move H rfl rfl fun a H => y_move H rfl rfl fun a H => y_nilCheck H rfl rfl fun a H => y_field fld_in H rfl rfl fun a H => ?_
     have hvI95 : View w87 g vi (c :: r) := (DW.inn hd91).eq hbk
     refine y_load one22 H rfl (DW.c10 hd91).1 rfl fun a H => y_call pf_errid H rfl rfl (Calls.mono (errId_any _ _ g w87 hvI95 (by first | omega | (simp only [List.length_cons]; omega)) (DW.glob hd91) (by omega)) ?_)
     rintro e w96 ⟨⟨v96, rfl⟩, hb96⟩
     refine ⟨_, rfl, fun a H => ?_⟩
     have hz97 := Below.size hb96
     have hr99 := RowAt.below hr89 (by omega) hb96
     have hd102 := DW.below hd91 hb96
     have hg103 := grownBy_then hg92 (Below.mono hb96 (by omega))
     refine y_mkIface Tryz.underlying22 rfl H rfl rfl fun a H => y_any1 H rfl rfl fun w104 u104 hb104 a H => ?_
     have hz105 := Below.size hb104
     have hr107 := RowAt.below hr99 (by omega) hb104
     have hd110 := DW.below hd102 hb104
     have hg111 := grownBy_then hg103 (Below.mono hb104 (by omega))
     refine y_call pf_newerr H rfl rfl (Calls.mono (newError_any _ _ _ w104 (by decide)) ?_)
     rintro e w112 ⟨⟨xe, rfl⟩, hb112⟩
     refine ⟨_, rfl, fun a H => ?_⟩
     have hz113 := Below.size hb112
     have hr115 := RowAt.below hr107 (by omega) hb112
     have hd118 := DW.below hd110 hb112
     have hg119 := grownBy_then hg111 (Below.mono hb112 (by omega))
     refine y_storeRow (vs := [_, _, _, _, _, _]) H rfl rfl hr115 rfl (tok_size' _ _ _ _ _ _) (by simp [Value.oneCell']) fun w120 hr120 hg120 => ?_
     have hz121 := World.grownBy.size hg120
     have hB121 := below_of_grown (N := w.heap.size) hg120 (by omega) (by omega)
     have hd125 := DW.belowAt hd118 w.heap.size hlp hgl HO.out hB121
     have hg126 := grownBy_then hg119 hB121
     refine y_assign H rfl rfl fun a H => wpList_nil (then_normal (hK94 _ _ ?_))
     replace H := H.k3 0 2 3 rfl rfl rfl
     refine wp_ret (?_)
     refine ret2 (by rfl) H rfl rfl hr120 ?_
     rw [show Z = none from by rw [← HZ.out, scalarT_num hbk hq hSL, hSN]]
     exact ⟨⟨_, _, rfl⟩, ⟨_, _, hd125⟩, hg126⟩
    ·have H := Hs75
     refine y_reg ?_
     refine y_move H rfl rfl fun a H => ?_
     have HP127 := parseNumVal_any hd70 (by omega)
     rw [hSN] at HP127
     refine y_call pf_numv H rfl rfl (Calls.mono HP127 ?_)
     rintro e w127 ⟨vt127, vi127, rfl, hvt127, hd127, hgc127⟩
     have Hs128 := H
     obtain ⟨ao127, n127, c127, rfl⟩ := View.slice3 hvt127
     have H := Hs128
     refine ⟨_, rfl, fun a H => ?_⟩
     have hz129 := World.grownBy.size hgc127
     have hr130 := RowAt.grown hr69 hgc127 (by omega) (by omega)
     have hg132 := grown_trans hg71 hgc127
     refine y_move H rfl rfl fun a H => y_extract H rfl rfl rfl fun a H => y_extract H rfl rfl rfl fun a H => ?_
     obtain ⟨q133, hq133⟩ : ∃ q, q = w127.heap.size := ⟨_, rfl⟩
     refine y_allocRow alloc_tok H rfl fun w133 hr133 hb133 hs133 a H => ?_
     rw [← hq133] at H hr133
     have hz134 := Below.size hb133
     have hv135 := View.below hvt127 hb133
     have hr136 := RowAt.below hr130 (by omega) hb133
     have hd138 := DW.below hd127 hb133
     have hg139 := grownBy_then hg132 (Below.mono hb133 (by omega))
     refine y_storeRow (vs := [_, _, _, _, _, _]) H rfl rfl hr133 rfl (tok_size' _ _ _ _ _ _) (by simp [Value.oneCell']) fun w140 hr140 hg140 => ?_
     have hz141 := World.grownBy.size hg140
     have hB141 := below_of_grown (N := w.heap.size) hg140 (by omega) (by omega)
     have hv142 := View.kept hv135 (World.grownBy.block hg140 g (by omega) (fun e => by injection e with e; omega))
     have hr143 := RowAt.grown hr136 hg140 (by omega) (by omega)
     have hd145 := DW.belowAt hd138 w.heap.size hlp hgl HO.out hB141
     have hg146 := grownBy_then hg139 hB141
     refine y_assign H rfl rfl fun a H => wpList_nil (then_normal (hK74 _ _ ?_))
     replace H := H.k5 0 2 3 6 7 rfl rfl rfl rfl rfl
     refine y_seq fun K147 hK147 => ?_
     refine y_reg ?_
     refine y_move H rfl rfl fun a H => wpList_nil (then_normal (hK147 _ _ ?_))
     replace H := H.k5 0 2 3 6 40 rfl rfl rfl rfl rfl
     refine y_ift H rfl ?_
     refine y_seq fun K148 hK148 => ?_
     refine y_reg ?_
     refine y_loadRow Tryz.underlying50 rfl (tok_size _ rfl) H rfl hr140 rfl fun a H => y_storeRow (vs := [_, _, _, _, _, _]) H rfl rfl hr143 rfl (tok_size' _ _ _ _ _ _) (by simp [Value.oneCell']) fun w149 hr149 hg149 => ?_
     have hz150 := World.grownBy.size hg149
     have hB150 := below_of_grown (N := w.heap.size) hg149 (by omega) (by omega)
     have hv151 := View.kept hv142 (World.grownBy.block hg149 g (by omega) (fun e => by injection e with e; omega))
     have hd154 := DW.belowAt hd145 w.heap.size hlp hgl HO.out hB150
     have hg155 := grownBy_then hg146 hB150
     refine y_assign H rfl rfl fun a H => wpList_nil (then_normal (hK148 _ _ ?_))
     replace H := H.k3 0 2 3 rfl rfl rfl
     refine wp_ret (then_ret (?_))
     refine ret2 (by rfl) H rfl rfl hr149 ?_
     rw [show Z = some (tN, kN) from by rw [← HZ.out, scalarT_num hbk hq hSL, hSN]]
     exact ⟨_, _, rfl, hv151, hd154, hg155⟩
   ·have H := Hs56
    refine y_reg ?_
    refine y_move H rfl rfl fun a H => ?_
    have HP156 := parseLiteral_any hd4 (by omega)
    rw [hSL] at HP156
    refine y_call pf_lit H rfl rfl (Calls.mono HP156 ?_)
    rintro e w156 ⟨vt156, vi156, rfl, hvt156, hd156, hgc156⟩
    have Hs157 := H
    obtain ⟨ao156, n156, c156, rfl⟩ := View.slice3 hvt156
    have H := Hs157
    refine ⟨_, rfl, fun a H => ?_⟩
    have hz158 := World.grownBy.size hgc156
    have hr159 := RowAt.grown hr2 hgc156 (by omega) (by omega)
    have hg160 := grown_trans hg5 hgc156
    refine y_move H rfl rfl fun a H => y_extract H rfl rfl rfl fun a H => y_extract H rfl rfl rfl fun a H => ?_
    obtain ⟨q161, hq161⟩ : ∃ q, q = w156.heap.size := ⟨_, rfl⟩
    refine y_allocRow alloc_tok H rfl fun w161 hr161 hb161 hs161 a H => ?_
    rw [← hq161] at H hr161
    have hz162 := Below.size hb161
    have hv163 := View.below hvt156 hb161
    have hr164 := RowAt.below hr159 (by omega) hb161
    have hd165 := DW.below hd156 hb161
    have hg166 := grownBy_then hg160 (Below.mono hb161 (by omega))
    refine y_storeRow (vs := [_, _, _, _, _, _]) H rfl rfl hr161 rfl (tok_size' _ _ _ _ _ _) (by simp [Value.oneCell']) fun w167 hr167 hg167 => ?_
    have hz168 := World.grownBy.size hg167
    have hB168 := below_of_grown (N := w.heap.size) hg167 (by omega) (by omega)
    have hv169 := View.kept hv163 (World.grownBy.block hg167 g (by omega) (fun e => by injection e with e; omega))
    have hr170 := RowAt.grown hr164 hg167 (by omega) (by omega)
    have hd171 := DW.belowAt hd165 w.heap.size hlp hgl HO.out hB168
    have hg172 := grownBy_then hg166 hB168
    refine y_assign H rfl rfl fun a H => wpList_nil (then_normal (hK55 _ _ ?_))
    replace H := H.k5 0 2 3 4 5 rfl rfl rfl rfl rfl
    refine y_seq fun K173 hK173 => ?_
    refine y_reg ?_
    refine y_move H rfl rfl fun a H => wpList_nil (then_normal (hK173 _ _ ?_))
    replace H := H.k5 0 2 3 4 33 rfl rfl rfl rfl rfl
    refine y_ift H rfl ?_
    refine y_seq fun K174 hK174 => ?_
    refine y_reg ?_
    refine y_loadRow Tryz.underlying50 rfl (tok_size _ rfl) H rfl hr167 rfl fun a H => y_storeRow (vs := [_, _, _, _, _, _]) H rfl rfl hr170 rfl (tok_size' _ _ _ _ _ _) (by simp [Value.oneCell']) fun w175 hr175 hg175 => ?_
    have hz176 := World.grownBy.size hg175
    have hB176 := below_of_grown (N := w.heap.size) hg175 (by omega) (by omega)
    have hv177 := View.kept hv169 (World.grownBy.block hg175 g (by omega) (fun e => by injection e with e; omega))
    have hd179 := DW.belowAt hd171 w.heap.size hlp hgl HO.out hB176
    have hg180 := grownBy_then hg172 hB176
    refine y_assign H rfl rfl fun a H => wpList_nil (then_normal (hK174 _ _ ?_))
    replace H := H.k3 0 2 3 rfl rfl rfl
    refine wp_ret (then_ret (?_))
    refine ret2 (by rfl) H rfl rfl hr175 ?_
    rw [show Z = some (tL, kL) from by rw [← HZ.out, scalarT_lit hbk hq hSL]]
    exact ⟨_, _, rfl, hv177, hd179, hg180⟩
end Go.Proofs.YtgdnpnipahegaaaGreatDoor
