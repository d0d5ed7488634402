/-
 The package's reader of the text form, walked: a type's name in brackets.
-/
import Derived.Test.YtgdnpnipahegaaaGreatDoorTTypeT
namespace Go.Proofs.YtgdnpnipahegaaaGreatDoor
open Go.ChangeShapes Go.WideShapes Go.ChangeAt Go.RowKit

variable {B p g : Nat} {bs : List UInt8} {vr ve vst vo vi : Value} {s : DT} {w : World}
set_option maxRecDepth 100000 in
set_option maxHeartbeats 100000000 in
theorem parseTypeName_any (h : DW B p g bs vr ve vst vo vi s w) (hm : bs.length ≤ 90000000) (hk : s.k < bs.length) :
  Calls Tryz.prog 51 #[.pointer (some ⟨p, 0, none⟩)] w (TypRes B p g bs vr ve vst vo vi s w (typeT bs s.k)) := by
 suffices key : ∀ Z, Hid (typeT bs s.k = Z) → Calls Tryz.prog 51 #[.pointer (some ⟨p, 0, none⟩)] w (TypRes B p g bs vr ve vst vo vi s w Z) from key _ (hid rfl)
 intro Z HZ
 have hlp := h.lt
 have HG := hid h.gl
 have hgl := h.gl
 have HO := hid h.ownLt
 have HH := hid h
 have h9 : 9 ≤ w.heap.size := by have := h.base; have := h.b9; omega
 have hlk : (bs.drop s.k).length = bs.length - s.k := List.length_drop
 clear h
 refine enter1 (M := 213) Tryz.func51 rfl rfl rfl fun a H => ?_
 refine y_seq fun K1 hK1 => ?_
 refine y_reg ?_
 refine y_allocRow alloc_tok H rfl fun wA hrA hbA hsA a H => ?_
 have tn0 : TNW wA wA (.slice none 0 0) [] := ⟨Below.refl _ _, OwnB.nil _ _ _⟩
 refine y_assign H rfl rfl fun a H => wpList_nil (then_normal (hK1 _ _ ?_))
 replace H := H.k3 0 2 3 rfl rfl rfl
 refine y_seq fun K2 hK2 => ?_
 refine y_reg ?_
 refine y_move H rfl rfl fun a H => y_nilCheck H rfl rfl fun a H => y_field fld_in H rfl rfl fun a H => y_load one22 H rfl (DW.c10 (HH.out.below (hbA.trans ((tn0).below.mono (by omega))))).1 rfl fun a H => y_from Tryz.underlying22 info5u H rfl rfl (DW.inn (HH.out.below (hbA.trans ((tn0).below.mono (by omega))))) (by decide) (by rw [hlk]; omega) rfl fun a v H hv0 => ?_
 replace hv0 : View wA g v (bs.drop (s.k + 1)) := hv0.eq (by rw [show (1 : Int).toNat = 1 from rfl, List.drop_drop])
 have hl1 : (bs.drop (s.k + 1)).length = bs.length - (s.k + 1) := List.length_drop
 refine y_call pf_consume H rfl rfl (Calls.mono (cs_any _ _ g wA hv0 (by first | omega | (simp; omega))) ?_)
 rintro e w2 ⟨v, rfl, hv3, rfl⟩
 refine ⟨_, rfl, fun a H => ?_⟩
 refine y_assign H rfl rfl fun a H => wpList_nil (then_normal (hK2 _ _ ?_))
 replace H := H.k4 0 2 3 4 rfl rfl rfl rfl
 refine y_seq fun K4 hK4 => ?_
 refine y_seq fun K5 hK5 => ?_
 obtain ⟨S0, hS0⟩ : ∃ S0, S0 = csT (bs.drop (s.k + 1)) := ⟨_, rfl⟩
 have hv3 : View wA g _ S0 := hS0 ▸ hv3
 have hcs0 : csT (bs.drop (s.k + 1)) = S0 := hS0.symm
 have hsuf0 : ∃ j, S0 = bs.drop j := by obtain ⟨j, _, h⟩ := drop_csT bs (s.k + 1); exact ⟨j, by rw [← hcs0]; exact h⟩
 have hlen0 : S0.length ≤ bs.length - s.k := by have := csT_len (bs.drop (s.k + 1)); rw [hcs0] at this; simp only [List.length_drop] at this; omega
 obtain ⟨F, hF0⟩ : ∃ F, F = tnF (bs.length + 1) S0 [] := ⟨_, rfl⟩
 have HF : Hid (tnF (bs.length + 1) (csT (bs.drop (s.k + 1))) [] = F) := hid (by rw [hcs0, hF0])
 have HF1 : Hid (tnF (bs.length + 1) S0 [] = F) := hid hF0.symm
 clear hF0 hS0
 have Hs6 := H
 rcases S0 with _ | ⟨c0, S0⟩
 ·have H := Hs6
  have hl0 : (([] : List UInt8)).length = 0 := rfl
  refine y_reg ?_
  refine y_move H rfl rfl fun a H => y_len Tryz.underlying22 H rfl hv3 rfl fun a H => y_eql (b := true) H rfl rfl (ieq_t (by omega)) rfl fun a H => wpList_nil (then_normal (hK5 _ _ ?_))
  replace H := H.k5 0 2 3 4 24 rfl rfl rfl rfl rfl
  refine y_ift H rfl ?_
  refine y_seq fun K7 hK7 => ?_
  obtain ⟨tE, xE, hcE⟩ := (DW.glob (HH.out.below (hbA.trans ((tn0).below.mono (by omega))))).eof
  refine d_begin (fun w' => w'.cell? ⟨0, 0, none⟩ = some (.iface tE xE)) 4 mixedP rfl ?_
  have hbd : Below wA.heap.size wA wA.drew := (Below.refl _ _).drew
  generalize wA.drew = wd at hbd ⊢
  have hcE := (hbd.cell (World.block_lt_of_cell? _ _ hcE)).trans hcE
  have tn9 := TNW.grow tn0 hbd
  refine d_take 0 H rfl (by kernel_rfl) (by kernel_rfl) (by kernel_rfl) (r_bld built_tok0 H rfl) hcE rfl fun a H => d_take 1 H rfl (by kernel_rfl) (by kernel_rfl) (by kernel_rfl) (r_load oneErr H rfl (fun _ h => h)) hcE rfl fun a H => ?_
  refine d_one 2 (by kernel_rfl) rfl rfl ?_
  refine y_storeRow (vs := [_, _, _, _, _, _]) H rfl rfl (hrA.kept ((tn9).below.block _ (by omega))) rfl (tok_size' _ _ _ _ _ _) (by simp [Value.oneCell']) fun w9 hr9 hg9 => ?_
  have hcE9 := grown_cell hg9 hcE (by show 0 ≠ _; omega)
  refine wpList_nil ⟨hcE9, ?_⟩
  refine d_take 3 H rfl (by kernel_rfl) (by kernel_rfl) (by kernel_rfl) (r_assign H rfl) hcE9 rfl fun a H => ?_
  refine d_done (by kernel_rfl) (then_normal (hK7 _ _ ?_))
  replace H := H.k4 0 2 3 4 rfl rfl rfl rfl
  refine wp_ret (then_ret (?_))
  refine ret2 (by rfl) H rfl rfl hr9 ?_
  rw [show Z = none from by rw [← HZ.out]; exact typeT_none (by rw [hcs0]; rfl)]
  have hB := below_grow' (hbA.trans ((tn9).below.mono (by omega))) hg9 (Nat.le_refl _) (Below.size (hbA.trans ((tn9).below.mono (by omega))))
  exact ⟨⟨_, _, rfl⟩, HH.out.below hB, hB⟩
 ·have H := Hs6
  have hl0 : (c0 :: S0).length = S0.length + 1 := rfl
  refine y_reg ?_
  refine y_move H rfl rfl fun a H => y_len Tryz.underlying22 H rfl hv3 rfl fun a H => y_eql (b := false) H rfl rfl (ieq_f (by omega)) rfl fun a H => wpList_nil (then_normal (hK5 _ _ ?_))
  replace H := H.k5 0 2 3 4 24 rfl rfl rfl rfl rfl
  refine y_iff H rfl ?_
  refine wp_skip (then_normal (hK4 _ _ ?_))
  replace H := H.k4 0 2 3 4 rfl rfl rfl rfl
  refine y_seq fun K11 hK11 => ?_
  refine y_reg ?_
  refine y_assign H rfl rfl fun a H => wpList_nil (then_normal (hK11 _ _ ?_))
  replace H := H.k5 0 2 3 4 5 rfl rfl rfl rfl rfl
  refine y_seq fun K12 hK12 => ?_
  refine y_reg ?_
  refine y_assign H rfl rfl fun a H => wpList_nil (then_normal (hK12 _ _ ?_))
  replace H := H.k6 0 2 3 4 5 6 rfl rfl rfl rfl rfl rfl
  refine y_seq fun K13 hK13 => ?_
  have hJ1 : ∀ (a : Act) (cl : Bool) (S name : List UInt8) (v4 vn : Value) (wk : World), Has 213 [] a [(0, .pointer (some ⟨p, 0, none⟩)), (2, .pointer (some ⟨w.heap.size, 0, none⟩)), (3, .nilIface), (4, v4), (5, vn), (6, .bool cl)] → View wk g v4 S → TNW wA wk vn name → S.length ≤ bs.length - s.k → name.length ≤ bs.length → (∃ j, S = bs.drop j) → (cl = false → F = none) → (cl = true → F = some (name, S)) → K13 a wk := by
   intro a cl S name v4 vn wk H hS tnk hSl hnl hsuf hc0 hc1
   refine hK13 _ _ ?_
   refine y_seq fun K15 hK15 => ?_
   refine y_seq fun K16 hK16 => ?_
   have Hs17 := H
   cases cl with
   | true =>
    have H := Hs17
    refine y_reg ?_
    refine y_move H rfl rfl fun a H => y_not H rfl rfl fun a H => wpList_nil (then_normal (hK16 _ _ ?_))
    replace H := H.k6 0 2 3 4 5 113 rfl rfl rfl rfl rfl rfl
    have hF := HF.out.trans (hc1 rfl)
    clear hc0 hc1
    refine y_iff H rfl ?_
    refine wp_skip (then_normal (hK15 _ _ ?_))
    replace H := H.k5 0 2 3 4 5 rfl rfl rfl rfl rfl
    refine y_seq fun K18 hK18 => ?_
    refine y_reg ?_
    refine y_move H rfl rfl fun a H => y_assign H rfl rfl fun a H => wpList_nil (then_normal (hK18 _ _ ?_))
    replace H := H.k6 0 2 3 4 5 7 rfl rfl rfl rfl rfl rfl
    refine y_seq fun K19 hK19 => ?_
    refine y_seq fun K20 hK20 => ?_
    obtain ⟨gN, hvN, _⟩ := tnk.own.view
    have Hs21 := H
    rcases hsl : slashT name with _ | ⟨pre, TN⟩
    ·have H := Hs21
     have hsi := slashI_none hsl
     refine y_reg ?_
     refine y_move H rfl rfl fun a H => y_call pf_last H rfl rfl (Calls.mono (lastIndex_any _ _ gN wk hvN (by omega)) ?_)
     rintro e w2 ⟨rfl, rfl⟩
     rw [hsi]
     refine ⟨_, rfl, fun a H => ?_⟩
     refine y_assign H rfl rfl fun a H => wpList_nil (then_normal (hK20 _ _ ?_))
     replace H := H.k7 0 2 3 4 5 7 8 rfl rfl rfl rfl rfl rfl rfl
     refine y_seq fun K22 hK22 => ?_
     refine y_reg ?_
     refine y_move H rfl rfl fun a H => y_neq (b := false) H rfl rfl (by decide) rfl fun a H => wpList_nil (then_normal (hK22 _ _ ?_))
     replace H := H.k8 0 2 3 4 5 7 8 120 rfl rfl rfl rfl rfl rfl rfl rfl
     have hJ2 : ∀ (a : Act) (TN : List UInt8) (v7 : Value) (gT : Nat), Has 213 [] a [(0, .pointer (some ⟨p, 0, none⟩)), (2, .pointer (some ⟨w.heap.size, 0, none⟩)), (3, .nilIface), (4, v4), (5, vn), (7, v7)] → View wk gT v7 TN → TN.length ≤ bs.length → nameOk name = typeOk TN → K19 a wk := by
      intro a TN v7 gT H hT hTl hnok
      refine hK19 _ _ ?_
      refine y_seq fun K23 hK23 => ?_
      refine y_seq fun K24 hK24 => ?_
      refine y_reg ?_
      refine y_move H rfl rfl fun a H => y_call pf_split H rfl rfl (Calls.mono (split_any _ TN gT wk hT (by omega)) ?_)
      rintro e w4 ⟨vp, xs, rfl, hown4, hla, hb4⟩
      refine ⟨_, rfl, fun a H => ?_⟩
      have Hs25 := H
      obtain ⟨aoP, cP, rfl⟩ := ownsRow_sliceA hown4
      have H := Hs25
      have tn26 := TNW.grow tnk hb4
      have hv27 := View.below hS hb4
      have hv28 := View.below hT hb4
      refine y_lenS Tryz.underlying90 H rfl rfl fun a H => y_move H rfl rfl fun a H => wpList_nil (then_normal (hK24 _ _ ?_))
      replace H := H.k9 0 2 3 4 5 7 142 143 144 rfl rfl rfl rfl rfl rfl rfl rfl rfl
      have hll := lens_len TN 0
      have hJ3 : ∀ (a : Act), Has 213 [] a [(0, .pointer (some ⟨p, 0, none⟩)), (2, .pointer (some ⟨w.heap.size, 0, none⟩)), (3, .nilIface), (4, v4), (5, vn), (7, v7)] → (∀ (j : Nat) (n : Nat), j < (lensT 0 TN).length → (lensT 0 TN)[j]? = some n → n ≠ 0) → K23 a w4 := by
       intro a  H hall
       refine hK23 _ _ ?_
       refine y_seq fun K30 hK30 => ?_
       refine y_seq fun K31 hK31 => ?_
       refine y_reg ?_
       refine y_move H rfl rfl fun a H => y_len Tryz.underlying22 H rfl hv28 rfl fun a H => y_move H rfl rfl fun a H => wpList_nil (then_normal (hK31 _ _ ?_))
       replace H := H.k8 0 2 3 4 5 156 157 158 rfl rfl rfl rfl rfl rfl rfl rfl
       have hparts := parts_yes fun j n hj hn => hall j n hj hn
       clear hall
       have hJ4 : ∀ (a : Act), Has 213 [] a [(0, .pointer (some ⟨p, 0, none⟩)), (2, .pointer (some ⟨w.heap.size, 0, none⟩)), (3, .nilIface), (4, v4), (5, vn)] → (∀ (j : Nat) (c : UInt8), j < TN.length → TN[j]? = some c → okC c = true) → K30 a w4 := by
        intro a  H hall
        refine hK30 _ _ ?_
        refine y_seq fun K32 hK32 => ?_
        have hok : nameOk name = true := by rw [hnok]; exact typeOk_yes hparts fun j c hj hc => hall j c hj hc
        clear hall
        obtain ⟨jS, hjS⟩ := hsuf
        have hS2 := suf_eq hjS
        have Hs33 := H
        obtain ⟨ao4, c4, rfl⟩ := hv27.slice
        have H := Hs33
        have hdC := (HH.out.below (hbA.trans ((tn26).below.mono (by omega))))
        refine d_begin (fun w' => w'.cell? ⟨p, 9, none⟩ = some vo ∧ w'.cell? ⟨p, 10, none⟩ = some vi) 12 mixedP rfl ?_
        have hbd : Below w4.heap.size w4 w4.drew := (Below.refl _ _).drew
        generalize w4.drew = wd at hbd ⊢
        have hdC := hdC.below hbd
        have tn35 := TNW.grow tn26 hbd
        have hv36 := View.below hv27 hbd
        refine d_take 0 H rfl (by kernel_rfl) (by kernel_rfl) (by kernel_rfl) (r_move H rfl) ⟨hdC.c9.1, hdC.c10.1⟩ rfl fun a H => d_take 1 H rfl (by kernel_rfl) (by kernel_rfl) (by kernel_rfl) (r_nilCheck H rfl) ⟨hdC.c9.1, hdC.c10.1⟩ rfl fun a H => d_take 2 H rfl (by kernel_rfl) (by kernel_rfl) (by kernel_rfl) (r_field fld_orig H rfl) ⟨hdC.c9.1, hdC.c10.1⟩ rfl fun a H => d_take 3 H rfl (by kernel_rfl) (by kernel_rfl) (by kernel_rfl) (r_load one22 H rfl (fun _ h => h.1)) ⟨hdC.c9.1, hdC.c10.1⟩ rfl fun a H => d_take 4 H rfl (by kernel_rfl) (by kernel_rfl) (by kernel_rfl) (r_len Tryz.underlying22 H rfl (DW.orig hdC)) ⟨hdC.c9.1, hdC.c10.1⟩ rfl fun a H => d_take 5 H rfl (by kernel_rfl) (by kernel_rfl) (by kernel_rfl) (r_move H rfl) ⟨hdC.c9.1, hdC.c10.1⟩ rfl fun a H => d_take 6 H rfl (by kernel_rfl) (by kernel_rfl) (by kernel_rfl) (r_nilCheck H rfl) ⟨hdC.c9.1, hdC.c10.1⟩ rfl fun a H => d_take 7 H rfl (by kernel_rfl) (by kernel_rfl) (by kernel_rfl) (r_field fld_in H rfl) ⟨hdC.c9.1, hdC.c10.1⟩ rfl fun a H => d_take 8 H rfl (by kernel_rfl) (by kernel_rfl) (by kernel_rfl) (r_load one22 H rfl (fun _ h => h.2)) ⟨hdC.c9.1, hdC.c10.1⟩ rfl fun a H => d_take 9 H rfl (by kernel_rfl) (by kernel_rfl) (by kernel_rfl) (r_len Tryz.underlying22 H rfl (DW.inn hdC)) ⟨hdC.c9.1, hdC.c10.1⟩ rfl fun a H => d_take 10 H rfl (by kernel_rfl) (by kernel_rfl) (by kernel_rfl) (r_subi (r := ((s.k : Nat) : Int)) H rfl rfl (by omega) (by omega) (by omega)) ⟨hdC.c9.1, hdC.c10.1⟩ rfl fun a H => ?_
        refine d_take 11 H rfl (by kernel_rfl) (by kernel_rfl) (by kernel_rfl) (r_assign H rfl) ⟨hdC.c9.1, hdC.c10.1⟩ rfl fun a H => ?_
        refine d_done (by kernel_rfl) (then_normal (hK32 _ _ ?_))
        replace H := H.k6 0 2 3 4 5 14 rfl rfl rfl rfl rfl rfl
        refine y_seq fun K37 hK37 => ?_
        refine y_reg ?_
        refine y_move H rfl rfl fun a H => y_nilCheck H rfl rfl fun a H => y_field fld_orig H rfl rfl fun a H => y_load one22 H rfl (DW.c9 hdC).1 rfl fun a H => y_len Tryz.underlying22 H rfl (DW.orig hdC) rfl fun a H => y_move H rfl rfl fun a H => y_len Tryz.underlying22 H rfl hv36 rfl fun a H => y_subi (r := ((bs.length - S.length : Nat) : Int)) H rfl rfl (by omega) (by omega) (by omega) rfl fun a H => y_assign H rfl rfl fun a H => wpList_nil (then_normal (hK37 _ _ ?_))
        replace H := H.k7 0 2 3 4 5 14 15 rfl rfl rfl rfl rfl rfl rfl
        refine y_seq fun K38 hK38 => ?_
        refine y_reg ?_
        refine y_move H rfl rfl fun a H => y_move H rfl rfl fun a H => y_nilCheck H rfl rfl fun a H => y_field fld_in H rfl rfl fun a H => ?_
        have hd1 := hdC.setIn (k := bs.length - S.length) (hv36.eq hS2) (by omega)
        refine y_storeCell size22 H rfl rfl (by rfl) hdC.c10.1 hdC.c10.2 (by rfl) ?_
        have hg1 := grownBy_set wd p 10 (.slice ao4 S.length c4)
        generalize wd.setCell ⟨p, 10, none⟩ (.slice ao4 S.length c4) = w2 at hd1 hg1 ⊢
        refine wpList_nil (then_normal (hK38 _ _ ?_))
        replace H := H.k6 0 2 3 5 14 15 rfl rfl rfl rfl rfl rfl
        refine y_seq fun K39 hK39 => ?_
        refine y_reg ?_
        refine y_move H rfl rfl fun a H => y_call pf_dconsume H rfl rfl (Calls.mono (consume_any _ 0 w2 hd1 (by show bs.length - S.length + 0 ≤ _; omega) (by omega)) ?_)
        rintro e w3 ⟨rfl, vi3, hd3, hgc⟩
        refine ⟨_, rfl, fun a H => ?_⟩
        have hgp := grown_trans hg1 hgc
        have ho3 : OwnB w3 wA.heap.size 5 vn name := World.ownsRow.kept tn35.own hgp (.inr (fun e => by have := (World.ownsRow.lt tn35.own _ e).1; omega))
        have hr3 := ((hrA.kept ((tn35).below.block _ (by omega)))).kept (hgp.block _ (by have := tn35.below.size; omega) (fun e => by injection e with e; omega))
        have hg3 := grownBy_from (hbA.trans ((tn35).below.mono (by omega))) hgp
        have hs3 := hg3.size
        have hs4 := (tn35).below.size
        have hs5 := hgp.size
        refine wpList_nil (then_normal (hK39 _ _ ?_))
        replace H := H.k6 0 2 3 5 14 15 rfl rfl rfl rfl rfl rfl
        refine y_seq fun K40 hK40 => ?_
        refine d_begin (fun w' => w'.cell? ⟨p, 9, none⟩ = some vo ∧ OwnB w' wA.heap.size 5 vn name) 13 mixedP rfl ?_
        have hbd : Below w3.heap.size w3 w3.drew := (Below.refl _ _).drew
        generalize w3.drew = wd at hbd ⊢
        have hdD := hd3.below hbd
        have hoD := ho3.below hbd
        have hrD := hr3.kept (hbd.block _ (by omega))
        have hgD := grownBy_then hg3 (hbd.mono (by omega))
        obtain ⟨aoR, cR, hrunR, hvR⟩ := hdD.orig.both (P := Tryz.prog) Tryz.underlying22 info5u .i64 .i64 s.k (bs.length - S.length) (by omega) (by omega)
        refine d_take 0 H rfl (by kernel_rfl) (by kernel_rfl) (by kernel_rfl) (r_move H rfl) ⟨hdD.c9.1, hoD⟩ rfl fun a H => d_take 1 H rfl (by kernel_rfl) (by kernel_rfl) (by kernel_rfl) (r_move H rfl) ⟨hdD.c9.1, hoD⟩ rfl fun a H => d_take 2 H rfl (by kernel_rfl) (by kernel_rfl) (by kernel_rfl) (r_nilCheck H rfl) ⟨hdD.c9.1, hoD⟩ rfl fun a H => d_take 3 H rfl (by kernel_rfl) (by kernel_rfl) (by kernel_rfl) (r_field fld_orig H rfl) ⟨hdD.c9.1, hoD⟩ rfl fun a H => d_take 4 H rfl (by kernel_rfl) (by kernel_rfl) (by kernel_rfl) (r_load one22 H rfl (fun _ h => h.1)) ⟨hdD.c9.1, hoD⟩ rfl fun a H => d_take 5 H rfl (by kernel_rfl) (by kernel_rfl) (by kernel_rfl) (r_move H rfl) ⟨hdD.c9.1, hoD⟩ rfl fun a H => d_take 6 H rfl (by kernel_rfl) (by kernel_rfl) (by kernel_rfl) (r_move H rfl) ⟨hdD.c9.1, hoD⟩ rfl fun a H => d_take 7 H rfl (by kernel_rfl) (by kernel_rfl) (by kernel_rfl) (r_slice H rfl rfl rfl hrunR) ⟨hdD.c9.1, hoD⟩ rfl fun a H => d_take 8 H rfl (by kernel_rfl) (by kernel_rfl) (by kernel_rfl) (r_move H rfl) ⟨hdD.c9.1, hoD⟩ rfl fun a H => d_take 9 H rfl (by kernel_rfl) (by kernel_rfl) (by kernel_rfl) (r_strOwn Tryz.underlying22 Tryz.underlying5 Tryz.underlying9 H rfl (fun _ h => h.2)) ⟨hdD.c9.1, hoD⟩ rfl fun a H => d_take 10 H rfl (by kernel_rfl) (by kernel_rfl) (by kernel_rfl) (r_bld (built_tok5 _ _ _ _ _ _ _) H rfl) ⟨hdD.c9.1, hoD⟩ rfl fun a H => ?_
        refine d_one 11 (by kernel_rfl) rfl rfl ?_
        refine y_storeRow (vs := [_, _, _, _, _, _]) H rfl rfl hrD rfl (tok_size' _ _ _ _ _ _) (by simp [Value.oneCell']) fun w9 hr9 hg9 => ?_
        have hoE := World.ownsRow.kept hoD hg9 (.inr (fun e => by have := (World.ownsRow.lt hoD _ e).1; omega))
        have hcE := grown_cell hg9 hdD.c9.1 (by show p ≠ _; omega)
        refine wpList_nil ⟨⟨hcE, hoE⟩, ?_⟩
        refine d_take 12 H rfl (by kernel_rfl) (by kernel_rfl) (by kernel_rfl) (r_assign H rfl) ⟨hcE, hoE⟩ rfl fun a H => ?_
        refine d_done (by kernel_rfl) (then_normal (hK40 _ _ ?_))
        replace H := H.k3 0 2 3 rfl rfl rfl
        refine wp_ret (?_)
        refine ret2 (by rfl) H rfl rfl hr9 ?_
        rw [show Z = some (⟨2, 2, false, 0, s.k, (bs.drop s.k).take (bs.length - S.length - s.k), name⟩, goT bs (bs.length - S.length) 0) from by rw [← HZ.out]; exact typeT_some hF hok]
        have hbF : Below w.heap.size wd w9 := below_of_grown hg9 (Nat.le_refl _) (by have := hgD.size; omega)
        exact ⟨_, _, rfl, hvR.kept (hbF.block g HG.out), hdD.belowAt w.heap.size hlp HG.out HO.out hbF, grownBy_then hgD hbF⟩
       refine wp_block ?_
       refine wp_loop (fun a wx => ∃ j : Nat, Has 213 [] a [(0, .pointer (some ⟨p, 0, none⟩)), (2, .pointer (some ⟨w.heap.size, 0, none⟩)), (3, .nilIface), (4, v4), (5, vn), (156, v7), (157, .int .i64 ((TN.length : Nat) : Int)), (158, .int .i64 ((j : Nat) : Int))] ∧ j ≤ TN.length ∧ (∀ (i : Nat) (c : UInt8), i < j → TN[i]? = some c → okC c = true) ∧ w4 = wx) (fun a _ => TN.length - (intOf (a.eval (.tmp 158))).toNat) ?_ ?_
       ·exact ⟨0, H.sub _ (sub_cons rfl (sub_cons rfl (sub_cons rfl (sub_cons rfl (sub_cons rfl (sub_cons rfl (sub_cons rfl (sub_cons rfl (sub_nil))))))))), Nat.zero_le _, fun i c hi => by omega, rfl⟩
       ·rintro a wx ⟨j, H, hjl, hinv, rfl⟩
        have HE := hid (H.ev (x := .tmp 158) rfl)
        by_cases hlt : j < TN.length
        ·refine y_seq fun K42 hK42 => ?_
         refine y_reg ?_
         refine y_lss (b := true) H rfl rfl (decide_eq_true (by omega)) rfl fun a H => wpList_nil (then_normal (hK42 _ _ ?_))
         replace H := H.k9 0 2 3 4 5 156 157 158 159 rfl rfl rfl rfl rfl rfl rfl rfl rfl
         refine y_seq fun K43 hK43 => ?_
         refine y_ift H rfl ?_
         refine wp_skip (then_normal (hK43 _ _ ?_))
         replace H := H.k8 0 2 3 4 5 156 157 158 rfl rfl rfl rfl rfl rfl rfl rfl
         refine y_seq fun K44 hK44 => ?_
         refine wp_block ?_
         refine y_seq fun K45 hK45 => ?_
         refine y_reg ?_
         obtain ⟨cj, hcj⟩ : ∃ c, TN[j]? = some c := ⟨_, List.getElem?_eq_getElem hlt⟩
         have bcj := byte_bd cj
         refine y_idx Tryz.underlying22 info5u H rfl rfl hv28 (by omega) (by rw [Int.toNat_natCast]; exact hcj) rfl fun a ad H hcA => ?_
         refine y_load one5 H rfl hcA rfl fun a H => y_assign H rfl rfl fun a H => wpList_nil (then_normal (hK45 _ _ ?_))
         replace H := H.k9 0 2 3 4 5 13 156 157 158 rfl rfl rfl rfl rfl rfl rfl rfl rfl
         refine y_seq fun K46 hK46 => ?_
         refine y_reg ?_
         refine y_move H rfl rfl fun a H => ?_
         by_cases q47 : ((cj.toNat : Int)) = ((37 : Int))
         ·refine y_eql (b := true) H rfl rfl (ieq_t (by omega)) rfl fun a H => y_move H rfl rfl fun a H => y_off H rfl rfl rfl fun a H => y_off H rfl rfl rfl fun a H => y_off H rfl rfl rfl fun a H => y_offu H rfl rfl rfl fun a H => y_offu H rfl rfl rfl fun a H => y_off H rfl rfl rfl fun a H => y_pick H rfl rfl rfl fun a H => wpList_nil (then_normal (hK46 _ _ ?_))
          replace H := H.k9 0 2 3 4 5 156 157 158 171 rfl rfl rfl rfl rfl rfl rfl rfl rfl
          refine y_ift H rfl ?_
          refine y_seq fun K48 hK48 => ?_
          refine y_reg ?_
          refine y_bld built_tok0 H rfl rfl fun a H => y_move H rfl rfl fun a H => y_move H rfl rfl fun a H => y_call pf_terr H rfl rfl (Calls.mono (typeNameError_any (HH.out.below (hbA.trans ((tn26).below.mono (by omega)))) _ _ hv27 (by first | omega | (simp only [List.length_cons]; omega)) (by omega) 0) ?_)
          rintro e wE49 ⟨⟨te, xe, rfl⟩, hbE50⟩
          refine ⟨_, rfl, fun a H => ?_⟩
          have tn51 := TNW.grow tn26 hbE50
          refine y_storeRow (vs := [_, _, _, _, _, _]) H rfl rfl (hrA.kept ((tn51).below.block _ (by omega))) rfl (tok_size' _ _ _ _ _ _) (by simp [Value.oneCell']) fun w9 hr9 hg9 => ?_
          refine y_assign H rfl rfl fun a H => wpList_nil (then_normal (hK48 _ _ ?_))
          replace H := H.k8 0 2 3 4 5 156 157 158 rfl rfl rfl rfl rfl rfl rfl rfl
          refine wp_ret (in_ret (then_ret (then_ret (in_ret (then_ret (?_))))))
          refine ret2 (by rfl) H rfl rfl hr9 ?_
          rw [show Z = none from by rw [← HZ.out]; exact typeT_bad hF (by rw [hnok]; exact okC_bad hcj (okC_37 (by omega)))]
          have hB := below_grow' (hbA.trans ((tn51).below.mono (by omega))) hg9 (Nat.le_refl _) (Below.size (hbA.trans ((tn51).below.mono (by omega))))
          exact ⟨⟨_, _, rfl⟩, HH.out.below hB, hB⟩
         ·refine y_eql (b := false) H rfl rfl (ieq_f (by omega)) rfl fun a H => y_move H rfl rfl fun a H => y_on H rfl rfl ?_
          refine y_move H rfl rfl fun a H => y_on H rfl rfl ?_
          by_cases q55 : ((cj.toNat : Int)) ≠ ((46 : Int))
          ·refine y_neq (b := true) H rfl rfl (ine_t (by omega)) rfl fun a H => y_on H rfl rfl ?_
           refine y_move H rfl rfl fun a H => y_on H rfl rfl ?_
           refine y_move H rfl rfl fun a H => y_on H rfl rfl ?_
           refine y_call pf_url H rfl rfl (Calls.mono (isUrlC_any cj w4) ?_)
           rintro e w2 ⟨rfl, rfl⟩
           have Hs57 := H
           cases ht56 : urlC cj with
           | true =>
            have H := Hs57
            refine ⟨_, rfl, fun a H => ?_⟩
            refine y_on H rfl rfl ?_
            refine y_pick H rfl rfl rfl fun a H => y_pick H rfl rfl rfl fun a H => wpList_nil (then_normal (hK46 _ _ ?_))
            replace H := H.k9 0 2 3 4 5 156 157 158 171 rfl rfl rfl rfl rfl rfl rfl rfl rfl
            refine y_ift H rfl ?_
            refine y_seq fun K58 hK58 => ?_
            refine y_reg ?_
            refine y_bld built_tok0 H rfl rfl fun a H => y_move H rfl rfl fun a H => y_move H rfl rfl fun a H => y_call pf_terr H rfl rfl (Calls.mono (typeNameError_any (HH.out.below (hbA.trans ((tn26).below.mono (by omega)))) _ _ hv27 (by first | omega | (simp only [List.length_cons]; omega)) (by omega) 0) ?_)
            rintro e wE59 ⟨⟨te, xe, rfl⟩, hbE60⟩
            refine ⟨_, rfl, fun a H => ?_⟩
            have tn61 := TNW.grow tn26 hbE60
            refine y_storeRow (vs := [_, _, _, _, _, _]) H rfl rfl (hrA.kept ((tn61).below.block _ (by omega))) rfl (tok_size' _ _ _ _ _ _) (by simp [Value.oneCell']) fun w9 hr9 hg9 => ?_
            refine y_assign H rfl rfl fun a H => wpList_nil (then_normal (hK58 _ _ ?_))
            replace H := H.k8 0 2 3 4 5 156 157 158 rfl rfl rfl rfl rfl rfl rfl rfl
            refine wp_ret (in_ret (then_ret (then_ret (in_ret (then_ret (?_))))))
            refine ret2 (by rfl) H rfl rfl hr9 ?_
            rw [show Z = none from by rw [← HZ.out]; exact typeT_bad hF (by rw [hnok]; exact okC_bad hcj (by rw [okC_url (by omega) (by omega), ht56]; rfl))]
            have hB := below_grow' (hbA.trans ((tn61).below.mono (by omega))) hg9 (Nat.le_refl _) (Below.size (hbA.trans ((tn61).below.mono (by omega))))
            exact ⟨⟨_, _, rfl⟩, HH.out.below hB, hB⟩
           | false =>
            have H := Hs57
            refine ⟨_, rfl, fun a H => ?_⟩
            refine y_on H rfl rfl ?_
            refine y_pick H rfl rfl rfl fun a H => y_pick H rfl rfl rfl fun a H => wpList_nil (then_normal (hK46 _ _ ?_))
            replace H := H.k9 0 2 3 4 5 156 157 158 171 rfl rfl rfl rfl rfl rfl rfl rfl rfl
            refine y_iff H rfl ?_
            refine wp_skip (in_normal (then_normal (hK44 _ _ ?_)))
            replace H := H.k8 0 2 3 4 5 156 157 158 rfl rfl rfl rfl rfl rfl rfl rfl
            refine y_reg ?_
            refine y_addi (r := ((j + 1 : Nat) : Int)) H rfl rfl (by omega) (by omega) (by omega) rfl fun a H => y_move H rfl rfl fun a H => wpList_nil (then_normal (⟨⟨j + 1, H.sub _ (sub_cons rfl (sub_cons rfl (sub_cons rfl (sub_cons rfl (sub_cons rfl (sub_cons rfl (sub_cons rfl (sub_cons rfl (sub_nil))))))))), by omega, ?_, rfl⟩, ?_⟩))
            ·intro i c hi
             by_cases hij : i < j
             ·exact hinv i _ hij
             ·obtain rfl : i = j := by omega
              intro he; rw [hcj] at he; injection he with he; subst he; exact by rw [okC_url (by omega) (by omega), ht56]; rfl
            ·have h2 := H.ev (x := .tmp 158) rfl
             simp only [HE.out, h2, intOf]
             omega
          ·refine y_neq (b := false) H rfl rfl (ine_f (by omega)) rfl fun a H => y_on H rfl rfl ?_
           refine y_move H rfl rfl fun a H => y_off H rfl rfl rfl fun a H => y_off H rfl rfl rfl fun a H => y_on H rfl rfl ?_
           refine y_pick H rfl rfl rfl fun a H => y_pick H rfl rfl rfl fun a H => wpList_nil (then_normal (hK46 _ _ ?_))
           replace H := H.k9 0 2 3 4 5 156 157 158 171 rfl rfl rfl rfl rfl rfl rfl rfl rfl
           refine y_iff H rfl ?_
           refine wp_skip (in_normal (then_normal (hK44 _ _ ?_)))
           replace H := H.k8 0 2 3 4 5 156 157 158 rfl rfl rfl rfl rfl rfl rfl rfl
           refine y_reg ?_
           refine y_addi (r := ((j + 1 : Nat) : Int)) H rfl rfl (by omega) (by omega) (by omega) rfl fun a H => y_move H rfl rfl fun a H => wpList_nil (then_normal (⟨⟨j + 1, H.sub _ (sub_cons rfl (sub_cons rfl (sub_cons rfl (sub_cons rfl (sub_cons rfl (sub_cons rfl (sub_cons rfl (sub_cons rfl (sub_nil))))))))), by omega, ?_, rfl⟩, ?_⟩))
           ·intro i c hi
            by_cases hij : i < j
            ·exact hinv i _ hij
            ·obtain rfl : i = j := by omega
             intro he; rw [hcj] at he; injection he with he; subst he; exact okC_46 (by omega)
           ·have h2 := H.ev (x := .tmp 158) rfl
            simp only [HE.out, h2, intOf]
            omega
        ·refine y_seq fun K65 hK65 => ?_
         refine y_reg ?_
         refine y_lss (b := false) H rfl rfl (decide_eq_false (by omega)) rfl fun a H => wpList_nil (then_normal (hK65 _ _ ?_))
         replace H := H.k9 0 2 3 4 5 156 157 158 159 rfl rfl rfl rfl rfl rfl rfl rfl rfl
         refine y_seq fun K66 hK66 => ?_
         refine y_iff H rfl ?_
         exact wp_exit (then_exit (then_exit (in_exit (then_normal (hJ4 _  (H.sub _ (sub_cons rfl (sub_cons rfl (sub_cons rfl (sub_cons rfl (sub_cons rfl (sub_nil))))))) (fun i c hi => hinv i _ (by omega)))))))
      refine wp_block ?_
      refine wp_loop (fun a wx => ∃ j : Nat, Has 213 [] a [(0, .pointer (some ⟨p, 0, none⟩)), (2, .pointer (some ⟨w.heap.size, 0, none⟩)), (3, .nilIface), (4, v4), (5, vn), (7, v7), (142, .slice aoP (lensT 0 TN).length cP), (143, .int .i64 (((lensT 0 TN).length : Nat) : Int)), (144, .int .i64 ((j : Nat) : Int))] ∧ j ≤ (lensT 0 TN).length ∧ (∀ (i : Nat) (n : Nat), i < j → (lensT 0 TN)[i]? = some n → n ≠ 0) ∧ w4 = wx) (fun a _ => (lensT 0 TN).length - (intOf (a.eval (.tmp 144))).toNat) ?_ ?_
      ·exact ⟨0, H.sub _ (sub_cons rfl (sub_cons rfl (sub_cons rfl (sub_cons rfl (sub_cons rfl (sub_cons rfl (sub_cons rfl (sub_cons rfl (sub_cons rfl (sub_nil)))))))))), Nat.zero_le _, fun i n hi => by omega, rfl⟩
      ·rintro a wx ⟨j, H, hjl, hinv, rfl⟩
       have HE := hid (H.ev (x := .tmp 144) rfl)
       by_cases hlt : j < (lensT 0 TN).length
       ·obtain ⟨nj, hnj⟩ : ∃ n, (lensT 0 TN)[j]? = some n := ⟨_, List.getElem?_eq_getElem hlt⟩
        obtain ⟨aoE, cE, hxe⟩ := hla.2 j nj hnj
        have hjI : j < (lensT 0 TN).length := hlt
        refine y_seq fun K67 hK67 => ?_
        refine y_reg ?_
        refine y_lss (b := true) H rfl rfl (decide_eq_true (by omega)) rfl fun a H => wpList_nil (then_normal (hK67 _ _ ?_))
        replace H := H.k10 0 2 3 4 5 7 142 143 144 145 rfl rfl rfl rfl rfl rfl rfl rfl rfl rfl
        refine y_seq fun K68 hK68 => ?_
        refine y_ift H rfl ?_
        refine wp_skip (then_normal (hK68 _ _ ?_))
        replace H := H.k9 0 2 3 4 5 7 142 143 144 rfl rfl rfl rfl rfl rfl rfl rfl rfl
        refine y_seq fun K69 hK69 => ?_
        refine wp_block ?_
        refine y_seq fun K70 hK70 => ?_
        refine y_reg ?_
        have hqP : ∃ q, aoP = some ⟨q, 0, none⟩ := by
         rcases hown4.2 with ⟨h1, h2⟩ | ⟨q, cap, cur, h1, _⟩
         ·omega
         ·injection h1 with h1; exact ⟨q, h1⟩
        have Hs71 := H
        obtain ⟨qP, rfl⟩ := hqP
        have H := Hs71
        have hcE2 := World.ownsRow.cells hown4 (g := qP) rfl j _ hxe
        rw [Addr.add_lit, Nat.zero_add] at hcE2
        refine y_idxRow Tryz.underlying90 (by kernel_rfl) H rfl rfl hjI rfl fun a H => y_load one22 H rfl hcE2 rfl fun a H => y_assign H rfl rfl fun a H => wpList_nil (then_normal (hK70 _ _ ?_))
        replace H := H.k10 0 2 3 4 5 7 11 142 143 144 rfl rfl rfl rfl rfl rfl rfl rfl rfl rfl
        refine y_seq fun K72 hK72 => ?_
        refine y_reg ?_
        refine y_move H rfl rfl fun a H => y_lenS Tryz.underlying22 H rfl rfl fun a H => ?_
        by_cases hn0 : nj = 0
        ·have hn0 := hn0
         refine y_eql (b := true) H rfl rfl (ieq_t (by omega)) rfl fun a H => wpList_nil (then_normal (hK72 _ _ ?_))
         replace H := H.k10 0 2 3 4 5 7 142 143 144 150 rfl rfl rfl rfl rfl rfl rfl rfl rfl rfl
         refine y_ift H rfl ?_
         refine y_seq fun K73 hK73 => ?_
         refine y_reg ?_
         refine y_bld built_tok0 H rfl rfl fun a H => y_move H rfl rfl fun a H => y_move H rfl rfl fun a H => y_call pf_terr H rfl rfl (Calls.mono (typeNameError_any (HH.out.below (hbA.trans ((tn26).below.mono (by omega)))) _ _ hv27 (by first | omega | (simp only [List.length_cons]; omega)) (by omega) 0) ?_)
         rintro e wE74 ⟨⟨te, xe, rfl⟩, hbE75⟩
         refine ⟨_, rfl, fun a H => ?_⟩
         have tn76 := TNW.grow tn26 hbE75
         refine y_storeRow (vs := [_, _, _, _, _, _]) H rfl rfl (hrA.kept ((tn76).below.block _ (by omega))) rfl (tok_size' _ _ _ _ _ _) (by simp [Value.oneCell']) fun w9 hr9 hg9 => ?_
         refine y_assign H rfl rfl fun a H => wpList_nil (then_normal (hK73 _ _ ?_))
         replace H := H.k9 0 2 3 4 5 7 142 143 144 rfl rfl rfl rfl rfl rfl rfl rfl rfl
         refine wp_ret (in_ret (then_ret (then_ret (in_ret (then_ret (?_))))))
         refine ret2 (by rfl) H rfl rfl hr9 ?_
         rw [show Z = none from by rw [← HZ.out]; exact typeT_bad hF (by rw [hnok]; exact parts_no (by rw [hnj, hn0]))]
         have hB := below_grow' (hbA.trans ((tn76).below.mono (by omega))) hg9 (Nat.le_refl _) (Below.size (hbA.trans ((tn76).below.mono (by omega))))
         exact ⟨⟨_, _, rfl⟩, HH.out.below hB, hB⟩
        ·have hn0 := hn0
         refine y_eql (b := false) H rfl rfl (ieq_f (by omega)) rfl fun a H => wpList_nil (then_normal (hK72 _ _ ?_))
         replace H := H.k10 0 2 3 4 5 7 142 143 144 150 rfl rfl rfl rfl rfl rfl rfl rfl rfl rfl
         refine y_iff H rfl ?_
         refine wp_skip (in_normal (then_normal (hK69 _ _ ?_)))
         replace H := H.k9 0 2 3 4 5 7 142 143 144 rfl rfl rfl rfl rfl rfl rfl rfl rfl
         refine y_reg ?_
         refine y_addi (r := ((j + 1 : Nat) : Int)) H rfl rfl (by omega) (by omega) (by omega) rfl fun a H => y_move H rfl rfl fun a H => wpList_nil (then_normal (⟨⟨j + 1, H.sub _ (sub_cons rfl (sub_cons rfl (sub_cons rfl (sub_cons rfl (sub_cons rfl (sub_cons rfl (sub_cons rfl (sub_cons rfl (sub_cons rfl (sub_nil)))))))))), by omega, ?_, rfl⟩, ?_⟩))
         ·intro i n hi
          by_cases hij : i < j
          ·exact hinv i _ hij
          ·obtain rfl : i = j := by omega
           intro he; rw [hnj] at he; injection he with he; omega
         ·have h2 := H.ev (x := .tmp 144) rfl
          simp only [HE.out, h2, intOf]
          omega
       ·refine y_seq fun K80 hK80 => ?_
        refine y_reg ?_
        refine y_lss (b := false) H rfl rfl (decide_eq_false (by omega)) rfl fun a H => wpList_nil (then_normal (hK80 _ _ ?_))
        replace H := H.k10 0 2 3 4 5 7 142 143 144 145 rfl rfl rfl rfl rfl rfl rfl rfl rfl rfl
        refine y_seq fun K81 hK81 => ?_
        refine y_iff H rfl ?_
        exact wp_exit (then_exit (then_exit (in_exit (then_normal (hJ3 _  (H.sub _ (sub_cons rfl (sub_cons rfl (sub_cons rfl (sub_cons rfl (sub_cons rfl (sub_cons rfl (sub_nil)))))))) (fun i n hi => hinv i _ (by omega)))))))
     refine y_iff H rfl ?_
     exact wp_skip (then_normal (hJ2 _ _ _ _ (H.sub _ (sub_cons rfl (sub_cons rfl (sub_cons rfl (sub_cons rfl (sub_cons rfl (sub_cons rfl (sub_nil)))))))) hvN (by omega) (nameOk_none hsl)))
    ·have H := Hs21
     have hsi := slashI_some hsl
     obtain ⟨cS, hcS, hnm⟩ := slashT_spec _ _ _ hsl
     have hnm2 : name.length = pre.length + (TN.length + 1) := by rw [hnm]; simp
     refine y_reg ?_
     refine y_move H rfl rfl fun a H => y_call pf_last H rfl rfl (Calls.mono (lastIndex_any _ _ gN wk hvN (by omega)) ?_)
     rintro e w2 ⟨rfl, rfl⟩
     rw [hsi]
     refine ⟨_, rfl, fun a H => ?_⟩
     refine y_assign H rfl rfl fun a H => wpList_nil (then_normal (hK20 _ _ ?_))
     replace H := H.k7 0 2 3 4 5 7 8 rfl rfl rfl rfl rfl rfl rfl
     refine y_seq fun K82 hK82 => ?_
     refine y_reg ?_
     refine y_move H rfl rfl fun a H => y_neq (b := true) H rfl rfl (ine_t (by omega)) rfl fun a H => wpList_nil (then_normal (hK82 _ _ ?_))
     replace H := H.k8 0 2 3 4 5 7 8 120 rfl rfl rfl rfl rfl rfl rfl rfl
     have hJ2 : ∀ (a : Act) (TN : List UInt8) (v7 : Value) (gT : Nat), Has 213 [] a [(0, .pointer (some ⟨p, 0, none⟩)), (2, .pointer (some ⟨w.heap.size, 0, none⟩)), (3, .nilIface), (4, v4), (5, vn), (7, v7)] → View wk gT v7 TN → TN.length ≤ bs.length → nameOk name = typeOk TN → K19 a wk := by
      intro a TN v7 gT H hT hTl hnok
      refine hK19 _ _ ?_
      refine y_seq fun K83 hK83 => ?_
      refine y_seq fun K84 hK84 => ?_
      refine y_reg ?_
      refine y_move H rfl rfl fun a H => y_call pf_split H rfl rfl (Calls.mono (split_any _ TN gT wk hT (by omega)) ?_)
      rintro e w4 ⟨vp, xs, rfl, hown4, hla, hb4⟩
      refine ⟨_, rfl, fun a H => ?_⟩
      have Hs85 := H
      obtain ⟨aoP, cP, rfl⟩ := ownsRow_sliceA hown4
      have H := Hs85
      have tn86 := TNW.grow tnk hb4
      have hv87 := View.below hS hb4
      have hv88 := View.below hT hb4
      refine y_lenS Tryz.underlying90 H rfl rfl fun a H => y_move H rfl rfl fun a H => wpList_nil (then_normal (hK84 _ _ ?_))
      replace H := H.k9 0 2 3 4 5 7 142 143 144 rfl rfl rfl rfl rfl rfl rfl rfl rfl
      have hll := lens_len TN 0
      have hJ3 : ∀ (a : Act), Has 213 [] a [(0, .pointer (some ⟨p, 0, none⟩)), (2, .pointer (some ⟨w.heap.size, 0, none⟩)), (3, .nilIface), (4, v4), (5, vn), (7, v7)] → (∀ (j : Nat) (n : Nat), j < (lensT 0 TN).length → (lensT 0 TN)[j]? = some n → n ≠ 0) → K83 a w4 := by
       intro a  H hall
       refine hK83 _ _ ?_
       refine y_seq fun K90 hK90 => ?_
       refine y_seq fun K91 hK91 => ?_
       refine y_reg ?_
       refine y_move H rfl rfl fun a H => y_len Tryz.underlying22 H rfl hv88 rfl fun a H => y_move H rfl rfl fun a H => wpList_nil (then_normal (hK91 _ _ ?_))
       replace H := H.k8 0 2 3 4 5 156 157 158 rfl rfl rfl rfl rfl rfl rfl rfl
       have hparts := parts_yes fun j n hj hn => hall j n hj hn
       clear hall
       have hJ4 : ∀ (a : Act), Has 213 [] a [(0, .pointer (some ⟨p, 0, none⟩)), (2, .pointer (some ⟨w.heap.size, 0, none⟩)), (3, .nilIface), (4, v4), (5, vn)] → (∀ (j : Nat) (c : UInt8), j < TN.length → TN[j]? = some c → okC c = true) → K90 a w4 := by
        intro a  H hall
        refine hK90 _ _ ?_
        refine y_seq fun K92 hK92 => ?_
        have hok : nameOk name = true := by rw [hnok]; exact typeOk_yes hparts fun j c hj hc => hall j c hj hc
        clear hall
        obtain ⟨jS, hjS⟩ := hsuf
        have hS2 := suf_eq hjS
        have Hs93 := H
        obtain ⟨ao4, c4, rfl⟩ := hv87.slice
        have H := Hs93
        have hdC := (HH.out.below (hbA.trans ((tn86).below.mono (by omega))))
        refine d_begin (fun w' => w'.cell? ⟨p, 9, none⟩ = some vo ∧ w'.cell? ⟨p, 10, none⟩ = some vi) 12 mixedP rfl ?_
        have hbd : Below w4.heap.size w4 w4.drew := (Below.refl _ _).drew
        generalize w4.drew = wd at hbd ⊢
        have hdC := hdC.below hbd
        have tn95 := TNW.grow tn86 hbd
        have hv96 := View.below hv87 hbd
        refine d_take 0 H rfl (by kernel_rfl) (by kernel_rfl) (by kernel_rfl) (r_move H rfl) ⟨hdC.c9.1, hdC.c10.1⟩ rfl fun a H => d_take 1 H rfl (by kernel_rfl) (by kernel_rfl) (by kernel_rfl) (r_nilCheck H rfl) ⟨hdC.c9.1, hdC.c10.1⟩ rfl fun a H => d_take 2 H rfl (by kernel_rfl) (by kernel_rfl) (by kernel_rfl) (r_field fld_orig H rfl) ⟨hdC.c9.1, hdC.c10.1⟩ rfl fun a H => d_take 3 H rfl (by kernel_rfl) (by kernel_rfl) (by kernel_rfl) (r_load one22 H rfl (fun _ h => h.1)) ⟨hdC.c9.1, hdC.c10.1⟩ rfl fun a H => d_take 4 H rfl (by kernel_rfl) (by kernel_rfl) (by kernel_rfl) (r_len Tryz.underlying22 H rfl (DW.orig hdC)) ⟨hdC.c9.1, hdC.c10.1⟩ rfl fun a H => d_take 5 H rfl (by kernel_rfl) (by kernel_rfl) (by kernel_rfl) (r_move H rfl) ⟨hdC.c9.1, hdC.c10.1⟩ rfl fun a H => d_take 6 H rfl (by kernel_rfl) (by kernel_rfl) (by kernel_rfl) (r_nilCheck H rfl) ⟨hdC.c9.1, hdC.c10.1⟩ rfl fun a H => d_take 7 H rfl (by kernel_rfl) (by kernel_rfl) (by kernel_rfl) (r_field fld_in H rfl) ⟨hdC.c9.1, hdC.c10.1⟩ rfl fun a H => d_take 8 H rfl (by kernel_rfl) (by kernel_rfl) (by kernel_rfl) (r_load one22 H rfl (fun _ h => h.2)) ⟨hdC.c9.1, hdC.c10.1⟩ rfl fun a H => d_take 9 H rfl (by kernel_rfl) (by kernel_rfl) (by kernel_rfl) (r_len Tryz.underlying22 H rfl (DW.inn hdC)) ⟨hdC.c9.1, hdC.c10.1⟩ rfl fun a H => d_take 10 H rfl (by kernel_rfl) (by kernel_rfl) (by kernel_rfl) (r_subi (r := ((s.k : Nat) : Int)) H rfl rfl (by omega) (by omega) (by omega)) ⟨hdC.c9.1, hdC.c10.1⟩ rfl fun a H => ?_
        refine d_take 11 H rfl (by kernel_rfl) (by kernel_rfl) (by kernel_rfl) (r_assign H rfl) ⟨hdC.c9.1, hdC.c10.1⟩ rfl fun a H => ?_
        refine d_done (by kernel_rfl) (then_normal (hK92 _ _ ?_))
        replace H := H.k6 0 2 3 4 5 14 rfl rfl rfl rfl rfl rfl
        refine y_seq fun K97 hK97 => ?_
        refine y_reg ?_
        refine y_move H rfl rfl fun a H => y_nilCheck H rfl rfl fun a H => y_field fld_orig H rfl rfl fun a H => y_load one22 H rfl (DW.c9 hdC).1 rfl fun a H => y_len Tryz.underlying22 H rfl (DW.orig hdC) rfl fun a H => y_move H rfl rfl fun a H => y_len Tryz.underlying22 H rfl hv96 rfl fun a H => y_subi (r := ((bs.length - S.length : Nat) : Int)) H rfl rfl (by omega) (by omega) (by omega) rfl fun a H => y_assign H rfl rfl fun a H => wpList_nil (then_normal (hK97 _ _ ?_))
        replace H := H.k7 0 2 3 4 5 14 15 rfl rfl rfl rfl rfl rfl rfl
        refine y_seq fun K98 hK98 => ?_
        refine y_reg ?_
        refine y_move H rfl rfl fun a H => y_move H rfl rfl fun a H => y_nilCheck H rfl rfl fun a H => y_field fld_in H rfl rfl fun a H => ?_
        have hd1 := hdC.setIn (k := bs.length - S.length) (hv96.eq hS2) (by omega)
        refine y_storeCell size22 H rfl rfl (by rfl) hdC.c10.1 hdC.c10.2 (by rfl) ?_
        have hg1 := grownBy_set wd p 10 (.slice ao4 S.length c4)
        generalize wd.setCell ⟨p, 10, none⟩ (.slice ao4 S.length c4) = w2 at hd1 hg1 ⊢
        refine wpList_nil (then_normal (hK98 _ _ ?_))
        replace H := H.k6 0 2 3 5 14 15 rfl rfl rfl rfl rfl rfl
        refine y_seq fun K99 hK99 => ?_
        refine y_reg ?_
        refine y_move H rfl rfl fun a H => y_call pf_dconsume H rfl rfl (Calls.mono (consume_any _ 0 w2 hd1 (by show bs.length - S.length + 0 ≤ _; omega) (by omega)) ?_)
        rintro e w3 ⟨rfl, vi3, hd3, hgc⟩
        refine ⟨_, rfl, fun a H => ?_⟩
        have hgp := grown_trans hg1 hgc
        have ho3 : OwnB w3 wA.heap.size 5 vn name := World.ownsRow.kept tn95.own hgp (.inr (fun e => by have := (World.ownsRow.lt tn95.own _ e).1; omega))
        have hr3 := ((hrA.kept ((tn95).below.block _ (by omega)))).kept (hgp.block _ (by have := tn95.below.size; omega) (fun e => by injection e with e; omega))
        have hg3 := grownBy_from (hbA.trans ((tn95).below.mono (by omega))) hgp
        have hs3 := hg3.size
        have hs4 := (tn95).below.size
        have hs5 := hgp.size
        refine wpList_nil (then_normal (hK99 _ _ ?_))
        replace H := H.k6 0 2 3 5 14 15 rfl rfl rfl rfl rfl rfl
        refine y_seq fun K100 hK100 => ?_
        refine d_begin (fun w' => w'.cell? ⟨p, 9, none⟩ = some vo ∧ OwnB w' wA.heap.size 5 vn name) 13 mixedP rfl ?_
        have hbd : Below w3.heap.size w3 w3.drew := (Below.refl _ _).drew
        generalize w3.drew = wd at hbd ⊢
        have hdD := hd3.below hbd
        have hoD := ho3.below hbd
        have hrD := hr3.kept (hbd.block _ (by omega))
        have hgD := grownBy_then hg3 (hbd.mono (by omega))
        obtain ⟨aoR, cR, hrunR, hvR⟩ := hdD.orig.both (P := Tryz.prog) Tryz.underlying22 info5u .i64 .i64 s.k (bs.length - S.length) (by omega) (by omega)
        refine d_take 0 H rfl (by kernel_rfl) (by kernel_rfl) (by kernel_rfl) (r_move H rfl) ⟨hdD.c9.1, hoD⟩ rfl fun a H => d_take 1 H rfl (by kernel_rfl) (by kernel_rfl) (by kernel_rfl) (r_move H rfl) ⟨hdD.c9.1, hoD⟩ rfl fun a H => d_take 2 H rfl (by kernel_rfl) (by kernel_rfl) (by kernel_rfl) (r_nilCheck H rfl) ⟨hdD.c9.1, hoD⟩ rfl fun a H => d_take 3 H rfl (by kernel_rfl) (by kernel_rfl) (by kernel_rfl) (r_field fld_orig H rfl) ⟨hdD.c9.1, hoD⟩ rfl fun a H => d_take 4 H rfl (by kernel_rfl) (by kernel_rfl) (by kernel_rfl) (r_load one22 H rfl (fun _ h => h.1)) ⟨hdD.c9.1, hoD⟩ rfl fun a H => d_take 5 H rfl (by kernel_rfl) (by kernel_rfl) (by kernel_rfl) (r_move H rfl) ⟨hdD.c9.1, hoD⟩ rfl fun a H => d_take 6 H rfl (by kernel_rfl) (by kernel_rfl) (by kernel_rfl) (r_move H rfl) ⟨hdD.c9.1, hoD⟩ rfl fun a H => d_take 7 H rfl (by kernel_rfl) (by kernel_rfl) (by kernel_rfl) (r_slice H rfl rfl rfl hrunR) ⟨hdD.c9.1, hoD⟩ rfl fun a H => d_take 8 H rfl (by kernel_rfl) (by kernel_rfl) (by kernel_rfl) (r_move H rfl) ⟨hdD.c9.1, hoD⟩ rfl fun a H => d_take 9 H rfl (by kernel_rfl) (by kernel_rfl) (by kernel_rfl) (r_strOwn Tryz.underlying22 Tryz.underlying5 Tryz.underlying9 H rfl (fun _ h => h.2)) ⟨hdD.c9.1, hoD⟩ rfl fun a H => d_take 10 H rfl (by kernel_rfl) (by kernel_rfl) (by kernel_rfl) (r_bld (built_tok5 _ _ _ _ _ _ _) H rfl) ⟨hdD.c9.1, hoD⟩ rfl fun a H => ?_
        refine d_one 11 (by kernel_rfl) rfl rfl ?_
        refine y_storeRow (vs := [_, _, _, _, _, _]) H rfl rfl hrD rfl (tok_size' _ _ _ _ _ _) (by simp [Value.oneCell']) fun w9 hr9 hg9 => ?_
        have hoE := World.ownsRow.kept hoD hg9 (.inr (fun e => by have := (World.ownsRow.lt hoD _ e).1; omega))
        have hcE := grown_cell hg9 hdD.c9.1 (by show p ≠ _; omega)
        refine wpList_nil ⟨⟨hcE, hoE⟩, ?_⟩
        refine d_take 12 H rfl (by kernel_rfl) (by kernel_rfl) (by kernel_rfl) (r_assign H rfl) ⟨hcE, hoE⟩ rfl fun a H => ?_
        refine d_done (by kernel_rfl) (then_normal (hK100 _ _ ?_))
        replace H := H.k3 0 2 3 rfl rfl rfl
        refine wp_ret (?_)
        refine ret2 (by rfl) H rfl rfl hr9 ?_
        rw [show Z = some (⟨2, 2, false, 0, s.k, (bs.drop s.k).take (bs.length - S.length - s.k), name⟩, goT bs (bs.length - S.length) 0) from by rw [← HZ.out]; exact typeT_some hF hok]
        have hbF : Below w.heap.size wd w9 := below_of_grown hg9 (Nat.le_refl _) (by have := hgD.size; omega)
        exact ⟨_, _, rfl, hvR.kept (hbF.block g HG.out), hdD.belowAt w.heap.size hlp HG.out HO.out hbF, grownBy_then hgD hbF⟩
       refine wp_block ?_
       refine wp_loop (fun a wx => ∃ j : Nat, Has 213 [] a [(0, .pointer (some ⟨p, 0, none⟩)), (2, .pointer (some ⟨w.heap.size, 0, none⟩)), (3, .nilIface), (4, v4), (5, vn), (156, v7), (157, .int .i64 ((TN.length : Nat) : Int)), (158, .int .i64 ((j : Nat) : Int))] ∧ j ≤ TN.length ∧ (∀ (i : Nat) (c : UInt8), i < j → TN[i]? = some c → okC c = true) ∧ w4 = wx) (fun a _ => TN.length - (intOf (a.eval (.tmp 158))).toNat) ?_ ?_
       ·exact ⟨0, H.sub _ (sub_cons rfl (sub_cons rfl (sub_cons rfl (sub_cons rfl (sub_cons rfl (sub_cons rfl (sub_cons rfl (sub_cons rfl (sub_nil))))))))), Nat.zero_le _, fun i c hi => by omega, rfl⟩
       ·rintro a wx ⟨j, H, hjl, hinv, rfl⟩
        have HE := hid (H.ev (x := .tmp 158) rfl)
        by_cases hlt : j < TN.length
        ·refine y_seq fun K102 hK102 => ?_
         refine y_reg ?_
         refine y_lss (b := true) H rfl rfl (decide_eq_true (by omega)) rfl fun a H => wpList_nil (then_normal (hK102 _ _ ?_))
         replace H := H.k9 0 2 3 4 5 156 157 158 159 rfl rfl rfl rfl rfl rfl rfl rfl rfl
         refine y_seq fun K103 hK103 => ?_
         refine y_ift H rfl ?_
         refine wp_skip (then_normal (hK103 _ _ ?_))
         replace H := H.k8 0 2 3 4 5 156 157 158 rfl rfl rfl rfl rfl rfl rfl rfl
         refine y_seq fun K104 hK104 => ?_
         refine wp_block ?_
         refine y_seq fun K105 hK105 => ?_
         refine y_reg ?_
         obtain ⟨cj, hcj⟩ : ∃ c, TN[j]? = some c := ⟨_, List.getElem?_eq_getElem hlt⟩
         have bcj := byte_bd cj
         refine y_idx Tryz.underlying22 info5u H rfl rfl hv88 (by omega) (by rw [Int.toNat_natCast]; exact hcj) rfl fun a ad H hcA => ?_
         refine y_load one5 H rfl hcA rfl fun a H => y_assign H rfl rfl fun a H => wpList_nil (then_normal (hK105 _ _ ?_))
         replace H := H.k9 0 2 3 4 5 13 156 157 158 rfl rfl rfl rfl rfl rfl rfl rfl rfl
         refine y_seq fun K106 hK106 => ?_
         refine y_reg ?_
         refine y_move H rfl rfl fun a H => ?_
         by_cases q107 : ((cj.toNat : Int)) = ((37 : Int))
         ·refine y_eql (b := true) H rfl rfl (ieq_t (by omega)) rfl fun a H => y_move H rfl rfl fun a H => y_off H rfl rfl rfl fun a H => y_off H rfl rfl rfl fun a H => y_off H rfl rfl rfl fun a H => y_offu H rfl rfl rfl fun a H => y_offu H rfl rfl rfl fun a H => y_off H rfl rfl rfl fun a H => y_pick H rfl rfl rfl fun a H => wpList_nil (then_normal (hK106 _ _ ?_))
          replace H := H.k9 0 2 3 4 5 156 157 158 171 rfl rfl rfl rfl rfl rfl rfl rfl rfl
          refine y_ift H rfl ?_
          refine y_seq fun K108 hK108 => ?_
          refine y_reg ?_
          refine y_bld built_tok0 H rfl rfl fun a H => y_move H rfl rfl fun a H => y_move H rfl rfl fun a H => y_call pf_terr H rfl rfl (Calls.mono (typeNameError_any (HH.out.below (hbA.trans ((tn86).below.mono (by omega)))) _ _ hv87 (by first | omega | (simp only [List.length_cons]; omega)) (by omega) 0) ?_)
          rintro e wE109 ⟨⟨te, xe, rfl⟩, hbE110⟩
          refine ⟨_, rfl, fun a H => ?_⟩
          have tn111 := TNW.grow tn86 hbE110
          refine y_storeRow (vs := [_, _, _, _, _, _]) H rfl rfl (hrA.kept ((tn111).below.block _ (by omega))) rfl (tok_size' _ _ _ _ _ _) (by simp [Value.oneCell']) fun w9 hr9 hg9 => ?_
          refine y_assign H rfl rfl fun a H => wpList_nil (then_normal (hK108 _ _ ?_))
          replace H := H.k8 0 2 3 4 5 156 157 158 rfl rfl rfl rfl rfl rfl rfl rfl
          refine wp_ret (in_ret (then_ret (then_ret (in_ret (then_ret (?_))))))
          refine ret2 (by rfl) H rfl rfl hr9 ?_
          rw [show Z = none from by rw [← HZ.out]; exact typeT_bad hF (by rw [hnok]; exact okC_bad hcj (okC_37 (by omega)))]
          have hB := below_grow' (hbA.trans ((tn111).below.mono (by omega))) hg9 (Nat.le_refl _) (Below.size (hbA.trans ((tn111).below.mono (by omega))))
          exact ⟨⟨_, _, rfl⟩, HH.out.below hB, hB⟩
         ·refine y_eql (b := false) H rfl rfl (ieq_f (by omega)) rfl fun a H => y_move H rfl rfl fun a H => y_on H rfl rfl ?_
          refine y_move H rfl rfl fun a H => y_on H rfl rfl ?_
          by_cases q115 : ((cj.toNat : Int)) ≠ ((46 : Int))
          ·refine y_neq (b := true) H rfl rfl (ine_t (by omega)) rfl fun a H => y_on H rfl rfl ?_
           refine y_move H rfl rfl fun a H => y_on H rfl rfl ?_
           refine y_move H rfl rfl fun a H => y_on H rfl rfl ?_
           refine y_call pf_url H rfl rfl (Calls.mono (isUrlC_any cj w4) ?_)
           rintro e w2 ⟨rfl, rfl⟩
           have Hs117 := H
           cases ht116 : urlC cj with
           | true =>
            have H := Hs117
            refine ⟨_, rfl, fun a H => ?_⟩
            refine y_on H rfl rfl ?_
            refine y_pick H rfl rfl rfl fun a H => y_pick H rfl rfl rfl fun a H => wpList_nil (then_normal (hK106 _ _ ?_))
            replace H := H.k9 0 2 3 4 5 156 157 158 171 rfl rfl rfl rfl rfl rfl rfl rfl rfl
            refine y_ift H rfl ?_
            refine y_seq fun K118 hK118 => ?_
            refine y_reg ?_
            refine y_bld built_tok0 H rfl rfl fun a H => y_move H rfl rfl fun a H => y_move H rfl rfl fun a H => y_call pf_terr H rfl rfl (Calls.mono (typeNameError_any (HH.out.below (hbA.trans ((tn86).below.mono (by omega)))) _ _ hv87 (by first | omega | (simp only [List.length_cons]; omega)) (by omega) 0) ?_)
            rintro e wE119 ⟨⟨te, xe, rfl⟩, hbE120⟩
            refine ⟨_, rfl, fun a H => ?_⟩
            have tn121 := TNW.grow tn86 hbE120
            refine y_storeRow (vs := [_, _, _, _, _, _]) H rfl rfl (hrA.kept ((tn121).below.block _ (by omega))) rfl (tok_size' _ _ _ _ _ _) (by simp [Value.oneCell']) fun w9 hr9 hg9 => ?_
            refine y_assign H rfl rfl fun a H => wpList_nil (then_normal (hK118 _ _ ?_))
            replace H := H.k8 0 2 3 4 5 156 157 158 rfl rfl rfl rfl rfl rfl rfl rfl
            refine wp_ret (in_ret (then_ret (then_ret (in_ret (then_ret (?_))))))
            refine ret2 (by rfl) H rfl rfl hr9 ?_
            rw [show Z = none from by rw [← HZ.out]; exact typeT_bad hF (by rw [hnok]; exact okC_bad hcj (by rw [okC_url (by omega) (by omega), ht116]; rfl))]
            have hB := below_grow' (hbA.trans ((tn121).below.mono (by omega))) hg9 (Nat.le_refl _) (Below.size (hbA.trans ((tn121).below.mono (by omega))))
            exact ⟨⟨_, _, rfl⟩, HH.out.below hB, hB⟩
           | false =>
            have H := Hs117
            refine ⟨_, rfl, fun a H => ?_⟩
            refine y_on H rfl rfl ?_
            refine y_pick H rfl rfl rfl fun a H => y_pick H rfl rfl rfl fun a H => wpList_nil (then_normal (hK106 _ _ ?_))
            replace H := H.k9 0 2 3 4 5 156 157 158 171 rfl rfl rfl rfl rfl rfl rfl rfl rfl
            refine y_iff H rfl ?_
            refine wp_skip (in_normal (then_normal (hK104 _ _ ?_)))
            replace H := H.k8 0 2 3 4 5 156 157 158 rfl rfl rfl rfl rfl rfl rfl rfl
            refine y_reg ?_
            refine y_addi (r := ((j + 1 : Nat) : Int)) H rfl rfl (by omega) (by omega) (by omega) rfl fun a H => y_move H rfl rfl fun a H => wpList_nil (then_normal (⟨⟨j + 1, H.sub _ (sub_cons rfl (sub_cons rfl (sub_cons rfl (sub_cons rfl (sub_cons rfl (sub_cons rfl (sub_cons rfl (sub_cons rfl (sub_nil))))))))), by omega, ?_, rfl⟩, ?_⟩))
            ·intro i c hi
             by_cases hij : i < j
             ·exact hinv i _ hij
             ·obtain rfl : i = j := by omega
              intro he; rw [hcj] at he; injection he with he; subst he; exact by rw [okC_url (by omega) (by omega), ht116]; rfl
            ·have h2 := H.ev (x := .tmp 158) rfl
             simp only [HE.out, h2, intOf]
             omega
          ·refine y_neq (b := false) H rfl rfl (ine_f (by omega)) rfl fun a H => y_on H rfl rfl ?_
           refine y_move H rfl rfl fun a H => y_off H rfl rfl rfl fun a H => y_off H rfl rfl rfl fun a H => y_on H rfl rfl ?_
           refine y_pick H rfl rfl rfl fun a H => y_pick H rfl rfl rfl fun a H => wpList_nil (then_normal (hK106 _ _ ?_))
           replace H := H.k9 0 2 3 4 5 156 157 158 171 rfl rfl rfl rfl rfl rfl rfl rfl rfl
           refine y_iff H rfl ?_
           refine wp_skip (in_normal (then_normal (hK104 _ _ ?_)))
           replace H := H.k8 0 2 3 4 5 156 157 158 rfl rfl rfl rfl rfl rfl rfl rfl
           refine y_reg ?_
           refine y_addi (r := ((j + 1 : Nat) : Int)) H rfl rfl (by omega) (by omega) (by omega) rfl fun a H => y_move H rfl rfl fun a H => wpList_nil (then_normal (⟨⟨j + 1, H.sub _ (sub_cons rfl (sub_cons rfl (sub_cons rfl (sub_cons rfl (sub_cons rfl (sub_cons rfl (sub_cons rfl (sub_cons rfl (sub_nil))))))))), by omega, ?_, rfl⟩, ?_⟩))
           ·intro i c hi
            by_cases hij : i < j
            ·exact hinv i _ hij
            ·obtain rfl : i = j := by omega
             intro he; rw [hcj] at he; injection he with he; subst he; exact okC_46 (by omega)
           ·have h2 := H.ev (x := .tmp 158) rfl
            simp only [HE.out, h2, intOf]
            omega
        ·refine y_seq fun K125 hK125 => ?_
         refine y_reg ?_
         refine y_lss (b := false) H rfl rfl (decide_eq_false (by omega)) rfl fun a H => wpList_nil (then_normal (hK125 _ _ ?_))
         replace H := H.k9 0 2 3 4 5 156 157 158 159 rfl rfl rfl rfl rfl rfl rfl rfl rfl
         refine y_seq fun K126 hK126 => ?_
         refine y_iff H rfl ?_
         exact wp_exit (then_exit (then_exit (in_exit (then_normal (hJ4 _  (H.sub _ (sub_cons rfl (sub_cons rfl (sub_cons rfl (sub_cons rfl (sub_cons rfl (sub_nil))))))) (fun i c hi => hinv i _ (by omega)))))))
      refine wp_block ?_
      refine wp_loop (fun a wx => ∃ j : Nat, Has 213 [] a [(0, .pointer (some ⟨p, 0, none⟩)), (2, .pointer (some ⟨w.heap.size, 0, none⟩)), (3, .nilIface), (4, v4), (5, vn), (7, v7), (142, .slice aoP (lensT 0 TN).length cP), (143, .int .i64 (((lensT 0 TN).length : Nat) : Int)), (144, .int .i64 ((j : Nat) : Int))] ∧ j ≤ (lensT 0 TN).length ∧ (∀ (i : Nat) (n : Nat), i < j → (lensT 0 TN)[i]? = some n → n ≠ 0) ∧ w4 = wx) (fun a _ => (lensT 0 TN).length - (intOf (a.eval (.tmp 144))).toNat) ?_ ?_
      ·exact ⟨0, H.sub _ (sub_cons rfl (sub_cons rfl (sub_cons rfl (sub_cons rfl (sub_cons rfl (sub_cons rfl (sub_cons rfl (sub_cons rfl (sub_cons rfl (sub_nil)))))))))), Nat.zero_le _, fun i n hi => by omega, rfl⟩
      ·rintro a wx ⟨j, H, hjl, hinv, rfl⟩
       have HE := hid (H.ev (x := .tmp 144) rfl)
       by_cases hlt : j < (lensT 0 TN).length
       ·obtain ⟨nj, hnj⟩ : ∃ n, (lensT 0 TN)[j]? = some n := ⟨_, List.getElem?_eq_getElem hlt⟩
        obtain ⟨aoE, cE, hxe⟩ := hla.2 j nj hnj
        have hjI : j < (lensT 0 TN).length := hlt
        refine y_seq fun K127 hK127 => ?_
        refine y_reg ?_
        refine y_lss (b := true) H rfl rfl (decide_eq_true (by omega)) rfl fun a H => wpList_nil (then_normal (hK127 _ _ ?_))
        replace H := H.k10 0 2 3 4 5 7 142 143 144 145 rfl rfl rfl rfl rfl rfl rfl rfl rfl rfl
        refine y_seq fun K128 hK128 => ?_
        refine y_ift H rfl ?_
        refine wp_skip (then_normal (hK128 _ _ ?_))
        replace H := H.k9 0 2 3 4 5 7 142 143 144 rfl rfl rfl rfl rfl rfl rfl rfl rfl
        refine y_seq fun K129 hK129 => ?_
        refine wp_block ?_
        refine y_seq fun K130 hK130 => ?_
        refine y_reg ?_
        have hqP : ∃ q, aoP = some ⟨q, 0, none⟩ := by
         rcases hown4.2 with ⟨h1, h2⟩ | ⟨q, cap, cur, h1, _⟩
         ·omega
         ·injection h1 with h1; exact ⟨q, h1⟩
        have Hs131 := H
        obtain ⟨qP, rfl⟩ := hqP
        have H := Hs131
        have hcE2 := World.ownsRow.cells hown4 (g := qP) rfl j _ hxe
        rw [Addr.add_lit, Nat.zero_add] at hcE2
        refine y_idxRow Tryz.underlying90 (by kernel_rfl) H rfl rfl hjI rfl fun a H => y_load one22 H rfl hcE2 rfl fun a H => y_assign H rfl rfl fun a H => wpList_nil (then_normal (hK130 _ _ ?_))
        replace H := H.k10 0 2 3 4 5 7 11 142 143 144 rfl rfl rfl rfl rfl rfl rfl rfl rfl rfl
        refine y_seq fun K132 hK132 => ?_
        refine y_reg ?_
        refine y_move H rfl rfl fun a H => y_lenS Tryz.underlying22 H rfl rfl fun a H => ?_
        by_cases hn0 : nj = 0
        ·have hn0 := hn0
         refine y_eql (b := true) H rfl rfl (ieq_t (by omega)) rfl fun a H => wpList_nil (then_normal (hK132 _ _ ?_))
         replace H := H.k10 0 2 3 4 5 7 142 143 144 150 rfl rfl rfl rfl rfl rfl rfl rfl rfl rfl
         refine y_ift H rfl ?_
         refine y_seq fun K133 hK133 => ?_
         refine y_reg ?_
         refine y_bld built_tok0 H rfl rfl fun a H => y_move H rfl rfl fun a H => y_move H rfl rfl fun a H => y_call pf_terr H rfl rfl (Calls.mono (typeNameError_any (HH.out.below (hbA.trans ((tn86).below.mono (by omega)))) _ _ hv87 (by first | omega | (simp only [List.length_cons]; omega)) (by omega) 0) ?_)
         rintro e wE134 ⟨⟨te, xe, rfl⟩, hbE135⟩
         refine ⟨_, rfl, fun a H => ?_⟩
         have tn136 := TNW.grow tn86 hbE135
         refine y_storeRow (vs := [_, _, _, _, _, _]) H rfl rfl (hrA.kept ((tn136).below.block _ (by omega))) rfl (tok_size' _ _ _ _ _ _) (by simp [Value.oneCell']) fun w9 hr9 hg9 => ?_
         refine y_assign H rfl rfl fun a H => wpList_nil (then_normal (hK133 _ _ ?_))
         replace H := H.k9 0 2 3 4 5 7 142 143 144 rfl rfl rfl rfl rfl rfl rfl rfl rfl
         refine wp_ret (in_ret (then_ret (then_ret (in_ret (then_ret (?_))))))
         refine ret2 (by rfl) H rfl rfl hr9 ?_
         rw [show Z = none from by rw [← HZ.out]; exact typeT_bad hF (by rw [hnok]; exact parts_no (by rw [hnj, hn0]))]
         have hB := below_grow' (hbA.trans ((tn136).below.mono (by omega))) hg9 (Nat.le_refl _) (Below.size (hbA.trans ((tn136).below.mono (by omega))))
         exact ⟨⟨_, _, rfl⟩, HH.out.below hB, hB⟩
        ·have hn0 := hn0
         refine y_eql (b := false) H rfl rfl (ieq_f (by omega)) rfl fun a H => wpList_nil (then_normal (hK132 _ _ ?_))
         replace H := H.k10 0 2 3 4 5 7 142 143 144 150 rfl rfl rfl rfl rfl rfl rfl rfl rfl rfl
         refine y_iff H rfl ?_
         refine wp_skip (in_normal (then_normal (hK129 _ _ ?_)))
         replace H := H.k9 0 2 3 4 5 7 142 143 144 rfl rfl rfl rfl rfl rfl rfl rfl rfl
         refine y_reg ?_
         refine y_addi (r := ((j + 1 : Nat) : Int)) H rfl rfl (by omega) (by omega) (by omega) rfl fun a H => y_move H rfl rfl fun a H => wpList_nil (then_normal (⟨⟨j + 1, H.sub _ (sub_cons rfl (sub_cons rfl (sub_cons rfl (sub_cons rfl (sub_cons rfl (sub_cons rfl (sub_cons rfl (sub_cons rfl (sub_cons rfl (sub_nil)))))))))), by omega, ?_, rfl⟩, ?_⟩))
         ·intro i n hi
          by_cases hij : i < j
          ·exact hinv i _ hij
          ·obtain rfl : i = j := by omega
           intro he; rw [hnj] at he; injection he with he; omega
         ·have h2 := H.ev (x := .tmp 144) rfl
          simp only [HE.out, h2, intOf]
          omega
       ·refine y_seq fun K140 hK140 => ?_
        refine y_reg ?_
        refine y_lss (b := false) H rfl rfl (decide_eq_false (by omega)) rfl fun a H => wpList_nil (then_normal (hK140 _ _ ?_))
        replace H := H.k10 0 2 3 4 5 7 142 143 144 145 rfl rfl rfl rfl rfl rfl rfl rfl rfl rfl
        refine y_seq fun K141 hK141 => ?_
        refine y_iff H rfl ?_
        exact wp_exit (then_exit (then_exit (in_exit (then_normal (hJ3 _  (H.sub _ (sub_cons rfl (sub_cons rfl (sub_cons rfl (sub_cons rfl (sub_cons rfl (sub_cons rfl (sub_nil)))))))) (fun i n hi => hinv i _ (by omega)))))))
     refine y_ift H rfl ?_
     refine y_seq fun K142 hK142 => ?_
     have hlN : pre.length ≤ name.length := by omega
     have htk : name.take pre.length = pre := by rw [hnm]; simp
     have hdp : name.drop (pre.length + 1) = TN := by rw [hnm, List.drop_append]; simp
     refine y_reg ?_
     refine y_move H rfl rfl fun a H => y_move H rfl rfl fun a H => y_upto Tryz.underlying22 info5u H rfl rfl hvN (by omega) (by omega) rfl fun a v H hv143 => ?_
     replace hv143 : View wk gN v pre := hv143.eq (by rw [Int.toNat_natCast, htk])
     refine y_assign H rfl rfl fun a H => wpList_nil (then_normal (hK142 _ _ ?_))
     replace H := H.k8 0 2 3 4 5 7 8 9 rfl rfl rfl rfl rfl rfl rfl rfl
     refine y_seq fun K144 hK144 => ?_
     refine y_reg ?_
     refine y_move H rfl rfl fun a H => y_move H rfl rfl fun a H => y_addi (r := ((pre.length + 1 : Nat) : Int)) H rfl rfl (by omega) (by omega) (by omega) rfl fun a H => y_from Tryz.underlying22 info5u H rfl rfl hvN (by omega) (by omega) rfl fun a v H hv145 => ?_
     replace hv145 : View wk gN v TN := hv145.eq (by rw [Int.toNat_natCast, hdp])
     refine y_assign H rfl rfl fun a H => wpList_nil (then_normal (hK144 _ _ ?_))
     replace H := H.k7 0 2 3 4 5 7 9 rfl rfl rfl rfl rfl rfl rfl
     refine y_seq fun K146 hK146 => ?_
     have Hs147 := H
     rcases pre with _ | ⟨cp, pre⟩
     ·have H := Hs147
      have hlP : (([] : List UInt8)).length = 0 := rfl
      refine y_reg ?_
      refine y_move H rfl rfl fun a H => y_len Tryz.underlying22 H rfl hv143 rfl fun a H => y_gtr (b := false) H rfl rfl (decide_eq_false (by omega)) rfl fun a H => y_move H rfl rfl fun a H => y_off H rfl rfl rfl fun a H => y_off H rfl rfl rfl fun a H => y_off H rfl rfl rfl fun a H => y_off H rfl rfl rfl fun a H => y_pick H rfl rfl rfl fun a H => wpList_nil (then_normal (hK146 _ _ ?_))
      replace H := H.k7 0 2 3 4 5 7 136 rfl rfl rfl rfl rfl rfl rfl
      refine y_iff H rfl ?_
      exact wp_skip (then_normal (hJ2 _ _ _ _ (H.sub _ (sub_cons rfl (sub_cons rfl (sub_cons rfl (sub_cons rfl (sub_cons rfl (sub_cons rfl (sub_nil)))))))) hv145 (by omega) (by rw [nameOk_some hsl])))
     ·have H := Hs147
      have hlP : (cp :: pre).length = pre.length + 1 := rfl
      have bcp := byte_bd cp
      refine y_reg ?_
      refine y_move H rfl rfl fun a H => y_len Tryz.underlying22 H rfl hv143 rfl fun a H => y_gtr (b := true) H rfl rfl (decide_eq_true (by omega)) rfl fun a H => y_move H rfl rfl fun a H => y_on H rfl rfl ?_
      refine y_move H rfl rfl fun a H => y_on H rfl rfl ?_
      refine y_idx Tryz.underlying22 info5u H rfl rfl hv143 (by decide) rfl rfl fun a ad H hc148 => ?_
      refine y_on H rfl rfl ?_
      refine y_load one5 H rfl hc148 rfl fun a H => y_on H rfl rfl ?_
      by_cases q149 : ((cp.toNat : Int)) = ((47 : Int))
      ·refine y_eql (b := true) H rfl rfl (ieq_t (by omega)) rfl fun a H => y_pick H rfl rfl rfl fun a H => wpList_nil (then_normal (hK146 _ _ ?_))
       replace H := H.k7 0 2 3 4 5 7 136 rfl rfl rfl rfl rfl rfl rfl
       refine y_ift H rfl ?_
       refine y_seq fun K150 hK150 => ?_
       refine y_reg ?_
       refine y_bld built_tok0 H rfl rfl fun a H => y_move H rfl rfl fun a H => y_move H rfl rfl fun a H => y_call pf_terr H rfl rfl (Calls.mono (typeNameError_any (HH.out.below (hbA.trans ((tnk).below.mono (by omega)))) _ _ hS (by first | omega | (simp only [List.length_cons]; omega)) (by omega) 0) ?_)
       rintro e wE151 ⟨⟨te, xe, rfl⟩, hbE152⟩
       refine ⟨_, rfl, fun a H => ?_⟩
       have tn153 := TNW.grow tnk hbE152
       refine y_storeRow (vs := [_, _, _, _, _, _]) H rfl rfl (hrA.kept ((tn153).below.block _ (by omega))) rfl (tok_size' _ _ _ _ _ _) (by simp [Value.oneCell']) fun w9 hr9 hg9 => ?_
       refine y_assign H rfl rfl fun a H => wpList_nil (then_normal (hK150 _ _ ?_))
       replace H := H.k6 0 2 3 4 5 7 rfl rfl rfl rfl rfl rfl
       refine wp_ret (then_ret (?_))
       refine ret2 (by rfl) H rfl rfl hr9 ?_
       rw [show Z = none from by rw [← HZ.out]; exact typeT_bad hF (by rw [nameOk_cons hsl, show (cp.toNat == 47) = true by simp; omega]; rfl)]
       have hB := below_grow' (hbA.trans ((tn153).below.mono (by omega))) hg9 (Nat.le_refl _) (Below.size (hbA.trans ((tn153).below.mono (by omega))))
       exact ⟨⟨_, _, rfl⟩, HH.out.below hB, hB⟩
      ·refine y_eql (b := false) H rfl rfl (ieq_f (by omega)) rfl fun a H => y_pick H rfl rfl rfl fun a H => wpList_nil (then_normal (hK146 _ _ ?_))
       replace H := H.k7 0 2 3 4 5 7 136 rfl rfl rfl rfl rfl rfl rfl
       refine y_iff H rfl ?_
       exact wp_skip (then_normal (hJ2 _ _ _ _ (H.sub _ (sub_cons rfl (sub_cons rfl (sub_cons rfl (sub_cons rfl (sub_cons rfl (sub_cons rfl (sub_nil)))))))) hv145 (by omega) (by rw [nameOk_cons hsl, show (cp.toNat == 47) = false by simp; omega, Bool.not_false, Bool.true_and])))
   | false =>
    have H := Hs17
    refine y_reg ?_
    refine y_move H rfl rfl fun a H => y_not H rfl rfl fun a H => wpList_nil (then_normal (hK16 _ _ ?_))
    replace H := H.k6 0 2 3 4 5 113 rfl rfl rfl rfl rfl rfl
    refine y_ift H rfl ?_
    refine y_seq fun K158 hK158 => ?_
    obtain ⟨tE, xE, hcE⟩ := (DW.glob (HH.out.below (hbA.trans ((tnk).below.mono (by omega))))).eof
    refine d_begin (fun w' => w'.cell? ⟨0, 0, none⟩ = some (.iface tE xE)) 4 mixedP rfl ?_
    have hbd : Below wk.heap.size wk wk.drew := (Below.refl _ _).drew
    generalize wk.drew = wd at hbd ⊢
    have hcE := (hbd.cell (World.block_lt_of_cell? _ _ hcE)).trans hcE
    have tn160 := TNW.grow tnk hbd
    refine d_take 0 H rfl (by kernel_rfl) (by kernel_rfl) (by kernel_rfl) (r_bld built_tok0 H rfl) hcE rfl fun a H => d_take 1 H rfl (by kernel_rfl) (by kernel_rfl) (by kernel_rfl) (r_load oneErr H rfl (fun _ h => h)) hcE rfl fun a H => ?_
    refine d_one 2 (by kernel_rfl) rfl rfl ?_
    refine y_storeRow (vs := [_, _, _, _, _, _]) H rfl rfl (hrA.kept ((tn160).below.block _ (by omega))) rfl (tok_size' _ _ _ _ _ _) (by simp [Value.oneCell']) fun w9 hr9 hg9 => ?_
    have hcE9 := grown_cell hg9 hcE (by show 0 ≠ _; omega)
    refine wpList_nil ⟨hcE9, ?_⟩
    refine d_take 3 H rfl (by kernel_rfl) (by kernel_rfl) (by kernel_rfl) (r_assign H rfl) hcE9 rfl fun a H => ?_
    refine d_done (by kernel_rfl) (then_normal (hK158 _ _ ?_))
    replace H := H.k5 0 2 3 4 5 rfl rfl rfl rfl rfl
    refine wp_ret (then_ret (?_))
    refine ret2 (by rfl) H rfl rfl hr9 ?_
    rw [show Z = none from by rw [← HZ.out]; exact typeT_none (by rw [HF.out]; exact hc0 rfl)]
    have hB := below_grow' (hbA.trans ((tn160).below.mono (by omega))) hg9 (Nat.le_refl _) (Below.size (hbA.trans ((tn160).below.mono (by omega))))
    exact ⟨⟨_, _, rfl⟩, HH.out.below hB, hB⟩
  refine wp_block ?_
  refine wp_loop (fun a wx => ∃ (f : Nat) (cl : Bool) (S name : List UInt8) (v4 vn : Value), Has 213 [] a [(0, .pointer (some ⟨p, 0, none⟩)), (2, .pointer (some ⟨w.heap.size, 0, none⟩)), (3, .nilIface), (4, v4), (5, vn), (6, .bool cl)] ∧ View wx g v4 S ∧ TNW wA wx vn name ∧ S.length ≤ bs.length - s.k ∧ name.length + S.length ≤ bs.length ∧ (∃ j, S = bs.drop j) ∧ (cl = false → S.length < f ∧ tnF f S name = F) ∧ (cl = true → F = some (name, S))) (fun a _ => slenT (a.eval (.tmp 4))) ?_ ?_
  ·exact ⟨bs.length + 1, false, _, [], _, _, H.sub _ (sub_cons rfl (sub_cons rfl (sub_cons rfl (sub_cons rfl (sub_cons rfl (sub_cons rfl (sub_nil))))))), hv3, tn0, by omega, by simp; omega, hsuf0, fun _ => ⟨by omega, HF1.out⟩, fun h => by cases h⟩
  ·rintro a wk ⟨f, cl, S, name, v4, vn, H, hS, tnk, hSl, hnl, ⟨j, hj⟩, hc0, hc1⟩
   have HE := hid ((congrArg slenT (H.ev (x := .tmp 4) rfl)).trans (slenT_view hS))
   have hgt := tnk.below.size
   have Hs162 := H
   cases cl with
   | true =>
    have H := Hs162
    replace hc0 : true = false → F = none := fun h => by cases h
    have Hs163 := H
    rcases S with _ | ⟨c, S⟩
    ·have H := Hs163
     have hlS : (([] : List UInt8)).length = 0 := rfl
     refine y_seq fun K164 hK164 => ?_
     refine y_seq fun K165 hK165 => ?_
     refine y_reg ?_
     refine y_move H rfl rfl fun a H => y_len Tryz.underlying22 H rfl hS rfl fun a H => y_gtr (b := false) H rfl rfl (decide_eq_false (by omega)) rfl fun a H => y_move H rfl rfl fun a H => y_off H rfl rfl rfl fun a H => y_off H rfl rfl rfl fun a H => y_pick H rfl rfl rfl fun a H => wpList_nil (then_normal (hK165 _ _ ?_))
     replace H := H.k7 0 2 3 4 5 6 33 rfl rfl rfl rfl rfl rfl rfl
     refine y_iff H rfl ?_
     exact wp_exit (then_exit (then_exit (in_exit (then_normal (hJ1 _ true _ _ _ _ _ (H.sub _ (sub_cons rfl (sub_cons rfl (sub_cons rfl (sub_cons rfl (sub_cons rfl (sub_cons rfl (sub_nil)))))))) hS tnk hSl (by omega) ⟨j, hj⟩ hc0 hc1)))))
    ·have H := Hs163
     have hlS : (c :: S).length = S.length + 1 := rfl
     refine y_seq fun K166 hK166 => ?_
     refine y_seq fun K167 hK167 => ?_
     refine y_reg ?_
     refine y_move H rfl rfl fun a H => y_len Tryz.underlying22 H rfl hS rfl fun a H => y_gtr (b := true) H rfl rfl (decide_eq_true (by omega)) rfl fun a H => y_move H rfl rfl fun a H => y_on H rfl rfl ?_
     refine y_move H rfl rfl fun a H => y_on H rfl rfl ?_
     refine y_not H rfl rfl fun a H => y_pick H rfl rfl rfl fun a H => wpList_nil (then_normal (hK167 _ _ ?_))
     replace H := H.k7 0 2 3 4 5 6 33 rfl rfl rfl rfl rfl rfl rfl
     refine y_iff H rfl ?_
     exact wp_exit (then_exit (then_exit (in_exit (then_normal (hJ1 _ true _ _ _ _ _ (H.sub _ (sub_cons rfl (sub_cons rfl (sub_cons rfl (sub_cons rfl (sub_cons rfl (sub_cons rfl (sub_nil)))))))) hS tnk hSl (by omega) ⟨j, hj⟩ hc0 hc1)))))
   | false =>
    have H := Hs162
    obtain ⟨hf, hT⟩ := hc0 rfl
    clear hc0 hc1
    have Hs168 := H
    obtain ⟨f, rfl⟩ : ∃ f1, f = f1 + 1 := ⟨f - 1, by omega⟩
    have H := Hs168
    have Hs169 := H
    rcases S with _ | ⟨c, S⟩
    ·have H := Hs169
     have hlS : (([] : List UInt8)).length = 0 := rfl
     have hc0 : false = false → F = none := fun _ => by rw [← hT]; rfl
     have hc1 : false = true → F = some (name, []) := fun h => by cases h
     refine y_seq fun K170 hK170 => ?_
     refine y_seq fun K171 hK171 => ?_
     refine y_reg ?_
     refine y_move H rfl rfl fun a H => y_len Tryz.underlying22 H rfl hS rfl fun a H => y_gtr (b := false) H rfl rfl (decide_eq_false (by omega)) rfl fun a H => y_move H rfl rfl fun a H => y_off H rfl rfl rfl fun a H => y_off H rfl rfl rfl fun a H => y_pick H rfl rfl rfl fun a H => wpList_nil (then_normal (hK171 _ _ ?_))
     replace H := H.k7 0 2 3 4 5 6 33 rfl rfl rfl rfl rfl rfl rfl
     refine y_iff H rfl ?_
     exact wp_exit (then_exit (then_exit (in_exit (then_normal (hJ1 _ false _ _ _ _ _ (H.sub _ (sub_cons rfl (sub_cons rfl (sub_cons rfl (sub_cons rfl (sub_cons rfl (sub_cons rfl (sub_nil)))))))) hS tnk hSl (by omega) ⟨j, hj⟩ hc0 hc1)))))
    ·have H := Hs169
     have hlS : (c :: S).length = S.length + 1 := rfl
     have bc := byte_bd c
     refine y_seq fun K172 hK172 => ?_
     refine y_seq fun K173 hK173 => ?_
     refine y_reg ?_
     refine y_move H rfl rfl fun a H => y_len Tryz.underlying22 H rfl hS rfl fun a H => y_gtr (b := true) H rfl rfl (decide_eq_true (by omega)) rfl fun a H => y_move H rfl rfl fun a H => y_on H rfl rfl ?_
     refine y_move H rfl rfl fun a H => y_on H rfl rfl ?_
     refine y_not H rfl rfl fun a H => y_pick H rfl rfl rfl fun a H => wpList_nil (then_normal (hK173 _ _ ?_))
     replace H := H.k7 0 2 3 4 5 6 33 rfl rfl rfl rfl rfl rfl rfl
     refine y_ift H rfl ?_
     refine wp_skip (then_normal (hK172 _ _ ?_))
     replace H := H.k6 0 2 3 4 5 6 rfl rfl rfl rfl rfl rfl
     refine wp_block ?_
     refine wp_block ?_
     refine y_seq fun K174 hK174 => ?_
     refine y_reg ?_
     refine y_move H rfl rfl fun a H => y_idx Tryz.underlying22 info5u H rfl rfl hS (by decide) rfl rfl fun a ad H hc175 => ?_
     refine y_load one5 H rfl hc175 rfl fun a H => ?_
     by_cases q176 : ((c.toNat : Int)) = ((93 : Int))
     ·refine y_eql (b := true) H rfl rfl (ieq_t (by omega)) rfl fun a H => y_assign H rfl rfl fun a H => wpList_nil (then_normal (hK174 _ _ ?_))
      replace H := H.k7 0 2 3 4 5 6 38 rfl rfl rfl rfl rfl rfl rfl
      refine y_ift H rfl ?_
      refine y_seq fun K177 hK177 => ?_
      refine y_reg ?_
      refine y_move H rfl rfl fun a H => y_from Tryz.underlying22 info5u H rfl rfl hS (by decide) (by first | omega | (simp; omega) | simp) rfl fun a v H hv178 => ?_
      replace hv178 : View _ _ v (S) := hv178
      refine y_assign H rfl rfl fun a H => wpList_nil (then_normal (hK177 _ _ ?_))
      replace H := H.k6 0 2 3 4 5 6 rfl rfl rfl rfl rfl rfl
      refine y_reg ?_
      refine y_assign H rfl rfl fun a H => ?_
      obtain ⟨i9, hi9⟩ : ∃ i, S = bs.drop i := ⟨j + 1, suf_tl hj⟩
      have hls9 : (S).length ≤ S.length := by exact Nat.le_refl _
      refine wpList_nil (in_normal (in_normal (then_normal (⟨⟨f, true, _, _, _, _, H.sub _ (sub_cons rfl (sub_cons rfl (sub_cons rfl (sub_cons rfl (sub_cons rfl (sub_cons rfl (sub_nil))))))), hv178, tnk, by omega, by first | omega | ((try simp only [List.length_append] at *); (try simp only [List.length_cons] at *); (try simp only [List.length_nil] at *); omega), ⟨i9, hi9⟩, ?_, ?_⟩, ?_⟩))))
      ·intro h; cases h
      ·intro _; rw [← hT, tnF_hit (by omega)]
      ·have h2 := (congrArg slenT (H.ev (x := .tmp 4) rfl)).trans (slenT_view hv178)
       have h1 := HE.out
       show slenT _ < slenT _
       rw [h1, h2]
       omega
     ·refine y_eql (b := false) H rfl rfl (ieq_f (by omega)) rfl fun a H => y_assign H rfl rfl fun a H => wpList_nil (then_normal (hK174 _ _ ?_))
      replace H := H.k7 0 2 3 4 5 6 38 rfl rfl rfl rfl rfl rfl rfl
      refine y_iff H rfl ?_
      refine y_seq fun K179 hK179 => ?_
      refine y_reg ?_
      refine y_move H rfl rfl fun a H => y_idx Tryz.underlying22 info5u H rfl rfl hS (by decide) rfl rfl fun a ad H hc180 => ?_
      refine y_load one5 H rfl hc180 rfl fun a H => ?_
      by_cases q181 : ((c.toNat : Int)) = ((47 : Int))
      ·refine y_eql (b := true) H rfl rfl (ieq_t (by omega)) rfl fun a H => y_move H rfl rfl fun a H => y_off H rfl rfl rfl fun a H => y_off H rfl rfl rfl fun a H => y_off H rfl rfl rfl fun a H => y_off H rfl rfl rfl fun a H => y_pick H rfl rfl rfl fun a H => y_move H rfl rfl fun a H => y_off H rfl rfl rfl fun a H => y_off H rfl rfl rfl fun a H => y_off H rfl rfl rfl fun a H => ?_
       refine y_off H rfl rfl rfl fun a H => y_pick H rfl rfl rfl fun a H => y_assign H rfl rfl fun a H => wpList_nil (then_normal (hK179 _ _ ?_))
       replace H := H.k7 0 2 3 4 5 6 45 rfl rfl rfl rfl rfl rfl rfl
       have hch : c.toNat = 47 ∨ tnC c = true ∨ urlC c = true := by exact .inl (by omega)
       refine y_ift H rfl ?_
       refine y_seq fun K182 hK182 => ?_
       refine y_reg ?_
       refine y_move H rfl rfl fun a H => y_move H rfl rfl fun a H => y_idx Tryz.underlying22 info5u H rfl rfl hS (by decide) rfl rfl fun a ad H hc183 => ?_
       refine y_load one5 H rfl hc183 rfl fun a H => y_bytes1 Tryz.underlying22 info5u H rfl rfl fun g1 u w184 hv184 hb184 a H => ?_
       have tn185 := TNW.grow tnk hb184
       have hv186 := View.below hS hb184
       refine y_append Tryz.underlying22 info5u H rfl (tn185).own (tn185).below (Nat.le_refl _) rfl hv184 (by (try simp only [List.length_cons, List.length_nil]); omega) rfl fun vn188 wk188 ho188 hk188 a H => ?_
       have tn188 : TNW wA wk188 vn188 (name ++ [c]) := ⟨hk188, ho188⟩
       have hv189 := View.kept hv186 (show wk188.heap[g]? = w184.heap[g]? from (hk188.block g (by omega)).trans ((tn185).below.block g (by omega)).symm)
       refine y_assign H rfl rfl fun a H => wpList_nil (then_normal (hK182 _ _ ?_))
       replace H := H.k6 0 2 3 4 5 6 rfl rfl rfl rfl rfl rfl
       refine y_reg ?_
       refine y_move H rfl rfl fun a H => y_from Tryz.underlying22 info5u H rfl rfl hv189 (by decide) (by first | omega | (simp; omega) | simp) rfl fun a v H hv191 => ?_
       replace hv191 : View _ _ v (S) := hv191
       refine y_call pf_consume H rfl rfl (Calls.mono (cs_any _ _ g wk188 hv191 (by first | omega | (simp; omega))) ?_)
       rintro e w2 ⟨v, rfl, hv192, rfl⟩
       refine ⟨_, rfl, fun a H => ?_⟩
       refine y_assign H rfl rfl fun a H => ?_
       obtain ⟨i9, hi9⟩ : ∃ i, csT (S) = bs.drop i := by obtain ⟨i, _, h⟩ := suf_cs (suf_tl hj); exact ⟨i, h⟩
       have hls9 : (csT (S)).length ≤ S.length := by exact csT_len S
       refine wpList_nil (in_normal (in_normal (then_normal (⟨⟨f, false, _, _, _, _, H.sub _ (sub_cons rfl (sub_cons rfl (sub_cons rfl (sub_cons rfl (sub_cons rfl (sub_cons rfl (sub_nil))))))), hv192, tn188, by omega, by first | omega | ((try simp only [List.length_append] at *); (try simp only [List.length_cons] at *); (try simp only [List.length_nil] at *); omega), ⟨i9, hi9⟩, ?_, ?_⟩, ?_⟩))))
       ·intro _; exact ⟨by (try simp only [List.length_cons] at *); omega, by rw [← hT, tnF_char (by omega) hch]⟩
       ·intro h; cases h
       ·have h2 := (congrArg slenT (H.ev (x := .tmp 4) rfl)).trans (slenT_view hv192)
        have h1 := HE.out
        show slenT _ < slenT _
        rw [h1, h2]
        omega
      ·refine y_eql (b := false) H rfl rfl (ieq_f (by omega)) rfl fun a H => y_move H rfl rfl fun a H => y_on H rfl rfl ?_
       refine y_move H rfl rfl fun a H => y_on H rfl rfl ?_
       refine y_idx Tryz.underlying22 info5u H rfl rfl hS (by decide) rfl rfl fun a ad H hc193 => ?_
       refine y_on H rfl rfl ?_
       refine y_load one5 H rfl hc193 rfl fun a H => y_on H rfl rfl ?_
       refine y_call pf_tnc H rfl rfl (Calls.mono (isTypeC_any c wk) ?_)
       rintro e w2 ⟨rfl, rfl⟩
       have Hs195 := H
       cases ht194 : tnC c with
       | true =>
        have H := Hs195
        refine ⟨_, rfl, fun a H => ?_⟩
        refine y_pick H rfl rfl rfl fun a H => y_move H rfl rfl fun a H => y_off H rfl rfl rfl fun a H => y_off H rfl rfl rfl fun a H => y_off H rfl rfl rfl fun a H => y_off H rfl rfl rfl fun a H => y_pick H rfl rfl rfl fun a H => y_assign H rfl rfl fun a H => wpList_nil (then_normal (hK179 _ _ ?_))
        replace H := H.k7 0 2 3 4 5 6 45 rfl rfl rfl rfl rfl rfl rfl
        have hch : c.toNat = 47 ∨ tnC c = true ∨ urlC c = true := by exact .inr (.inl ht194)
        refine y_ift H rfl ?_
        refine y_seq fun K196 hK196 => ?_
        refine y_reg ?_
        refine y_move H rfl rfl fun a H => y_move H rfl rfl fun a H => y_idx Tryz.underlying22 info5u H rfl rfl hS (by decide) rfl rfl fun a ad H hc197 => ?_
        refine y_load one5 H rfl hc197 rfl fun a H => y_bytes1 Tryz.underlying22 info5u H rfl rfl fun g1 u w198 hv198 hb198 a H => ?_
        have tn199 := TNW.grow tnk hb198
        have hv200 := View.below hS hb198
        refine y_append Tryz.underlying22 info5u H rfl (tn199).own (tn199).below (Nat.le_refl _) rfl hv198 (by (try simp only [List.length_cons, List.length_nil]); omega) rfl fun vn202 wk202 ho202 hk202 a H => ?_
        have tn202 : TNW wA wk202 vn202 (name ++ [c]) := ⟨hk202, ho202⟩
        have hv203 := View.kept hv200 (show wk202.heap[g]? = w198.heap[g]? from (hk202.block g (by omega)).trans ((tn199).below.block g (by omega)).symm)
        refine y_assign H rfl rfl fun a H => wpList_nil (then_normal (hK196 _ _ ?_))
        replace H := H.k6 0 2 3 4 5 6 rfl rfl rfl rfl rfl rfl
        refine y_reg ?_
        refine y_move H rfl rfl fun a H => y_from Tryz.underlying22 info5u H rfl rfl hv203 (by decide) (by first | omega | (simp; omega) | simp) rfl fun a v H hv205 => ?_
        replace hv205 : View _ _ v (S) := hv205
        refine y_call pf_consume H rfl rfl (Calls.mono (cs_any _ _ g wk202 hv205 (by first | omega | (simp; omega))) ?_)
        rintro e w2 ⟨v, rfl, hv206, rfl⟩
        refine ⟨_, rfl, fun a H => ?_⟩
        refine y_assign H rfl rfl fun a H => ?_
        obtain ⟨i9, hi9⟩ : ∃ i, csT (S) = bs.drop i := by obtain ⟨i, _, h⟩ := suf_cs (suf_tl hj); exact ⟨i, h⟩
        have hls9 : (csT (S)).length ≤ S.length := by exact csT_len S
        refine wpList_nil (in_normal (in_normal (then_normal (⟨⟨f, false, _, _, _, _, H.sub _ (sub_cons rfl (sub_cons rfl (sub_cons rfl (sub_cons rfl (sub_cons rfl (sub_cons rfl (sub_nil))))))), hv206, tn202, by omega, by first | omega | ((try simp only [List.length_append] at *); (try simp only [List.length_cons] at *); (try simp only [List.length_nil] at *); omega), ⟨i9, hi9⟩, ?_, ?_⟩, ?_⟩))))
        ·intro _; exact ⟨by (try simp only [List.length_cons] at *); omega, by rw [← hT, tnF_char (by omega) hch]⟩
        ·intro h; cases h
        ·have h2 := (congrArg slenT (H.ev (x := .tmp 4) rfl)).trans (slenT_view hv206)
         have h1 := HE.out
         show slenT _ < slenT _
         rw [h1, h2]
         omega
       | false =>
        have H := Hs195
        refine ⟨_, rfl, fun a H => ?_⟩
        refine y_pick H rfl rfl rfl fun a H => y_move H rfl rfl fun a H => y_on H rfl rfl ?_
        refine y_move H rfl rfl fun a H => y_on H rfl rfl ?_
        refine y_idx Tryz.underlying22 info5u H rfl rfl hS (by decide) rfl rfl fun a ad H hc207 => ?_
        refine y_on H rfl rfl ?_
        refine y_load one5 H rfl hc207 rfl fun a H => y_on H rfl rfl ?_
        refine y_call pf_url H rfl rfl (Calls.mono (isUrlC_any c wk) ?_)
        rintro e w2 ⟨rfl, rfl⟩
        have Hs209 := H
        cases ht208 : urlC c with
        | true =>
         have H := Hs209
         refine ⟨_, rfl, fun a H => ?_⟩
         refine y_pick H rfl rfl rfl fun a H => y_assign H rfl rfl fun a H => wpList_nil (then_normal (hK179 _ _ ?_))
         replace H := H.k7 0 2 3 4 5 6 45 rfl rfl rfl rfl rfl rfl rfl
         have hch : c.toNat = 47 ∨ tnC c = true ∨ urlC c = true := by exact .inr (.inr ht208)
         refine y_ift H rfl ?_
         refine y_seq fun K210 hK210 => ?_
         refine y_reg ?_
         refine y_move H rfl rfl fun a H => y_move H rfl rfl fun a H => y_idx Tryz.underlying22 info5u H rfl rfl hS (by decide) rfl rfl fun a ad H hc211 => ?_
         refine y_load one5 H rfl hc211 rfl fun a H => y_bytes1 Tryz.underlying22 info5u H rfl rfl fun g1 u w212 hv212 hb212 a H => ?_
         have tn213 := TNW.grow tnk hb212
         have hv214 := View.below hS hb212
         refine y_append Tryz.underlying22 info5u H rfl (tn213).own (tn213).below (Nat.le_refl _) rfl hv212 (by (try simp only [List.length_cons, List.length_nil]); omega) rfl fun vn216 wk216 ho216 hk216 a H => ?_
         have tn216 : TNW wA wk216 vn216 (name ++ [c]) := ⟨hk216, ho216⟩
         have hv217 := View.kept hv214 (show wk216.heap[g]? = w212.heap[g]? from (hk216.block g (by omega)).trans ((tn213).below.block g (by omega)).symm)
         refine y_assign H rfl rfl fun a H => wpList_nil (then_normal (hK210 _ _ ?_))
         replace H := H.k6 0 2 3 4 5 6 rfl rfl rfl rfl rfl rfl
         refine y_reg ?_
         refine y_move H rfl rfl fun a H => y_from Tryz.underlying22 info5u H rfl rfl hv217 (by decide) (by first | omega | (simp; omega) | simp) rfl fun a v H hv219 => ?_
         replace hv219 : View _ _ v (S) := hv219
         refine y_call pf_consume H rfl rfl (Calls.mono (cs_any _ _ g wk216 hv219 (by first | omega | (simp; omega))) ?_)
         rintro e w2 ⟨v, rfl, hv220, rfl⟩
         refine ⟨_, rfl, fun a H => ?_⟩
         refine y_assign H rfl rfl fun a H => ?_
         obtain ⟨i9, hi9⟩ : ∃ i, csT (S) = bs.drop i := by obtain ⟨i, _, h⟩ := suf_cs (suf_tl hj); exact ⟨i, h⟩
         have hls9 : (csT (S)).length ≤ S.length := by exact csT_len S
         refine wpList_nil (in_normal (in_normal (then_normal (⟨⟨f, false, _, _, _, _, H.sub _ (sub_cons rfl (sub_cons rfl (sub_cons rfl (sub_cons rfl (sub_cons rfl (sub_cons rfl (sub_nil))))))), hv220, tn216, by omega, by first | omega | ((try simp only [List.length_append] at *); (try simp only [List.length_cons] at *); (try simp only [List.length_nil] at *); omega), ⟨i9, hi9⟩, ?_, ?_⟩, ?_⟩))))
         ·intro _; exact ⟨by (try simp only [List.length_cons] at *); omega, by rw [← hT, tnF_char (by omega) hch]⟩
         ·intro h; cases h
         ·have h2 := (congrArg slenT (H.ev (x := .tmp 4) rfl)).trans (slenT_view hv220)
          have h1 := HE.out
          show slenT _ < slenT _
          rw [h1, h2]
          omega
        | false =>
         have H := Hs209
         refine ⟨_, rfl, fun a H => ?_⟩
         refine y_pick H rfl rfl rfl fun a H => y_assign H rfl rfl fun a H => wpList_nil (then_normal (hK179 _ _ ?_))
         replace H := H.k7 0 2 3 4 5 6 45 rfl rfl rfl rfl rfl rfl rfl
         have hno := not3 (by omega) ht194 ht208
         refine y_iff H rfl ?_
         refine y_seq fun K221 hK221 => ?_
         refine y_reg ?_
         refine y_move H rfl rfl fun a H => y_idx Tryz.underlying22 info5u H rfl rfl hS (by decide) rfl rfl fun a ad H hc222 => ?_
         refine y_load one5 H rfl hc222 rfl fun a H => ?_
         by_cases q223 : ((c.toNat : Int)) = ((37 : Int))
         ·refine y_eql (b := true) H rfl rfl (ieq_t (by omega)) rfl fun a H => y_assign H rfl rfl fun a H => wpList_nil (then_normal (hK221 _ _ ?_))
          replace H := H.k7 0 2 3 4 5 6 71 rfl rfl rfl rfl rfl rfl rfl
          refine y_ift H rfl ?_
          refine y_seq fun K224 hK224 => ?_
          refine y_seq fun K225 hK225 => ?_
          have Hs226 := H
          rcases S with _ | ⟨x, _ | ⟨y, S⟩⟩
          ·have H := Hs226
           have hlS2 : ([c]).length = 1 := rfl
           refine y_reg ?_
           refine y_move H rfl rfl fun a H => y_len Tryz.underlying22 H rfl hS rfl fun a H => y_lss (b := true) H rfl rfl (decide_eq_true (by omega)) rfl fun a H => y_move H rfl rfl fun a H => y_off H rfl rfl rfl fun a H => y_off H rfl rfl rfl fun a H => y_off H rfl rfl rfl fun a H => y_off H rfl rfl rfl fun a H => y_off H rfl rfl rfl fun a H => y_pick H rfl rfl rfl fun a H => y_move H rfl rfl fun a H => ?_
           refine y_off H rfl rfl rfl fun a H => y_off H rfl rfl rfl fun a H => y_off H rfl rfl rfl fun a H => y_off H rfl rfl rfl fun a H => y_off H rfl rfl rfl fun a H => y_pick H rfl rfl rfl fun a H => wpList_nil (then_normal (hK225 _ _ ?_))
           replace H := H.k7 0 2 3 4 5 6 92 rfl rfl rfl rfl rfl rfl rfl
           refine y_ift H rfl ?_
           refine y_seq fun K227 hK227 => ?_
           refine y_reg ?_
           refine y_bld built_tok0 H rfl rfl fun a H => y_move H rfl rfl fun a H => y_move H rfl rfl fun a H => y_call pf_terr H rfl rfl (Calls.mono (typeNameError_any (HH.out.below (hbA.trans ((tnk).below.mono (by omega)))) _ _ hS (by first | omega | (simp only [List.length_cons]; omega)) (by omega) 3) ?_)
           rintro e wE228 ⟨⟨te, xe, rfl⟩, hbE229⟩
           refine ⟨_, rfl, fun a H => ?_⟩
           have tn230 := TNW.grow tnk hbE229
           refine y_storeRow (vs := [_, _, _, _, _, _]) H rfl rfl (hrA.kept ((tn230).below.block _ (by omega))) rfl (tok_size' _ _ _ _ _ _) (by simp [Value.oneCell']) fun w9 hr9 hg9 => ?_
           refine y_assign H rfl rfl fun a H => wpList_nil (then_normal (hK227 _ _ ?_))
           replace H := H.k6 0 2 3 4 5 6 rfl rfl rfl rfl rfl rfl
           refine wp_ret (then_ret (in_ret (in_ret (then_ret (in_ret (then_ret (?_)))))))
           refine ret2 (by rfl) H rfl rfl hr9 ?_
           rw [show Z = none from by rw [← HZ.out]; exact typeT_none (by rw [HF.out, ← hT]; exact tnF_hex0 (by omega) hno (by simp))]
           have hB := below_grow' (hbA.trans ((tn230).below.mono (by omega))) hg9 (Nat.le_refl _) (Below.size (hbA.trans ((tn230).below.mono (by omega))))
           exact ⟨⟨_, _, rfl⟩, HH.out.below hB, hB⟩
          ·have H := Hs226
           have hlS2 : ([c, x]).length = 2 := rfl
           refine y_reg ?_
           refine y_move H rfl rfl fun a H => y_len Tryz.underlying22 H rfl hS rfl fun a H => y_lss (b := true) H rfl rfl (decide_eq_true (by omega)) rfl fun a H => y_move H rfl rfl fun a H => y_off H rfl rfl rfl fun a H => y_off H rfl rfl rfl fun a H => y_off H rfl rfl rfl fun a H => y_off H rfl rfl rfl fun a H => y_off H rfl rfl rfl fun a H => y_pick H rfl rfl rfl fun a H => y_move H rfl rfl fun a H => ?_
           refine y_off H rfl rfl rfl fun a H => y_off H rfl rfl rfl fun a H => y_off H rfl rfl rfl fun a H => y_off H rfl rfl rfl fun a H => y_off H rfl rfl rfl fun a H => y_pick H rfl rfl rfl fun a H => wpList_nil (then_normal (hK225 _ _ ?_))
           replace H := H.k7 0 2 3 4 5 6 92 rfl rfl rfl rfl rfl rfl rfl
           refine y_ift H rfl ?_
           refine y_seq fun K233 hK233 => ?_
           refine y_reg ?_
           refine y_bld built_tok0 H rfl rfl fun a H => y_move H rfl rfl fun a H => y_move H rfl rfl fun a H => y_call pf_terr H rfl rfl (Calls.mono (typeNameError_any (HH.out.below (hbA.trans ((tnk).below.mono (by omega)))) _ _ hS (by first | omega | (simp only [List.length_cons]; omega)) (by omega) 3) ?_)
           rintro e wE234 ⟨⟨te, xe, rfl⟩, hbE235⟩
           refine ⟨_, rfl, fun a H => ?_⟩
           have tn236 := TNW.grow tnk hbE235
           refine y_storeRow (vs := [_, _, _, _, _, _]) H rfl rfl (hrA.kept ((tn236).below.block _ (by omega))) rfl (tok_size' _ _ _ _ _ _) (by simp [Value.oneCell']) fun w9 hr9 hg9 => ?_
           refine y_assign H rfl rfl fun a H => wpList_nil (then_normal (hK233 _ _ ?_))
           replace H := H.k6 0 2 3 4 5 6 rfl rfl rfl rfl rfl rfl
           refine wp_ret (then_ret (in_ret (in_ret (then_ret (in_ret (then_ret (?_)))))))
           refine ret2 (by rfl) H rfl rfl hr9 ?_
           rw [show Z = none from by rw [← HZ.out]; exact typeT_none (by rw [HF.out, ← hT]; exact tnF_hex0 (by omega) hno (by simp))]
           have hB := below_grow' (hbA.trans ((tn236).below.mono (by omega))) hg9 (Nat.le_refl _) (Below.size (hbA.trans ((tn236).below.mono (by omega))))
           exact ⟨⟨_, _, rfl⟩, HH.out.below hB, hB⟩
          ·have H := Hs226
           have hlS2 : (c :: x :: y :: S).length = S.length + 3 := rfl
           refine y_reg ?_
           refine y_move H rfl rfl fun a H => y_len Tryz.underlying22 H rfl hS rfl fun a H => y_lss (b := false) H rfl rfl (decide_eq_false (by omega)) rfl fun a H => y_move H rfl rfl fun a H => y_on H rfl rfl ?_
           refine y_move H rfl rfl fun a H => y_on H rfl rfl ?_
           refine y_idx Tryz.underlying22 info5u H rfl rfl hS (by decide) rfl rfl fun a ad H hc239 => ?_
           refine y_on H rfl rfl ?_
           refine y_load one5 H rfl hc239 rfl fun a H => y_on H rfl rfl ?_
           refine y_call pf_hex H rfl rfl (Calls.mono (isHexC_any x wk) ?_)
           rintro e w2 ⟨rfl, rfl⟩
           have Hs241 := H
           cases ht240 : isHex x with
           | true =>
            have H := Hs241
            refine ⟨_, rfl, fun a H => ?_⟩
            refine y_on H rfl rfl ?_
            refine y_not H rfl rfl fun a H => y_pick H rfl rfl rfl fun a H => y_move H rfl rfl fun a H => y_on H rfl rfl ?_
            refine y_move H rfl rfl fun a H => y_on H rfl rfl ?_
            refine y_idx Tryz.underlying22 info5u H rfl rfl hS (by decide) rfl rfl fun a ad H hc242 => ?_
            refine y_on H rfl rfl ?_
            refine y_load one5 H rfl hc242 rfl fun a H => y_on H rfl rfl ?_
            refine y_call pf_hex H rfl rfl (Calls.mono (isHexC_any y wk) ?_)
            rintro e w2 ⟨rfl, rfl⟩
            have Hs244 := H
            cases ht243 : isHex y with
            | true =>
             have H := Hs244
             refine ⟨_, rfl, fun a H => ?_⟩
             refine y_on H rfl rfl ?_
             refine y_not H rfl rfl fun a H => y_pick H rfl rfl rfl fun a H => wpList_nil (then_normal (hK225 _ _ ?_))
             replace H := H.k7 0 2 3 4 5 6 92 rfl rfl rfl rfl rfl rfl rfl
             refine y_iff H rfl ?_
             refine wp_skip (then_normal (hK224 _ _ ?_))
             replace H := H.k6 0 2 3 4 5 6 rfl rfl rfl rfl rfl rfl
             refine y_seq fun K245 hK245 => ?_
             refine d_begin (fun w' => w'.heap[g]? = wk.heap[g]?) 13 mixedP rfl ?_
             have hbd : Below wk.heap.size wk wk.drew := (Below.refl _ _).drew
             have hSp : wk.drew.heap[g]? = wk.heap[g]? := rfl
             generalize wk.drew = wd at hbd hSp ⊢
             have tn247 := TNW.grow tnk hbd
             have hv248 := View.below hS hbd
             refine d_take 0 H rfl (by kernel_rfl) (by kernel_rfl) (by kernel_rfl) (r_move H rfl) hSp rfl fun a H => d_take 1 H rfl (by kernel_rfl) (by kernel_rfl) (by kernel_rfl) (r_move H rfl) hSp rfl fun a H => ?_
             refine Exists.elim (r_idx Tryz.underlying22 info5u H rfl rfl hv248 (by decide) rfl) fun adhc249 hadhc249 => d_take 2 H rfl (by kernel_rfl) (by kernel_rfl) (by kernel_rfl) hadhc249.2.2 hSp rfl fun a H => ?_
             obtain ⟨hc249b, hc249, _⟩ := hadhc249
             refine d_take 3 H rfl (by kernel_rfl) (by kernel_rfl) (by kernel_rfl) (r_load one5 H rfl (fun _ h => (World.cell?_of_block (by rw [hc249b]; exact h.trans hSp.symm)).trans hc249)) hSp rfl fun a H => d_take 4 H rfl (by kernel_rfl) (by kernel_rfl) (by kernel_rfl) (r_move H rfl) hSp rfl fun a H => ?_
             refine Exists.elim (r_idx Tryz.underlying22 info5u H rfl rfl hv248 (by decide) rfl) fun adhc250 hadhc250 => d_take 5 H rfl (by kernel_rfl) (by kernel_rfl) (by kernel_rfl) hadhc250.2.2 hSp rfl fun a H => ?_
             obtain ⟨hc250b, hc250, _⟩ := hadhc250
             refine d_take 6 H rfl (by kernel_rfl) (by kernel_rfl) (by kernel_rfl) (r_load one5 H rfl (fun _ h => (World.cell?_of_block (by rw [hc250b]; exact h.trans hSp.symm)).trans hc250)) hSp rfl fun a H => d_take 7 H rfl (by kernel_rfl) (by kernel_rfl) (by kernel_rfl) (r_move H rfl) hSp rfl fun a H => ?_
             refine Exists.elim (r_idx Tryz.underlying22 info5u H rfl rfl hv248 (by decide) rfl) fun adhc251 hadhc251 => d_take 8 H rfl (by kernel_rfl) (by kernel_rfl) (by kernel_rfl) hadhc251.2.2 hSp rfl fun a H => ?_
             obtain ⟨hc251b, hc251, _⟩ := hadhc251
             refine d_take 9 H rfl (by kernel_rfl) (by kernel_rfl) (by kernel_rfl) (r_load one5 H rfl (fun _ h => (World.cell?_of_block (by rw [hc251b]; exact h.trans hSp.symm)).trans hc251)) hSp rfl fun a H => ?_
             refine d_one 10 (by kernel_rfl) rfl rfl ?_
             refine y_bytes3 Tryz.underlying22 info5u H rfl rfl rfl rfl fun g1 u w252 hv252 hb252 a H => ?_
             have tn253 := TNW.grow tn247 hb252
             have hv254 := View.below hv248 hb252
             have hSp252 : w252.heap[g]? = wk.heap[g]? := (hb252.block g (by have := (tn247).below.size; omega)).trans hSp
             refine wpList_nil ⟨hSp252, ?_⟩
             refine d_one 11 (by kernel_rfl) rfl rfl ?_
             refine y_append Tryz.underlying22 info5u H rfl (tn253).own (tn253).below (Nat.le_refl _) rfl hv252 (by (try simp only [List.length_cons, List.length_nil]); omega) rfl fun vn258 wk258 ho258 hk258 a H => ?_
             have tn258 : TNW wA wk258 vn258 (name ++ [c, x, y]) := ⟨hk258, ho258⟩
             have hv259 := View.kept hv254 (show wk258.heap[g]? = w252.heap[g]? from (hk258.block g (by omega)).trans ((tn253).below.block g (by omega)).symm)
             have hSq258 : wk258.heap[g]? = wk.heap[g]? := (hk258.block g (by omega)).trans (((tnk).below.block g (by omega)).symm)
             refine wpList_nil ⟨hSq258, ?_⟩
             refine d_take 12 H rfl (by kernel_rfl) (by kernel_rfl) (by kernel_rfl) (r_assign H rfl) hSq258 rfl fun a H => ?_
             refine d_done (by kernel_rfl) (then_normal (hK245 _ _ ?_))
             replace H := H.k6 0 2 3 4 5 6 rfl rfl rfl rfl rfl rfl
             refine y_reg ?_
             refine y_move H rfl rfl fun a H => y_from Tryz.underlying22 info5u H rfl rfl hv259 (by decide) (by first | omega | (simp; omega) | simp) rfl fun a v H hv263 => ?_
             replace hv263 : View _ _ v (S) := hv263
             refine y_call pf_consume H rfl rfl (Calls.mono (cs_any _ _ g wk258 hv263 (by first | omega | (simp; omega))) ?_)
             rintro e w2 ⟨v, rfl, hv264, rfl⟩
             refine ⟨_, rfl, fun a H => ?_⟩
             refine y_assign H rfl rfl fun a H => ?_
             obtain ⟨i9, hi9⟩ : ∃ i, csT (S) = bs.drop i := by obtain ⟨i, _, h⟩ := suf_cs (suf_tl (suf_tl (suf_tl hj))); exact ⟨i, h⟩
             have hls9 : (csT (S)).length ≤ S.length := by have := csT_len S; (try simp only [List.length_cons]); omega
             refine wpList_nil (in_normal (in_normal (then_normal (⟨⟨f, false, _, _, _, _, H.sub _ (sub_cons rfl (sub_cons rfl (sub_cons rfl (sub_cons rfl (sub_cons rfl (sub_cons rfl (sub_nil))))))), hv264, tn258, by omega, by first | omega | ((try simp only [List.length_append] at *); (try simp only [List.length_cons] at *); (try simp only [List.length_nil] at *); omega), ⟨i9, hi9⟩, ?_, ?_⟩, ?_⟩))))
             ·intro _; exact ⟨by (try simp only [List.length_cons] at *); omega, by rw [← hT, tnF_hex (by omega) hno ht240 ht243]⟩
             ·intro h; cases h
             ·have h2 := (congrArg slenT (H.ev (x := .tmp 4) rfl)).trans (slenT_view hv264)
              have h1 := HE.out
              show slenT _ < slenT _
              rw [h1, h2]
              omega
            | false =>
             have H := Hs244
             refine ⟨_, rfl, fun a H => ?_⟩
             refine y_on H rfl rfl ?_
             refine y_not H rfl rfl fun a H => y_pick H rfl rfl rfl fun a H => wpList_nil (then_normal (hK225 _ _ ?_))
             replace H := H.k7 0 2 3 4 5 6 92 rfl rfl rfl rfl rfl rfl rfl
             refine y_ift H rfl ?_
             refine y_seq fun K265 hK265 => ?_
             refine y_reg ?_
             refine y_bld built_tok0 H rfl rfl fun a H => y_move H rfl rfl fun a H => y_move H rfl rfl fun a H => y_call pf_terr H rfl rfl (Calls.mono (typeNameError_any (HH.out.below (hbA.trans ((tnk).below.mono (by omega)))) _ _ hS (by first | omega | (simp only [List.length_cons]; omega)) (by omega) 3) ?_)
             rintro e wE266 ⟨⟨te, xe, rfl⟩, hbE267⟩
             refine ⟨_, rfl, fun a H => ?_⟩
             have tn268 := TNW.grow tnk hbE267
             refine y_storeRow (vs := [_, _, _, _, _, _]) H rfl rfl (hrA.kept ((tn268).below.block _ (by omega))) rfl (tok_size' _ _ _ _ _ _) (by simp [Value.oneCell']) fun w9 hr9 hg9 => ?_
             refine y_assign H rfl rfl fun a H => wpList_nil (then_normal (hK265 _ _ ?_))
             replace H := H.k6 0 2 3 4 5 6 rfl rfl rfl rfl rfl rfl
             refine wp_ret (then_ret (in_ret (in_ret (then_ret (in_ret (then_ret (?_)))))))
             refine ret2 (by rfl) H rfl rfl hr9 ?_
             rw [show Z = none from by rw [← HZ.out]; exact typeT_none (by rw [HF.out, ← hT]; exact tnF_hexNo (by omega) hno (.inr ht243))]
             have hB := below_grow' (hbA.trans ((tn268).below.mono (by omega))) hg9 (Nat.le_refl _) (Below.size (hbA.trans ((tn268).below.mono (by omega))))
             exact ⟨⟨_, _, rfl⟩, HH.out.below hB, hB⟩
           | false =>
            have H := Hs241
            refine ⟨_, rfl, fun a H => ?_⟩
            refine y_on H rfl rfl ?_
            refine y_not H rfl rfl fun a H => y_pick H rfl rfl rfl fun a H => y_move H rfl rfl fun a H => y_off H rfl rfl rfl fun a H => y_off H rfl rfl rfl fun a H => y_off H rfl rfl rfl fun a H => y_off H rfl rfl rfl fun a H => y_off H rfl rfl rfl fun a H => y_pick H rfl rfl rfl fun a H => wpList_nil (then_normal (hK225 _ _ ?_))
            replace H := H.k7 0 2 3 4 5 6 92 rfl rfl rfl rfl rfl rfl rfl
            refine y_ift H rfl ?_
            refine y_seq fun K271 hK271 => ?_
            refine y_reg ?_
            refine y_bld built_tok0 H rfl rfl fun a H => y_move H rfl rfl fun a H => y_move H rfl rfl fun a H => y_call pf_terr H rfl rfl (Calls.mono (typeNameError_any (HH.out.below (hbA.trans ((tnk).below.mono (by omega)))) _ _ hS (by first | omega | (simp only [List.length_cons]; omega)) (by omega) 3) ?_)
            rintro e wE272 ⟨⟨te, xe, rfl⟩, hbE273⟩
            refine ⟨_, rfl, fun a H => ?_⟩
            have tn274 := TNW.grow tnk hbE273
            refine y_storeRow (vs := [_, _, _, _, _, _]) H rfl rfl (hrA.kept ((tn274).below.block _ (by omega))) rfl (tok_size' _ _ _ _ _ _) (by simp [Value.oneCell']) fun w9 hr9 hg9 => ?_
            refine y_assign H rfl rfl fun a H => wpList_nil (then_normal (hK271 _ _ ?_))
            replace H := H.k6 0 2 3 4 5 6 rfl rfl rfl rfl rfl rfl
            refine wp_ret (then_ret (in_ret (in_ret (then_ret (in_ret (then_ret (?_)))))))
            refine ret2 (by rfl) H rfl rfl hr9 ?_
            rw [show Z = none from by rw [← HZ.out]; exact typeT_none (by rw [HF.out, ← hT]; exact tnF_hexNo (by omega) hno (.inl ht240))]
            have hB := below_grow' (hbA.trans ((tn274).below.mono (by omega))) hg9 (Nat.le_refl _) (Below.size (hbA.trans ((tn274).below.mono (by omega))))
            exact ⟨⟨_, _, rfl⟩, HH.out.below hB, hB⟩
         ·refine y_eql (b := false) H rfl rfl (ieq_f (by omega)) rfl fun a H => y_assign H rfl rfl fun a H => wpList_nil (then_normal (hK221 _ _ ?_))
          replace H := H.k7 0 2 3 4 5 6 71 rfl rfl rfl rfl rfl rfl rfl
          refine y_iff H rfl ?_
          refine y_seq fun K277 hK277 => ?_
          refine y_reg ?_
          refine y_bld built_tok0 H rfl rfl fun a H => y_move H rfl rfl fun a H => y_move H rfl rfl fun a H => y_call pf_terr H rfl rfl (Calls.mono (typeNameError_any (HH.out.below (hbA.trans ((tnk).below.mono (by omega)))) _ _ hS (by first | omega | (simp only [List.length_cons]; omega)) (by omega) 1) ?_)
          rintro e wE278 ⟨⟨te, xe, rfl⟩, hbE279⟩
          refine ⟨_, rfl, fun a H => ?_⟩
          have tn280 := TNW.grow tnk hbE279
          refine y_storeRow (vs := [_, _, _, _, _, _]) H rfl rfl (hrA.kept ((tn280).below.block _ (by omega))) rfl (tok_size' _ _ _ _ _ _) (by simp [Value.oneCell']) fun w9 hr9 hg9 => ?_
          refine y_assign H rfl rfl fun a H => wpList_nil (then_normal (hK277 _ _ ?_))
          replace H := H.k6 0 2 3 4 5 6 rfl rfl rfl rfl rfl rfl
          refine wp_ret (in_ret (in_ret (then_ret (in_ret (then_ret (?_))))))
          refine ret2 (by rfl) H rfl rfl hr9 ?_
          rw [show Z = none from by rw [← HZ.out]; exact typeT_none (by rw [HF.out, ← hT]; exact tnF_bad (by omega) hno (by omega))]
          have hB := below_grow' (hbA.trans ((tn280).below.mono (by omega))) hg9 (Nat.le_refl _) (Below.size (hbA.trans ((tn280).below.mono (by omega))))
          exact ⟨⟨_, _, rfl⟩, HH.out.below hB, hB⟩
end Go.Proofs.YtgdnpnipahegaaaGreatDoor
