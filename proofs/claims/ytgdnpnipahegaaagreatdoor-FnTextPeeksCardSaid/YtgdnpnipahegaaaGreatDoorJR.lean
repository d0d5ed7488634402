/-
 The package's reader of the text form, walked: a Read.
-/
import Derived.Test.YtgdnpnipahegaaaGreatDoorTReadP

namespace Go.Proofs.YtgdnpnipahegaaaGreatDoor
open Go.ChangeShapes Go.WideShapes Go.ChangeAt Go.RowKit

variable {B p g : Nat} {bs : List UInt8} {vr ve vst vo vi : Value} {s : DT} {w : World}
set_option maxRecDepth 100000 in
set_option maxHeartbeats 100000000 in
theorem read_any (h : DW B p g bs vr ve vst vo vi s w) (hm : bs.length ≤ 10000000) (hok : s.peeked = false → DOk2 s.st s.tok.kind s.k) :
  Calls Tryz.prog 19 #[.pointer (some ⟨p, 0, none⟩)] w (ReadRes B p g bs vst vo s w (readT bs s)) := by
 suffices key : ∀ Z, Hid (readT bs s = Z) → Calls Tryz.prog 19 #[.pointer (some ⟨p, 0, none⟩)] w (ReadRes B p g bs vst vo s w Z) from key _ (hid rfl)
 intro Z HZ
 obtain ⟨ao, n, c, rfl⟩ := View.slice3 h.raw
 have hlp := h.lt
 have hgl := h.gl
 have hgp : g ≠ p := h.gp
 have HO := hid h.ownLt
 have h9 : 9 ≤ w.heap.size := by have := h.base; have := h.b9; omega
 have hle := h.le
 have hlk : (bs.drop s.k).length = bs.length - s.k := List.length_drop
 have hg0 : w.grownBy w (some p) := grownBy_below (Below.refl _ _) _
 have hs0 := DStep.refl p vst w
 refine enterD1 (M := 55) Tryz.func19 rfl rfl rfl fun a H => ?_
 refine y_seq fun K1 hK1 => ?_
 refine y_reg ?_
 obtain ⟨q2, hq2⟩ : ∃ q, q = w.heap.size := ⟨_, rfl⟩
 refine y_boxRow rfl H rfl rfl fun w2 hr2 hb2 hs2 a H => ?_
 rw [← hq2] at H hr2
 have hz3 := Below.size hb2
 have hd4 := DW.below h hb2
 have hs5 := DStep.trans hs0 (DStep.of_below hb2)
 have hov6 := DW.fresh (q := q2) h (by omega)
 obtain ⟨q7, hq7⟩ : ∃ q, q = w2.heap.size := ⟨_, rfl⟩
 refine y_allocRow alloc_tok H rfl fun w7 hr7 hb7 hs7 a H => ?_
 rw [← hq7] at H hr7
 have hz8 := Below.size hb7
 have hr9 := RowAt.below hr2 (by omega) hb7
 have hd10 := DW.below hd4 hb7
 have hs11 := DStep.trans hs5 (DStep.of_below hb7)
 have hov12 := DW.fresh (q := q7) hd4 (by omega)
 refine y_assign H rfl rfl fun a H => wpList_nil (then_normal (hK1 _ _ ?_))
 replace H := H.k4 0 1 2 3 rfl rfl rfl rfl
 refine y_seq fun K13 hK13 => ?_
 refine y_reg ?_
 refine y_makeFunc H rfl rfl fun a H => y_defer H rfl rfl fun a H => wpList_nil (then_normal (hK13 _ _ ?_))
 replace H := H.k4 0 1 2 3 rfl rfl rfl rfl
 refine y_seq fun K14 hK14 => ?_
 refine y_seq fun K15 hK15 => ?_
 by_cases hpk : s.peeked = true
 ·refine y_reg ?_
  refine y_load onePtr H rfl (hr9 0 _ rfl).1 rfl fun a H => y_nilCheck H rfl rfl fun a H => y_field fld_call H rfl rfl fun a H => y_load oneCall H rfl (DW.c0t hd10 hpk) rfl fun a H => y_eql (b := true) H rfl rfl (by decide) rfl fun a H => wpList_nil (then_normal (hK15 _ _ ?_))
  replace H := H.k5 0 1 2 3 11 rfl rfl rfl rfl rfl
  refine y_ift H rfl ?_
  refine y_seq fun K16 hK16 => ?_
  have he := h.err
  by_cases hbad : s.bad = true
  ·rw [hbad] at he
   have Hs17 := H
   obtain ⟨te, xe, rfl⟩ := he
   have H := Hs17
   refine d_begin (fun w' => RowAt w' q2 [.pointer (some ⟨p, 0, none⟩)] ∧ w'.rangeAt p 1 (tokCells6 (.slice ao n c) s.tok) ∧ w'.cell? ⟨p, 7, none⟩ = some (.iface te xe)) 10 mixedP rfl ?_
   have hbd18 : Below w7.heap.size w7 w7.drew := (Below.refl _ _).drew
   generalize w7.drew = wd18 at hbd18 ⊢
   have hz19 := Below.size hbd18
   have hr20 := RowAt.below hr9 (by omega) hbd18
   have hr21 := RowAt.below hr7 (by omega) hbd18
   have hd22 := DW.below hd10 hbd18
   have hs23 := DStep.trans hs11 (DStep.of_below hbd18)
   refine d_take 0 H rfl (by kernel_rfl) (by kernel_rfl) (by kernel_rfl) (r_load onePtr H rfl (fun _ h => (h.1 0 _ rfl).1)) ⟨hr20, (DW.tokAt hd22 :), (DW.c7 hd22).1⟩ rfl fun a H => d_take 1 H rfl (by kernel_rfl) (by kernel_rfl) (by kernel_rfl) (r_nilCheck H rfl) ⟨hr20, (DW.tokAt hd22 :), (DW.c7 hd22).1⟩ rfl fun a H => d_take 2 H rfl (by kernel_rfl) (by kernel_rfl) (by kernel_rfl) (r_field fld_tok H rfl) ⟨hr20, (DW.tokAt hd22 :), (DW.c7 hd22).1⟩ rfl fun a H => d_take 3 H rfl (by kernel_rfl) (by kernel_rfl) (by kernel_rfl) (r_loadFrom Tryz.underlying50 rfl (tok_size _ rfl) H rfl (fun _ h => h.2.1)) ⟨hr20, (DW.tokAt hd22 :), (DW.c7 hd22).1⟩ rfl fun a H => d_take 4 H rfl (by kernel_rfl) (by kernel_rfl) (by kernel_rfl) (r_load onePtr H rfl (fun _ h => (h.1 0 _ rfl).1)) ⟨hr20, (DW.tokAt hd22 :), (DW.c7 hd22).1⟩ rfl fun a H => d_take 5 H rfl (by kernel_rfl) (by kernel_rfl) (by kernel_rfl) (r_nilCheck H rfl) ⟨hr20, (DW.tokAt hd22 :), (DW.c7 hd22).1⟩ rfl fun a H => d_take 6 H rfl (by kernel_rfl) (by kernel_rfl) (by kernel_rfl) (r_field fld_err H rfl) ⟨hr20, (DW.tokAt hd22 :), (DW.c7 hd22).1⟩ rfl fun a H => d_take 7 H rfl (by kernel_rfl) (by kernel_rfl) (by kernel_rfl) (r_load oneErr H rfl (fun _ h => h.2.2)) ⟨hr20, (DW.tokAt hd22 :), (DW.c7 hd22).1⟩ rfl fun a H => ?_
   refine d_one 8 (by kernel_rfl) rfl rfl ?_
   refine y_storeRow (vs := [_, _, _, _, _, _]) H rfl rfl hr21 rfl (tok_size' _ _ _ _ _ _) (by simp [Value.oneCell']) fun w24 hr24 hg24 => ?_
   have hz25 := World.grownBy.size hg24
   have hr26 := RowAt.grown hr20 hg24 (by omega) (by omega)
   have hd27 := DW.grownOther hd22 hg24 (by omega) (by omega) hov12 (by omega)
   have hs28 := DStep.thenRow hs23 hg24 (by omega)
   refine wpList_nil ⟨⟨hr26, (DW.tokAt hd27 :), (DW.c7 hd27).1⟩, ?_⟩
   refine d_take 9 H rfl (by kernel_rfl) (by kernel_rfl) (by kernel_rfl) (r_assign H rfl) ⟨hr26, (DW.tokAt hd27 :), (DW.c7 hd27).1⟩ rfl fun a H => ?_
   refine d_done (by kernel_rfl) (then_normal (hK16 _ _ ?_))
   replace H := H.k4 0 1 2 3 rfl rfl rfl rfl
   refine wp_ret (then_ret (?_))
   refine read_end H rfl rfl hd27 hr26 hr24 (by omega) fun w9 hd9 hg9 => ?_
   rw [show Z = none from by rw [← HZ.out, readT_seen hpk, if_pos hbad]]
   exact ⟨⟨_, _, _, rfl, (fun e => by rw [hpk] at e; cases e), ao, n, c, s.tok, rfl⟩, _, _, _, _, _, hd9, rfl, DStep.trans hs28 (DStep.of_grown hg9)⟩
  ·replace hbad : s.bad = false := by simpa using hbad
   rw [hbad] at he
   have Hs29 := H
   obtain rfl : ve = .nilIface := he
   have H := Hs29
   refine d_begin (fun w' => RowAt w' q2 [.pointer (some ⟨p, 0, none⟩)] ∧ w'.rangeAt p 1 (tokCells6 (.slice ao n c) s.tok) ∧ w'.cell? ⟨p, 7, none⟩ = some .nilIface) 10 mixedP rfl ?_
   have hbd30 : Below w7.heap.size w7 w7.drew := (Below.refl _ _).drew
   generalize w7.drew = wd30 at hbd30 ⊢
   have hz31 := Below.size hbd30
   have hr32 := RowAt.below hr9 (by omega) hbd30
   have hr33 := RowAt.below hr7 (by omega) hbd30
   have hd34 := DW.below hd10 hbd30
   have hs35 := DStep.trans hs11 (DStep.of_below hbd30)
   refine d_take 0 H rfl (by kernel_rfl) (by kernel_rfl) (by kernel_rfl) (r_load onePtr H rfl (fun _ h => (h.1 0 _ rfl).1)) ⟨hr32, (DW.tokAt hd34 :), (DW.c7 hd34).1⟩ rfl fun a H => d_take 1 H rfl (by kernel_rfl) (by kernel_rfl) (by kernel_rfl) (r_nilCheck H rfl) ⟨hr32, (DW.tokAt hd34 :), (DW.c7 hd34).1⟩ rfl fun a H => d_take 2 H rfl (by kernel_rfl) (by kernel_rfl) (by kernel_rfl) (r_field fld_tok H rfl) ⟨hr32, (DW.tokAt hd34 :), (DW.c7 hd34).1⟩ rfl fun a H => d_take 3 H rfl (by kernel_rfl) (by kernel_rfl) (by kernel_rfl) (r_loadFrom Tryz.underlying50 rfl (tok_size _ rfl) H rfl (fun _ h => h.2.1)) ⟨hr32, (DW.tokAt hd34 :), (DW.c7 hd34).1⟩ rfl fun a H => d_take 4 H rfl (by kernel_rfl) (by kernel_rfl) (by kernel_rfl) (r_load onePtr H rfl (fun _ h => (h.1 0 _ rfl).1)) ⟨hr32, (DW.tokAt hd34 :), (DW.c7 hd34).1⟩ rfl fun a H => d_take 5 H rfl (by kernel_rfl) (by kernel_rfl) (by kernel_rfl) (r_nilCheck H rfl) ⟨hr32, (DW.tokAt hd34 :), (DW.c7 hd34).1⟩ rfl fun a H => d_take 6 H rfl (by kernel_rfl) (by kernel_rfl) (by kernel_rfl) (r_field fld_err H rfl) ⟨hr32, (DW.tokAt hd34 :), (DW.c7 hd34).1⟩ rfl fun a H => d_take 7 H rfl (by kernel_rfl) (by kernel_rfl) (by kernel_rfl) (r_load oneErr H rfl (fun _ h => h.2.2)) ⟨hr32, (DW.tokAt hd34 :), (DW.c7 hd34).1⟩ rfl fun a H => ?_
   refine d_one 8 (by kernel_rfl) rfl rfl ?_
   refine y_storeRow (vs := [_, _, _, _, _, _]) H rfl rfl hr33 rfl (tok_size' _ _ _ _ _ _) (by simp [Value.oneCell']) fun w36 hr36 hg36 => ?_
   have hz37 := World.grownBy.size hg36
   have hr38 := RowAt.grown hr32 hg36 (by omega) (by omega)
   have hd39 := DW.grownOther hd34 hg36 (by omega) (by omega) hov12 (by omega)
   have hs40 := DStep.thenRow hs35 hg36 (by omega)
   refine wpList_nil ⟨⟨hr38, (DW.tokAt hd39 :), (DW.c7 hd39).1⟩, ?_⟩
   refine d_take 9 H rfl (by kernel_rfl) (by kernel_rfl) (by kernel_rfl) (r_assign H rfl) ⟨hr38, (DW.tokAt hd39 :), (DW.c7 hd39).1⟩ rfl fun a H => ?_
   refine d_done (by kernel_rfl) (then_normal (hK16 _ _ ?_))
   replace H := H.k4 0 1 2 3 rfl rfl rfl rfl
   refine wp_ret (then_ret (?_))
   refine read_end H rfl rfl hd39 hr38 hr36 (by omega) fun w9 hd9 hg9 => ?_
   rw [show Z = some { s with peeked := false } from by rw [← HZ.out, readT_seen hpk, if_neg (by rw [hbad]; decide)]]
   exact ⟨_, _, _, _, rfl, hd9, DStep.trans hs40 (DStep.of_grown hg9)⟩
 ·replace hpk : s.peeked = false := by simpa using hpk
  refine y_reg ?_
  refine y_load onePtr H rfl (hr9 0 _ rfl).1 rfl fun a H => y_nilCheck H rfl rfl fun a H => y_field fld_call H rfl rfl fun a H => y_load oneCall H rfl (DW.c0f hd10 hpk) rfl fun a H => y_eql (b := false) H rfl rfl (by decide) rfl fun a H => wpList_nil (then_normal (hK15 _ _ ?_))
  replace H := H.k5 0 1 2 3 11 rfl rfl rfl rfl rfl
  refine y_iff H rfl ?_
  refine wp_skip (then_normal (hK14 _ _ ?_))
  replace H := H.k4 0 1 2 3 rfl rfl rfl rfl
  refine y_seq fun K41 hK41 => ?_
  refine d_begin (fun w' => RowAt w' q2 [.pointer (some ⟨p, 0, none⟩)] ∧ w'.cell? ⟨p, 1, none⟩ = some (.int .u8 (s.tok.kind : Int))) 13 mixedP rfl ?_
  have hbd42 : Below w7.heap.size w7 w7.drew := (Below.refl _ _).drew
  generalize w7.drew = wd42 at hbd42 ⊢
  have hz43 := Below.size hbd42
  have hr44 := RowAt.below hr9 (by omega) hbd42
  have hr45 := RowAt.below hr7 (by omega) hbd42
  have hd46 := DW.below hd10 hbd42
  have hs47 := DStep.trans hs11 (DStep.of_below hbd42)
  refine d_take 0 H rfl (by kernel_rfl) (by kernel_rfl) (by kernel_rfl) (r_load onePtr H rfl (fun _ h => (h.1 0 _ rfl).1)) ⟨hr44, DW.ck hd46 rfl⟩ rfl fun a H => d_take 1 H rfl (by kernel_rfl) (by kernel_rfl) (by kernel_rfl) (r_load onePtr H rfl (fun _ h => (h.1 0 _ rfl).1)) ⟨hr44, DW.ck hd46 rfl⟩ rfl fun a H => d_take 2 H rfl (by kernel_rfl) (by kernel_rfl) (by kernel_rfl) (r_nilCheck H rfl) ⟨hr44, DW.ck hd46 rfl⟩ rfl fun a H => d_take 3 H rfl (by kernel_rfl) (by kernel_rfl) (by kernel_rfl) (r_field fld_tok H rfl) ⟨hr44, DW.ck hd46 rfl⟩ rfl fun a H => d_take 4 H rfl (by kernel_rfl) (by kernel_rfl) (by kernel_rfl) (r_fieldFrom fld_tk1 H rfl) ⟨hr44, DW.ck hd46 rfl⟩ rfl fun a H => d_take 5 H rfl (by kernel_rfl) (by kernel_rfl) (by kernel_rfl) (r_load oneKind H rfl (fun _ h => h.2)) ⟨hr44, DW.ck hd46 rfl⟩ rfl fun a H => ?_
  refine d_two 6 10 (by kernel_rfl) rfl rfl rfl rfl ?_ ?_
  ·have hok := hok hpk
   have HP := parseNext_any hd46 hm s.tok.kind hok.le hok.ok (by have := hok.len; omega) hok.h4 hok.h6 hok.h7 hok.h9
   have Hs49 := H
   rcases hS : nextT bs s.tok.kind s.st s.k with _ | ⟨t, st1, k1⟩
   ·have H := Hs49
    rw [hS] at HP
    refine y_call pf_next H rfl rfl (Calls.mono HP ?_)
    rintro e w48 ⟨⟨te, xe, rfl⟩, vst48, vi48, s48, hd48, hp48, hds48⟩
    refine ⟨_, rfl, fun a H => ?_⟩
    have hz50 := DStep.size hds48
    have hr51 := RowAt.kept hr44 (DStep.block hds48 _ (by omega) (by omega) hov6)
    have hr53 := RowAt.kept hr45 (DStep.block hds48 _ (by omega) (by omega) hov12)
    have hov54 := DStep.notOpen hds48 hov12 (by omega)
    have hs55 := DStep.trans hs47 hds48
    refine wpList_nil ⟨⟨hr51, DW.ck hd48 (congrArg TT.kind hp48.2.1)⟩, ?_⟩
    refine d_take 7 H rfl (by kernel_rfl) (by kernel_rfl) (by kernel_rfl) (r_move H rfl) ⟨hr51, DW.ck hd48 (congrArg TT.kind hp48.2.1)⟩ rfl fun a H => d_take 8 H rfl (by kernel_rfl) (by kernel_rfl) (by kernel_rfl) (r_extract H rfl rfl) ⟨hr51, DW.ck hd48 (congrArg TT.kind hp48.2.1)⟩ rfl fun a H => d_take 9 H rfl (by kernel_rfl) (by kernel_rfl) (by kernel_rfl) (r_extract H rfl rfl) ⟨hr51, DW.ck hd48 (congrArg TT.kind hp48.2.1)⟩ rfl fun a H => ?_
    refine d_one 10 (by kernel_rfl) rfl rfl ?_
    obtain ⟨q56, hq56⟩ : ∃ q, q = w48.heap.size := ⟨_, rfl⟩
    refine y_allocRow alloc_tok H rfl fun w56 hr56 hb56 hs56 a H => ?_
    rw [← hq56] at H hr56
    have hz57 := Below.size hb56
    have hr58 := RowAt.below hr51 (by omega) hb56
    have hr59 := RowAt.below hr53 (by omega) hb56
    have hd60 := DW.below hd48 hb56
    have hs61 := DStep.trans hs55 (DStep.of_below hb56)
    have hov62 := DW.fresh (q := q56) hd48 (by omega)
    refine wpList_nil ⟨⟨hr58, DW.ck hd60 (congrArg TT.kind hp48.2.1)⟩, ?_⟩
    refine d_one 11 (by kernel_rfl) rfl rfl ?_
    refine y_storeRow (vs := [_, _, _, _, _, _]) H rfl rfl hr56 rfl (tok_size' _ _ _ _ _ _) (by simp [Value.oneCell']) fun w63 hr63 hg63 => ?_
    have hz64 := World.grownBy.size hg63
    have hr65 := RowAt.grown hr58 hg63 (by omega) (by omega)
    have hr66 := RowAt.grown hr59 hg63 (by omega) (by omega)
    have hd67 := DW.grownOther hd60 hg63 (by omega) (by omega) hov62 (by omega)
    have hs68 := DStep.thenRow hs61 hg63 (by omega)
    refine wpList_nil ⟨⟨hr65, DW.ck hd67 (congrArg TT.kind hp48.2.1)⟩, ?_⟩
    refine d_take 12 H rfl (by kernel_rfl) (by kernel_rfl) (by kernel_rfl) (r_assign H rfl) ⟨hr65, DW.ck hd67 (congrArg TT.kind hp48.2.1)⟩ rfl fun a H => ?_
    refine d_done (by kernel_rfl) (then_normal (hK41 _ _ ?_))
    replace H := H.k6 0 1 2 3 4 5 rfl rfl rfl rfl rfl rfl
    refine y_seq fun K69 hK69 => ?_
    refine y_seq fun K70 hK70 => ?_
    refine y_reg ?_
    refine y_move H rfl rfl fun a H => y_neNil (b := true) H rfl (.inr ⟨_, _, rfl, rfl⟩) rfl fun a H => wpList_nil (then_normal (hK70 _ _ ?_))
    replace H := H.k7 0 1 2 3 4 5 31 rfl rfl rfl rfl rfl rfl rfl
    refine y_ift H rfl ?_
    refine y_seq fun K71 hK71 => ?_
    refine y_reg ?_
    refine y_bld built_tok0 H rfl rfl fun a H => y_move H rfl rfl fun a H => y_storeRow (vs := [_, _, _, _, _, _]) H rfl rfl hr66 rfl (tok_size' _ _ _ _ _ _) (by simp [Value.oneCell']) fun w72 hr72 hg72 => ?_
    have hz73 := World.grownBy.size hg72
    have hr74 := RowAt.grown hr65 hg72 (by omega) (by omega)
    have hd76 := DW.grownOther hd67 hg72 (by omega) (by omega) hov54 (by omega)
    have hs77 := DStep.thenRow hs68 hg72 (by omega)
    refine y_assign H rfl rfl fun a H => wpList_nil (then_normal (hK71 _ _ ?_))
    replace H := H.k6 0 1 2 3 4 5 rfl rfl rfl rfl rfl rfl
    refine wp_ret (then_ret (?_))
    refine read_end H rfl rfl hd76 hr74 hr72 (by omega) fun w9 hd9 hg9 => ?_
    rw [show Z = none from by rw [← HZ.out, readT_two hpk, readF_none hS]]
    exact ⟨⟨_, _, _, rfl, fun _ => rfl, none, 0, 0, TT.zero, rfl⟩, _, _, _, _, _, hd9, rfl, DStep.trans hs77 (DStep.of_grown hg9)⟩
   ·have H := Hs49
    rw [hS] at HP
    refine y_call pf_next H rfl rfl (Calls.mono HP ?_)
    rintro e w48 ⟨vt48, vst48, vi48, s48, rfl, hvt48, hd48, hse48, hds48⟩
    subst hse48
    have Hs78 := H
    obtain ⟨ao48, n48, c48, rfl⟩ := View.slice3 hvt48
    have H := Hs78
    refine ⟨_, rfl, fun a H => ?_⟩
    have hkd : 1 ≤ t.kind ∧ t.kind ≤ 9 := (next_ok hS hle).kind
    have hz79 := DStep.size hds48
    have hr80 := RowAt.kept hr44 (DStep.block hds48 _ (by omega) (by omega) hov6)
    have hov81 := DStep.notOpen hds48 hov6 (by omega)
    have hr82 := RowAt.kept hr45 (DStep.block hds48 _ (by omega) (by omega) hov12)
    have hov83 := DStep.notOpen hds48 hov12 (by omega)
    have hs84 := DStep.trans hs47 hds48
    refine wpList_nil ⟨⟨hr80, DW.ck hd48 rfl⟩, ?_⟩
    refine d_take 7 H rfl (by kernel_rfl) (by kernel_rfl) (by kernel_rfl) (r_move H rfl) ⟨hr80, DW.ck hd48 rfl⟩ rfl fun a H => d_take 8 H rfl (by kernel_rfl) (by kernel_rfl) (by kernel_rfl) (r_extract H rfl rfl) ⟨hr80, DW.ck hd48 rfl⟩ rfl fun a H => d_take 9 H rfl (by kernel_rfl) (by kernel_rfl) (by kernel_rfl) (r_extract H rfl rfl) ⟨hr80, DW.ck hd48 rfl⟩ rfl fun a H => ?_
    refine d_one 10 (by kernel_rfl) rfl rfl ?_
    obtain ⟨q85, hq85⟩ : ∃ q, q = w48.heap.size := ⟨_, rfl⟩
    refine y_allocRow alloc_tok H rfl fun w85 hr85 hb85 hs85 a H => ?_
    rw [← hq85] at H hr85
    have hz86 := Below.size hb85
    have hv87 := View.below hvt48 hb85
    have hr88 := RowAt.below hr80 (by omega) hb85
    have hr89 := RowAt.below hr82 (by omega) hb85
    have hd90 := DW.below hd48 hb85
    have hs91 := DStep.trans hs84 (DStep.of_below hb85)
    have hov92 := DW.fresh (q := q85) hd48 (by omega)
    refine wpList_nil ⟨⟨hr88, DW.ck hd90 rfl⟩, ?_⟩
    refine d_one 11 (by kernel_rfl) rfl rfl ?_
    refine y_storeRow (vs := [_, _, _, _, _, _]) H rfl rfl hr85 rfl (tok_size' _ _ _ _ _ _) (by simp [Value.oneCell']) fun w93 hr93 hg93 => ?_
    have hz94 := World.grownBy.size hg93
    have hv95 := View.kept hv87 (World.grownBy.block hg93 g (by omega) (fun e => by injection e with e; omega))
    have hr96 := RowAt.grown hr88 hg93 (by omega) (by omega)
    have hr97 := RowAt.grown hr89 hg93 (by omega) (by omega)
    have hd98 := DW.grownOther hd90 hg93 (by omega) (by omega) hov92 (by omega)
    have hs99 := DStep.thenRow hs91 hg93 (by omega)
    refine wpList_nil ⟨⟨hr96, DW.ck hd98 rfl⟩, ?_⟩
    refine d_take 12 H rfl (by kernel_rfl) (by kernel_rfl) (by kernel_rfl) (r_assign H rfl) ⟨hr96, DW.ck hd98 rfl⟩ rfl fun a H => ?_
    refine d_done (by kernel_rfl) (then_normal (hK41 _ _ ?_))
    replace H := H.k6 0 1 2 3 4 5 rfl rfl rfl rfl rfl rfl
    refine y_seq fun K100 hK100 => ?_
    refine y_seq fun K101 hK101 => ?_
    refine y_reg ?_
    refine y_move H rfl rfl fun a H => y_neNil (b := false) H rfl (.inl ⟨rfl, rfl⟩) rfl fun a H => wpList_nil (then_normal (hK101 _ _ ?_))
    replace H := H.k7 0 1 2 3 4 5 31 rfl rfl rfl rfl rfl rfl rfl
    refine y_iff H rfl ?_
    refine wp_skip (then_normal (hK100 _ _ ?_))
    replace H := H.k6 0 1 2 3 4 5 rfl rfl rfl rfl rfl rfl
    refine y_seq fun K102 hK102 => ?_
    refine y_seq fun K103 hK103 => ?_
    refine y_reg ?_
    refine y_field fld_tk H rfl rfl fun a H => y_load oneKind H rfl (hr93 0 _ rfl).1 rfl fun a H => wpList_nil (then_normal (hK103 _ _ ?_))
    replace H := H.k7 0 1 2 3 4 5 35 rfl rfl rfl rfl rfl rfl rfl
    refine wp_block ?_
    refine y_seq fun K104 hK104 => ?_
    refine y_seq fun K105 hK105 => ?_
    refine y_reg ?_
    by_cases q106 : (((t.kind : Nat) : Int)) = ((8 : Int))
    ·refine y_eql (b := true) H rfl rfl (ieq_t (by omega)) rfl fun a H => y_assign H rfl rfl fun a H => wpList_nil (then_normal (hK105 _ _ ?_))
     replace H := H.k8 0 1 2 3 4 5 35 36 rfl rfl rfl rfl rfl rfl rfl rfl
     refine y_ift H rfl ?_
     refine wp_skip (then_normal (hK104 _ _ ?_))
     replace H := H.k7 0 1 2 3 4 5 36 rfl rfl rfl rfl rfl rfl rfl
     refine y_ift H rfl ?_
     refine y_seq fun K107 hK107 => ?_
     refine y_reg ?_
     refine y_load onePtr H rfl (hr96 0 _ rfl).1 rfl fun a H => y_field fld_tk H rfl rfl fun a H => y_load oneKind H rfl (hr93 0 _ rfl).1 rfl fun a H => ?_
     have hok2 := next_ok2 hle hS hok
     have hkl : k1 ≤ bs.length := (next_ok hS hle).le
     have HP : Calls Tryz.prog 28 #[.pointer (some ⟨p, 0, none⟩), .int .u8 (t.kind : Int)] w93 (NextRes B p g bs _ ve _ vo { s with st := st1, k := k1 } w93 (nextT bs t.kind st1 k1)) := parseNext_any hd98 hm t.kind hok2.le hok2.ok (by have : st1.length ≤ k1 := hok2.len; show st1.length ≤ _; omega) hok2.h4 hok2.h6 hok2.h7 hok2.h9
     have Hs109 := H
     rcases hS2 : nextT bs t.kind st1 k1 with _ | ⟨t2, st2, k2⟩
     ·have H := Hs109
      rw [hS2] at HP
      refine y_call pf_next H rfl rfl (Calls.mono HP ?_)
      rintro e w108 ⟨⟨te, xe, rfl⟩, vst108, vi108, s108, hd108, hp108, hds108⟩
      refine ⟨_, rfl, fun a H => ?_⟩
      have hz110 := DStep.size hds108
      have hr112 := RowAt.kept hr96 (DStep.block hds108 _ (by omega) (by omega) hov81)
      have hr114 := RowAt.kept hr97 (DStep.block hds108 _ (by omega) (by omega) hov83)
      have hov115 := DStep.notOpen hds108 hov83 (by omega)
      have hr116 := RowAt.kept hr93 (DStep.block hds108 _ (by omega) (by omega) hov92)
      have hov117 := DStep.notOpen hds108 hov92 (by omega)
      have hs118 := DStep.trans hs99 hds108
      refine y_move H rfl rfl fun a H => y_extract H rfl rfl rfl fun a H => y_extract H rfl rfl rfl fun a H => y_storeRow (vs := [_, _, _, _, _, _]) H rfl rfl hr116 rfl (tok_size' _ _ _ _ _ _) (by simp [Value.oneCell']) fun w119 hr119 hg119 => ?_
      have hz120 := World.grownBy.size hg119
      have hr122 := RowAt.grown hr112 hg119 (by omega) (by omega)
      have hr123 := RowAt.grown hr114 hg119 (by omega) (by omega)
      have hd124 := DW.grownOther hd108 hg119 (by omega) (by omega) hov117 (by omega)
      have hs125 := DStep.thenRow hs118 hg119 (by omega)
      refine y_assign H rfl rfl fun a H => wpList_nil (then_normal (hK107 _ _ ?_))
      replace H := H.k6 0 1 2 3 4 5 rfl rfl rfl rfl rfl rfl
      refine y_seq fun K126 hK126 => ?_
      refine y_reg ?_
      refine y_move H rfl rfl fun a H => y_neNil (b := true) H rfl (.inr ⟨_, _, rfl, rfl⟩) rfl fun a H => wpList_nil (then_normal (hK126 _ _ ?_))
      replace H := H.k7 0 1 2 3 4 5 47 rfl rfl rfl rfl rfl rfl rfl
      refine y_ift H rfl ?_
      refine y_seq fun K127 hK127 => ?_
      refine y_reg ?_
      refine y_bld built_tok0 H rfl rfl fun a H => y_move H rfl rfl fun a H => y_storeRow (vs := [_, _, _, _, _, _]) H rfl rfl hr123 rfl (tok_size' _ _ _ _ _ _) (by simp [Value.oneCell']) fun w128 hr128 hg128 => ?_
      have hz129 := World.grownBy.size hg128
      have hr131 := RowAt.grown hr122 hg128 (by omega) (by omega)
      have hd133 := DW.grownOther hd124 hg128 (by omega) (by omega) hov115 (by omega)
      have hs134 := DStep.thenRow hs125 hg128 (by omega)
      refine y_assign H rfl rfl fun a H => wpList_nil (then_normal (hK127 _ _ ?_))
      replace H := H.k5 0 1 2 3 4 rfl rfl rfl rfl rfl
      refine wp_ret (in_ret (then_ret (?_)))
      refine read_end H rfl rfl hd133 hr131 hr128 (by omega) fun w9 hd9 hg9 => ?_
      rw [show Z = none from by rw [← HZ.out, readT_two hpk, readF_twoN hS (by omega) hS2]]
      exact ⟨⟨_, _, _, rfl, fun _ => rfl, none, 0, 0, TT.zero, rfl⟩, _, _, _, _, _, hd9, rfl, DStep.trans hs134 (DStep.of_grown hg9)⟩
     ·have H := Hs109
      rw [hS2] at HP
      refine y_call pf_next H rfl rfl (Calls.mono HP ?_)
      rintro e w108 ⟨vt108, vst108, vi108, s108, rfl, hvt108, hd108, hse108, hds108⟩
      subst hse108
      have Hs135 := H
      obtain ⟨ao108, n108, c108, rfl⟩ := View.slice3 hvt108
      have H := Hs135
      refine ⟨_, rfl, fun a H => ?_⟩
      have hz136 := DStep.size hds108
      have hr138 := RowAt.kept hr96 (DStep.block hds108 _ (by omega) (by omega) hov81)
      have hr140 := RowAt.kept hr97 (DStep.block hds108 _ (by omega) (by omega) hov83)
      have hov141 := DStep.notOpen hds108 hov83 (by omega)
      have hr142 := RowAt.kept hr93 (DStep.block hds108 _ (by omega) (by omega) hov92)
      have hov143 := DStep.notOpen hds108 hov92 (by omega)
      have hs144 := DStep.trans hs99 hds108
      refine y_move H rfl rfl fun a H => y_extract H rfl rfl rfl fun a H => y_extract H rfl rfl rfl fun a H => y_storeRow (vs := [_, _, _, _, _, _]) H rfl rfl hr142 rfl (tok_size' _ _ _ _ _ _) (by simp [Value.oneCell']) fun w145 hr145 hg145 => ?_
      have hz146 := World.grownBy.size hg145
      have hv147 := View.kept hvt108 (World.grownBy.block hg145 g (by omega) (fun e => by injection e with e; omega))
      have hr148 := RowAt.grown hr138 hg145 (by omega) (by omega)
      have hr149 := RowAt.grown hr140 hg145 (by omega) (by omega)
      have hd150 := DW.grownOther hd108 hg145 (by omega) (by omega) hov143 (by omega)
      have hs151 := DStep.thenRow hs144 hg145 (by omega)
      refine y_assign H rfl rfl fun a H => wpList_nil (then_normal (hK107 _ _ ?_))
      replace H := H.k6 0 1 2 3 4 5 rfl rfl rfl rfl rfl rfl
      refine y_seq fun K152 hK152 => ?_
      refine y_reg ?_
      refine y_move H rfl rfl fun a H => y_neNil (b := false) H rfl (.inl ⟨rfl, rfl⟩) rfl fun a H => wpList_nil (then_normal (hK152 _ _ ?_))
      replace H := H.k7 0 1 2 3 4 5 47 rfl rfl rfl rfl rfl rfl rfl
      refine y_iff H rfl ?_
      refine wp_skip (in_normal (then_normal (hK102 _ _ ?_)))
      replace H := H.k5 0 1 2 3 4 rfl rfl rfl rfl rfl
      refine y_seq fun K153 hK153 => ?_
      refine y_reg ?_
      refine y_load onePtr H rfl (hr148 0 _ rfl).1 rfl fun a H => y_loadRow Tryz.underlying50 rfl (tok_size _ rfl) H rfl hr145 rfl fun a H => y_nilCheck H rfl rfl fun a H => y_field fld_tok H rfl rfl fun a H => y_storeTok (t := t2) H rfl rfl hd150 hv147 fun w154 hd154 hg154 => ?_
      have hz155 := World.grownBy.size hg154
      have hr157 := RowAt.grown hr148 hg154 (by omega) (by omega)
      have hr158 := RowAt.grown hr149 hg154 (by omega) (by omega)
      have hr159 := RowAt.grown hr145 hg154 (by omega) (by omega)
      have hs160 := DStep.trans hs151 (DStep.of_grown hg154)
      refine wpList_nil (then_normal (hK153 _ _ ?_))
      replace H := H.k5 0 1 2 3 4 rfl rfl rfl rfl rfl
      refine y_seq fun K161 hK161 => ?_
      refine y_reg ?_
      refine y_loadRow Tryz.underlying50 rfl (tok_size _ rfl) H rfl hr159 rfl fun a H => y_storeRow (vs := [_, _, _, _, _, _]) H rfl rfl hr158 rfl (tok_size' _ _ _ _ _ _) (by simp [Value.oneCell']) fun w162 hr162 hg162 => ?_
      have hz163 := World.grownBy.size hg162
      have hr165 := RowAt.grown hr157 hg162 (by omega) (by omega)
      have hd167 := DW.grownOther hd154 hg162 (by omega) (by omega) hov141 (by omega)
      have hs168 := DStep.thenRow hs160 hg162 (by omega)
      refine y_assign H rfl rfl fun a H => wpList_nil (then_normal (hK161 _ _ ?_))
      replace H := H.k4 0 1 2 3 rfl rfl rfl rfl
      refine wp_ret (?_)
      refine read_end H rfl rfl hd167 hr165 hr162 (by omega) fun w9 hd9 hg9 => ?_
      rw [show Z = some ⟨false, t2, s.bad, st2, k2⟩ from by rw [← HZ.out, readT_two hpk, readF_twoS hS (by omega) hS2]]
      exact ⟨_, _, _, _, rfl, hd9, DStep.trans hs168 (DStep.of_grown hg9)⟩
    ·refine y_eql (b := false) H rfl rfl (ieq_f (by omega)) rfl fun a H => y_assign H rfl rfl fun a H => wpList_nil (then_normal (hK105 _ _ ?_))
     replace H := H.k8 0 1 2 3 4 5 35 36 rfl rfl rfl rfl rfl rfl rfl rfl
     refine y_iff H rfl ?_
     refine y_reg ?_
     by_cases q169 : (((t.kind : Nat) : Int)) = ((9 : Int))
     ·refine y_eql (b := true) H rfl rfl (ieq_t (by omega)) rfl fun a H => y_assign H rfl rfl fun a H => wpList_nil (then_normal (hK104 _ _ ?_))
      replace H := H.k7 0 1 2 3 4 5 36 rfl rfl rfl rfl rfl rfl rfl
      refine y_ift H rfl ?_
      refine y_seq fun K170 hK170 => ?_
      refine y_reg ?_
      refine y_load onePtr H rfl (hr96 0 _ rfl).1 rfl fun a H => y_field fld_tk H rfl rfl fun a H => y_load oneKind H rfl (hr93 0 _ rfl).1 rfl fun a H => ?_
      have hok2 := next_ok2 hle hS hok
      have hkl : k1 ≤ bs.length := (next_ok hS hle).le
      have HP : Calls Tryz.prog 28 #[.pointer (some ⟨p, 0, none⟩), .int .u8 (t.kind : Int)] w93 (NextRes B p g bs _ ve _ vo { s with st := st1, k := k1 } w93 (nextT bs t.kind st1 k1)) := parseNext_any hd98 hm t.kind hok2.le hok2.ok (by have : st1.length ≤ k1 := hok2.len; show st1.length ≤ _; omega) hok2.h4 hok2.h6 hok2.h7 hok2.h9
      have Hs172 := H
      rcases hS2 : nextT bs t.kind st1 k1 with _ | ⟨t2, st2, k2⟩
      ·have H := Hs172
       rw [hS2] at HP
       refine y_call pf_next H rfl rfl (Calls.mono HP ?_)
       rintro e w171 ⟨⟨te, xe, rfl⟩, vst171, vi171, s171, hd171, hp171, hds171⟩
       refine ⟨_, rfl, fun a H => ?_⟩
       have hz173 := DStep.size hds171
       have hr175 := RowAt.kept hr96 (DStep.block hds171 _ (by omega) (by omega) hov81)
       have hr177 := RowAt.kept hr97 (DStep.block hds171 _ (by omega) (by omega) hov83)
       have hov178 := DStep.notOpen hds171 hov83 (by omega)
       have hr179 := RowAt.kept hr93 (DStep.block hds171 _ (by omega) (by omega) hov92)
       have hov180 := DStep.notOpen hds171 hov92 (by omega)
       have hs181 := DStep.trans hs99 hds171
       refine y_move H rfl rfl fun a H => y_extract H rfl rfl rfl fun a H => y_extract H rfl rfl rfl fun a H => y_storeRow (vs := [_, _, _, _, _, _]) H rfl rfl hr179 rfl (tok_size' _ _ _ _ _ _) (by simp [Value.oneCell']) fun w182 hr182 hg182 => ?_
       have hz183 := World.grownBy.size hg182
       have hr185 := RowAt.grown hr175 hg182 (by omega) (by omega)
       have hr186 := RowAt.grown hr177 hg182 (by omega) (by omega)
       have hd187 := DW.grownOther hd171 hg182 (by omega) (by omega) hov180 (by omega)
       have hs188 := DStep.thenRow hs181 hg182 (by omega)
       refine y_assign H rfl rfl fun a H => wpList_nil (then_normal (hK170 _ _ ?_))
       replace H := H.k6 0 1 2 3 4 5 rfl rfl rfl rfl rfl rfl
       refine y_seq fun K189 hK189 => ?_
       refine y_reg ?_
       refine y_move H rfl rfl fun a H => y_neNil (b := true) H rfl (.inr ⟨_, _, rfl, rfl⟩) rfl fun a H => wpList_nil (then_normal (hK189 _ _ ?_))
       replace H := H.k7 0 1 2 3 4 5 47 rfl rfl rfl rfl rfl rfl rfl
       refine y_ift H rfl ?_
       refine y_seq fun K190 hK190 => ?_
       refine y_reg ?_
       refine y_bld built_tok0 H rfl rfl fun a H => y_move H rfl rfl fun a H => y_storeRow (vs := [_, _, _, _, _, _]) H rfl rfl hr186 rfl (tok_size' _ _ _ _ _ _) (by simp [Value.oneCell']) fun w191 hr191 hg191 => ?_
       have hz192 := World.grownBy.size hg191
       have hr194 := RowAt.grown hr185 hg191 (by omega) (by omega)
       have hd196 := DW.grownOther hd187 hg191 (by omega) (by omega) hov178 (by omega)
       have hs197 := DStep.thenRow hs188 hg191 (by omega)
       refine y_assign H rfl rfl fun a H => wpList_nil (then_normal (hK190 _ _ ?_))
       replace H := H.k5 0 1 2 3 4 rfl rfl rfl rfl rfl
       refine wp_ret (in_ret (then_ret (?_)))
       refine read_end H rfl rfl hd196 hr194 hr191 (by omega) fun w9 hd9 hg9 => ?_
       rw [show Z = none from by rw [← HZ.out, readT_two hpk, readF_twoN hS (by omega) hS2]]
       exact ⟨⟨_, _, _, rfl, fun _ => rfl, none, 0, 0, TT.zero, rfl⟩, _, _, _, _, _, hd9, rfl, DStep.trans hs197 (DStep.of_grown hg9)⟩
      ·have H := Hs172
       rw [hS2] at HP
       refine y_call pf_next H rfl rfl (Calls.mono HP ?_)
       rintro e w171 ⟨vt171, vst171, vi171, s171, rfl, hvt171, hd171, hse171, hds171⟩
       subst hse171
       have Hs198 := H
       obtain ⟨ao171, n171, c171, rfl⟩ := View.slice3 hvt171
       have H := Hs198
       refine ⟨_, rfl, fun a H => ?_⟩
       have hz199 := DStep.size hds171
       have hr201 := RowAt.kept hr96 (DStep.block hds171 _ (by omega) (by omega) hov81)
       have hr203 := RowAt.kept hr97 (DStep.block hds171 _ (by omega) (by omega) hov83)
       have hov204 := DStep.notOpen hds171 hov83 (by omega)
       have hr205 := RowAt.kept hr93 (DStep.block hds171 _ (by omega) (by omega) hov92)
       have hov206 := DStep.notOpen hds171 hov92 (by omega)
       have hs207 := DStep.trans hs99 hds171
       refine y_move H rfl rfl fun a H => y_extract H rfl rfl rfl fun a H => y_extract H rfl rfl rfl fun a H => y_storeRow (vs := [_, _, _, _, _, _]) H rfl rfl hr205 rfl (tok_size' _ _ _ _ _ _) (by simp [Value.oneCell']) fun w208 hr208 hg208 => ?_
       have hz209 := World.grownBy.size hg208
       have hv210 := View.kept hvt171 (World.grownBy.block hg208 g (by omega) (fun e => by injection e with e; omega))
       have hr211 := RowAt.grown hr201 hg208 (by omega) (by omega)
       have hr212 := RowAt.grown hr203 hg208 (by omega) (by omega)
       have hd213 := DW.grownOther hd171 hg208 (by omega) (by omega) hov206 (by omega)
       have hs214 := DStep.thenRow hs207 hg208 (by omega)
       refine y_assign H rfl rfl fun a H => wpList_nil (then_normal (hK170 _ _ ?_))
       replace H := H.k6 0 1 2 3 4 5 rfl rfl rfl rfl rfl rfl
       refine y_seq fun K215 hK215 => ?_
       refine y_reg ?_
       refine y_move H rfl rfl fun a H => y_neNil (b := false) H rfl (.inl ⟨rfl, rfl⟩) rfl fun a H => wpList_nil (then_normal (hK215 _ _ ?_))
       replace H := H.k7 0 1 2 3 4 5 47 rfl rfl rfl rfl rfl rfl rfl
       refine y_iff H rfl ?_
       refine wp_skip (in_normal (then_normal (hK102 _ _ ?_)))
       replace H := H.k5 0 1 2 3 4 rfl rfl rfl rfl rfl
       refine y_seq fun K216 hK216 => ?_
       refine y_reg ?_
       refine y_load onePtr H rfl (hr211 0 _ rfl).1 rfl fun a H => y_loadRow Tryz.underlying50 rfl (tok_size _ rfl) H rfl hr208 rfl fun a H => y_nilCheck H rfl rfl fun a H => y_field fld_tok H rfl rfl fun a H => y_storeTok (t := t2) H rfl rfl hd213 hv210 fun w217 hd217 hg217 => ?_
       have hz218 := World.grownBy.size hg217
       have hr220 := RowAt.grown hr211 hg217 (by omega) (by omega)
       have hr221 := RowAt.grown hr212 hg217 (by omega) (by omega)
       have hr222 := RowAt.grown hr208 hg217 (by omega) (by omega)
       have hs223 := DStep.trans hs214 (DStep.of_grown hg217)
       refine wpList_nil (then_normal (hK216 _ _ ?_))
       replace H := H.k5 0 1 2 3 4 rfl rfl rfl rfl rfl
       refine y_seq fun K224 hK224 => ?_
       refine y_reg ?_
       refine y_loadRow Tryz.underlying50 rfl (tok_size _ rfl) H rfl hr222 rfl fun a H => y_storeRow (vs := [_, _, _, _, _, _]) H rfl rfl hr221 rfl (tok_size' _ _ _ _ _ _) (by simp [Value.oneCell']) fun w225 hr225 hg225 => ?_
       have hz226 := World.grownBy.size hg225
       have hr228 := RowAt.grown hr220 hg225 (by omega) (by omega)
       have hd230 := DW.grownOther hd217 hg225 (by omega) (by omega) hov204 (by omega)
       have hs231 := DStep.thenRow hs223 hg225 (by omega)
       refine y_assign H rfl rfl fun a H => wpList_nil (then_normal (hK224 _ _ ?_))
       replace H := H.k4 0 1 2 3 rfl rfl rfl rfl
       refine wp_ret (?_)
       refine read_end H rfl rfl hd230 hr228 hr225 (by omega) fun w9 hd9 hg9 => ?_
       rw [show Z = some ⟨false, t2, s.bad, st2, k2⟩ from by rw [← HZ.out, readT_two hpk, readF_twoS hS (by omega) hS2]]
       exact ⟨_, _, _, _, rfl, hd9, DStep.trans hs231 (DStep.of_grown hg9)⟩
     ·refine y_eql (b := false) H rfl rfl (ieq_f (by omega)) rfl fun a H => y_assign H rfl rfl fun a H => wpList_nil (then_normal (hK104 _ _ ?_))
      replace H := H.k7 0 1 2 3 4 5 36 rfl rfl rfl rfl rfl rfl rfl
      refine y_iff H rfl ?_
      refine wp_skip (in_normal (then_normal (hK102 _ _ ?_)))
      replace H := H.k5 0 1 2 3 4 rfl rfl rfl rfl rfl
      refine y_seq fun K232 hK232 => ?_
      refine y_reg ?_
      refine y_load onePtr H rfl (hr96 0 _ rfl).1 rfl fun a H => y_loadRow Tryz.underlying50 rfl (tok_size _ rfl) H rfl hr93 rfl fun a H => y_nilCheck H rfl rfl fun a H => y_field fld_tok H rfl rfl fun a H => y_storeTok (t := t) H rfl rfl hd98 hv95 fun w233 hd233 hg233 => ?_
      have hz234 := World.grownBy.size hg233
      have hr236 := RowAt.grown hr96 hg233 (by omega) (by omega)
      have hr237 := RowAt.grown hr97 hg233 (by omega) (by omega)
      have hr238 := RowAt.grown hr93 hg233 (by omega) (by omega)
      have hs239 := DStep.trans hs99 (DStep.of_grown hg233)
      refine wpList_nil (then_normal (hK232 _ _ ?_))
      replace H := H.k5 0 1 2 3 4 rfl rfl rfl rfl rfl
      refine y_seq fun K240 hK240 => ?_
      refine y_reg ?_
      refine y_loadRow Tryz.underlying50 rfl (tok_size _ rfl) H rfl hr238 rfl fun a H => y_storeRow (vs := [_, _, _, _, _, _]) H rfl rfl hr237 rfl (tok_size' _ _ _ _ _ _) (by simp [Value.oneCell']) fun w241 hr241 hg241 => ?_
      have hz242 := World.grownBy.size hg241
      have hr244 := RowAt.grown hr236 hg241 (by omega) (by omega)
      have hd246 := DW.grownOther hd233 hg241 (by omega) (by omega) hov83 (by omega)
      have hs247 := DStep.thenRow hs239 hg241 (by omega)
      refine y_assign H rfl rfl fun a H => wpList_nil (then_normal (hK240 _ _ ?_))
      replace H := H.k4 0 1 2 3 rfl rfl rfl rfl
      refine wp_ret (?_)
      refine read_end H rfl rfl hd246 hr244 hr241 (by omega) fun w9 hd9 hg9 => ?_
      rw [show Z = some ⟨false, t, s.bad, st1, k1⟩ from by rw [← HZ.out, readT_two hpk, readF_one hS (by omega)]]
      exact ⟨_, _, _, _, rfl, hd9, DStep.trans hs247 (DStep.of_grown hg9)⟩
  ·obtain ⟨q248, hq248⟩ : ∃ q, q = wd42.heap.size := ⟨_, rfl⟩
   refine y_allocRow alloc_tok H rfl fun w248 hr248 hb248 hs248 a H => ?_
   rw [← hq248] at H hr248
   have hz249 := Below.size hb248
   have hr250 := RowAt.below hr44 (by omega) hb248
   have hr251 := RowAt.below hr45 (by omega) hb248
   have hd252 := DW.below hd46 hb248
   have hs253 := DStep.trans hs47 (DStep.of_below hb248)
   have hov254 := DW.fresh (q := q248) hd46 (by omega)
   refine wpList_nil ⟨⟨hr250, DW.ck hd252 rfl⟩, ?_⟩
   refine d_one 6 (by kernel_rfl) rfl rfl ?_
   have hok := hok hpk
   have HP := parseNext_any hd252 hm s.tok.kind hok.le hok.ok (by have := hok.len; omega) hok.h4 hok.h6 hok.h7 hok.h9
   have Hs256 := H
   rcases hS : nextT bs s.tok.kind s.st s.k with _ | ⟨t, st1, k1⟩
   ·have H := Hs256
    rw [hS] at HP
    refine y_call pf_next H rfl rfl (Calls.mono HP ?_)
    rintro e w255 ⟨⟨te, xe, rfl⟩, vst255, vi255, s255, hd255, hp255, hds255⟩
    refine ⟨_, rfl, fun a H => ?_⟩
    have hz257 := DStep.size hds255
    have hr258 := RowAt.kept hr250 (DStep.block hds255 _ (by omega) (by omega) hov6)
    have hr260 := RowAt.kept hr251 (DStep.block hds255 _ (by omega) (by omega) hov12)
    have hov261 := DStep.notOpen hds255 hov12 (by omega)
    have hr262 := RowAt.kept hr248 (DStep.block hds255 _ (by omega) (by omega) hov254)
    have hov263 := DStep.notOpen hds255 hov254 (by omega)
    have hs264 := DStep.trans hs253 hds255
    refine wpList_nil ⟨⟨hr258, DW.ck hd255 (congrArg TT.kind hp255.2.1)⟩, ?_⟩
    refine d_take 7 H rfl (by kernel_rfl) (by kernel_rfl) (by kernel_rfl) (r_move H rfl) ⟨hr258, DW.ck hd255 (congrArg TT.kind hp255.2.1)⟩ rfl fun a H => d_take 8 H rfl (by kernel_rfl) (by kernel_rfl) (by kernel_rfl) (r_extract H rfl rfl) ⟨hr258, DW.ck hd255 (congrArg TT.kind hp255.2.1)⟩ rfl fun a H => d_take 9 H rfl (by kernel_rfl) (by kernel_rfl) (by kernel_rfl) (r_extract H rfl rfl) ⟨hr258, DW.ck hd255 (congrArg TT.kind hp255.2.1)⟩ rfl fun a H => ?_
    refine d_one 11 (by kernel_rfl) rfl rfl ?_
    refine y_storeRow (vs := [_, _, _, _, _, _]) H rfl rfl hr262 rfl (tok_size' _ _ _ _ _ _) (by simp [Value.oneCell']) fun w265 hr265 hg265 => ?_
    have hz266 := World.grownBy.size hg265
    have hr267 := RowAt.grown hr258 hg265 (by omega) (by omega)
    have hr268 := RowAt.grown hr260 hg265 (by omega) (by omega)
    have hd269 := DW.grownOther hd255 hg265 (by omega) (by omega) hov263 (by omega)
    have hs270 := DStep.thenRow hs264 hg265 (by omega)
    refine wpList_nil ⟨⟨hr267, DW.ck hd269 (congrArg TT.kind hp255.2.1)⟩, ?_⟩
    refine d_take 12 H rfl (by kernel_rfl) (by kernel_rfl) (by kernel_rfl) (r_assign H rfl) ⟨hr267, DW.ck hd269 (congrArg TT.kind hp255.2.1)⟩ rfl fun a H => ?_
    refine d_done (by kernel_rfl) (then_normal (hK41 _ _ ?_))
    replace H := H.k6 0 1 2 3 4 5 rfl rfl rfl rfl rfl rfl
    refine y_seq fun K271 hK271 => ?_
    refine y_seq fun K272 hK272 => ?_
    refine y_reg ?_
    refine y_move H rfl rfl fun a H => y_neNil (b := true) H rfl (.inr ⟨_, _, rfl, rfl⟩) rfl fun a H => wpList_nil (then_normal (hK272 _ _ ?_))
    replace H := H.k7 0 1 2 3 4 5 31 rfl rfl rfl rfl rfl rfl rfl
    refine y_ift H rfl ?_
    refine y_seq fun K273 hK273 => ?_
    refine y_reg ?_
    refine y_bld built_tok0 H rfl rfl fun a H => y_move H rfl rfl fun a H => y_storeRow (vs := [_, _, _, _, _, _]) H rfl rfl hr268 rfl (tok_size' _ _ _ _ _ _) (by simp [Value.oneCell']) fun w274 hr274 hg274 => ?_
    have hz275 := World.grownBy.size hg274
    have hr276 := RowAt.grown hr267 hg274 (by omega) (by omega)
    have hd278 := DW.grownOther hd269 hg274 (by omega) (by omega) hov261 (by omega)
    have hs279 := DStep.thenRow hs270 hg274 (by omega)
    refine y_assign H rfl rfl fun a H => wpList_nil (then_normal (hK273 _ _ ?_))
    replace H := H.k6 0 1 2 3 4 5 rfl rfl rfl rfl rfl rfl
    refine wp_ret (then_ret (?_))
    refine read_end H rfl rfl hd278 hr276 hr274 (by omega) fun w9 hd9 hg9 => ?_
    rw [show Z = none from by rw [← HZ.out, readT_two hpk, readF_none hS]]
    exact ⟨⟨_, _, _, rfl, fun _ => rfl, none, 0, 0, TT.zero, rfl⟩, _, _, _, _, _, hd9, rfl, DStep.trans hs279 (DStep.of_grown hg9)⟩
   ·have H := Hs256
    rw [hS] at HP
    refine y_call pf_next H rfl rfl (Calls.mono HP ?_)
    rintro e w255 ⟨vt255, vst255, vi255, s255, rfl, hvt255, hd255, hse255, hds255⟩
    subst hse255
    have Hs280 := H
    obtain ⟨ao255, n255, c255, rfl⟩ := View.slice3 hvt255
    have H := Hs280
    refine ⟨_, rfl, fun a H => ?_⟩
    have hkd : 1 ≤ t.kind ∧ t.kind ≤ 9 := (next_ok hS hle).kind
    have hz281 := DStep.size hds255
    have hr282 := RowAt.kept hr250 (DStep.block hds255 _ (by omega) (by omega) hov6)
    have hov283 := DStep.notOpen hds255 hov6 (by omega)
    have hr284 := RowAt.kept hr251 (DStep.block hds255 _ (by omega) (by omega) hov12)
    have hov285 := DStep.notOpen hds255 hov12 (by omega)
    have hr286 := RowAt.kept hr248 (DStep.block hds255 _ (by omega) (by omega) hov254)
    have hov287 := DStep.notOpen hds255 hov254 (by omega)
    have hs288 := DStep.trans hs253 hds255
    refine wpList_nil ⟨⟨hr282, DW.ck hd255 rfl⟩, ?_⟩
    refine d_take 7 H rfl (by kernel_rfl) (by kernel_rfl) (by kernel_rfl) (r_move H rfl) ⟨hr282, DW.ck hd255 rfl⟩ rfl fun a H => d_take 8 H rfl (by kernel_rfl) (by kernel_rfl) (by kernel_rfl) (r_extract H rfl rfl) ⟨hr282, DW.ck hd255 rfl⟩ rfl fun a H => d_take 9 H rfl (by kernel_rfl) (by kernel_rfl) (by kernel_rfl) (r_extract H rfl rfl) ⟨hr282, DW.ck hd255 rfl⟩ rfl fun a H => ?_
    refine d_one 11 (by kernel_rfl) rfl rfl ?_
    refine y_storeRow (vs := [_, _, _, _, _, _]) H rfl rfl hr286 rfl (tok_size' _ _ _ _ _ _) (by simp [Value.oneCell']) fun w289 hr289 hg289 => ?_
    have hz290 := World.grownBy.size hg289
    have hv291 := View.kept hvt255 (World.grownBy.block hg289 g (by omega) (fun e => by injection e with e; omega))
    have hr292 := RowAt.grown hr282 hg289 (by omega) (by omega)
    have hr293 := RowAt.grown hr284 hg289 (by omega) (by omega)
    have hd294 := DW.grownOther hd255 hg289 (by omega) (by omega) hov287 (by omega)
    have hs295 := DStep.thenRow hs288 hg289 (by omega)
    refine wpList_nil ⟨⟨hr292, DW.ck hd294 rfl⟩, ?_⟩
    refine d_take 12 H rfl (by kernel_rfl) (by kernel_rfl) (by kernel_rfl) (r_assign H rfl) ⟨hr292, DW.ck hd294 rfl⟩ rfl fun a H => ?_
    refine d_done (by kernel_rfl) (then_normal (hK41 _ _ ?_))
    replace H := H.k6 0 1 2 3 4 5 rfl rfl rfl rfl rfl rfl
    refine y_seq fun K296 hK296 => ?_
    refine y_seq fun K297 hK297 => ?_
    refine y_reg ?_
    refine y_move H rfl rfl fun a H => y_neNil (b := false) H rfl (.inl ⟨rfl, rfl⟩) rfl fun a H => wpList_nil (then_normal (hK297 _ _ ?_))
    replace H := H.k7 0 1 2 3 4 5 31 rfl rfl rfl rfl rfl rfl rfl
    refine y_iff H rfl ?_
    refine wp_skip (then_normal (hK296 _ _ ?_))
    replace H := H.k6 0 1 2 3 4 5 rfl rfl rfl rfl rfl rfl
    refine y_seq fun K298 hK298 => ?_
    refine y_seq fun K299 hK299 => ?_
    refine y_reg ?_
    refine y_field fld_tk H rfl rfl fun a H => y_load oneKind H rfl (hr289 0 _ rfl).1 rfl fun a H => wpList_nil (then_normal (hK299 _ _ ?_))
    replace H := H.k7 0 1 2 3 4 5 35 rfl rfl rfl rfl rfl rfl rfl
    refine wp_block ?_
    refine y_seq fun K300 hK300 => ?_
    refine y_seq fun K301 hK301 => ?_
    refine y_reg ?_
    by_cases q302 : (((t.kind : Nat) : Int)) = ((8 : Int))
    ·refine y_eql (b := true) H rfl rfl (ieq_t (by omega)) rfl fun a H => y_assign H rfl rfl fun a H => wpList_nil (then_normal (hK301 _ _ ?_))
     replace H := H.k8 0 1 2 3 4 5 35 36 rfl rfl rfl rfl rfl rfl rfl rfl
     refine y_ift H rfl ?_
     refine wp_skip (then_normal (hK300 _ _ ?_))
     replace H := H.k7 0 1 2 3 4 5 36 rfl rfl rfl rfl rfl rfl rfl
     refine y_ift H rfl ?_
     refine y_seq fun K303 hK303 => ?_
     refine y_reg ?_
     refine y_load onePtr H rfl (hr292 0 _ rfl).1 rfl fun a H => y_field fld_tk H rfl rfl fun a H => y_load oneKind H rfl (hr289 0 _ rfl).1 rfl fun a H => ?_
     have hok2 := next_ok2 hle hS hok
     have hkl : k1 ≤ bs.length := (next_ok hS hle).le
     have HP : Calls Tryz.prog 28 #[.pointer (some ⟨p, 0, none⟩), .int .u8 (t.kind : Int)] w289 (NextRes B p g bs _ ve _ vo { s with st := st1, k := k1 } w289 (nextT bs t.kind st1 k1)) := parseNext_any hd294 hm t.kind hok2.le hok2.ok (by have : st1.length ≤ k1 := hok2.len; show st1.length ≤ _; omega) hok2.h4 hok2.h6 hok2.h7 hok2.h9
     have Hs305 := H
     rcases hS2 : nextT bs t.kind st1 k1 with _ | ⟨t2, st2, k2⟩
     ·have H := Hs305
      rw [hS2] at HP
      refine y_call pf_next H rfl rfl (Calls.mono HP ?_)
      rintro e w304 ⟨⟨te, xe, rfl⟩, vst304, vi304, s304, hd304, hp304, hds304⟩
      refine ⟨_, rfl, fun a H => ?_⟩
      have hz306 := DStep.size hds304
      have hr308 := RowAt.kept hr292 (DStep.block hds304 _ (by omega) (by omega) hov283)
      have hr310 := RowAt.kept hr293 (DStep.block hds304 _ (by omega) (by omega) hov285)
      have hov311 := DStep.notOpen hds304 hov285 (by omega)
      have hr312 := RowAt.kept hr289 (DStep.block hds304 _ (by omega) (by omega) hov287)
      have hov313 := DStep.notOpen hds304 hov287 (by omega)
      have hs314 := DStep.trans hs295 hds304
      refine y_move H rfl rfl fun a H => y_extract H rfl rfl rfl fun a H => y_extract H rfl rfl rfl fun a H => y_storeRow (vs := [_, _, _, _, _, _]) H rfl rfl hr312 rfl (tok_size' _ _ _ _ _ _) (by simp [Value.oneCell']) fun w315 hr315 hg315 => ?_
      have hz316 := World.grownBy.size hg315
      have hr318 := RowAt.grown hr308 hg315 (by omega) (by omega)
      have hr319 := RowAt.grown hr310 hg315 (by omega) (by omega)
      have hd320 := DW.grownOther hd304 hg315 (by omega) (by omega) hov313 (by omega)
      have hs321 := DStep.thenRow hs314 hg315 (by omega)
      refine y_assign H rfl rfl fun a H => wpList_nil (then_normal (hK303 _ _ ?_))
      replace H := H.k6 0 1 2 3 4 5 rfl rfl rfl rfl rfl rfl
      refine y_seq fun K322 hK322 => ?_
      refine y_reg ?_
      refine y_move H rfl rfl fun a H => y_neNil (b := true) H rfl (.inr ⟨_, _, rfl, rfl⟩) rfl fun a H => wpList_nil (then_normal (hK322 _ _ ?_))
      replace H := H.k7 0 1 2 3 4 5 47 rfl rfl rfl rfl rfl rfl rfl
      refine y_ift H rfl ?_
      refine y_seq fun K323 hK323 => ?_
      refine y_reg ?_
      refine y_bld built_tok0 H rfl rfl fun a H => y_move H rfl rfl fun a H => y_storeRow (vs := [_, _, _, _, _, _]) H rfl rfl hr319 rfl (tok_size' _ _ _ _ _ _) (by simp [Value.oneCell']) fun w324 hr324 hg324 => ?_
      have hz325 := World.grownBy.size hg324
      have hr327 := RowAt.grown hr318 hg324 (by omega) (by omega)
      have hd329 := DW.grownOther hd320 hg324 (by omega) (by omega) hov311 (by omega)
      have hs330 := DStep.thenRow hs321 hg324 (by omega)
      refine y_assign H rfl rfl fun a H => wpList_nil (then_normal (hK323 _ _ ?_))
      replace H := H.k5 0 1 2 3 4 rfl rfl rfl rfl rfl
      refine wp_ret (in_ret (then_ret (?_)))
      refine read_end H rfl rfl hd329 hr327 hr324 (by omega) fun w9 hd9 hg9 => ?_
      rw [show Z = none from by rw [← HZ.out, readT_two hpk, readF_twoN hS (by omega) hS2]]
      exact ⟨⟨_, _, _, rfl, fun _ => rfl, none, 0, 0, TT.zero, rfl⟩, _, _, _, _, _, hd9, rfl, DStep.trans hs330 (DStep.of_grown hg9)⟩
     ·have H := Hs305
      rw [hS2] at HP
      refine y_call pf_next H rfl rfl (Calls.mono HP ?_)
      rintro e w304 ⟨vt304, vst304, vi304, s304, rfl, hvt304, hd304, hse304, hds304⟩
      subst hse304
      have Hs331 := H
      obtain ⟨ao304, n304, c304, rfl⟩ := View.slice3 hvt304
      have H := Hs331
      refine ⟨_, rfl, fun a H => ?_⟩
      have hz332 := DStep.size hds304
      have hr334 := RowAt.kept hr292 (DStep.block hds304 _ (by omega) (by omega) hov283)
      have hr336 := RowAt.kept hr293 (DStep.block hds304 _ (by omega) (by omega) hov285)
      have hov337 := DStep.notOpen hds304 hov285 (by omega)
      have hr338 := RowAt.kept hr289 (DStep.block hds304 _ (by omega) (by omega) hov287)
      have hov339 := DStep.notOpen hds304 hov287 (by omega)
      have hs340 := DStep.trans hs295 hds304
      refine y_move H rfl rfl fun a H => y_extract H rfl rfl rfl fun a H => y_extract H rfl rfl rfl fun a H => y_storeRow (vs := [_, _, _, _, _, _]) H rfl rfl hr338 rfl (tok_size' _ _ _ _ _ _) (by simp [Value.oneCell']) fun w341 hr341 hg341 => ?_
      have hz342 := World.grownBy.size hg341
      have hv343 := View.kept hvt304 (World.grownBy.block hg341 g (by omega) (fun e => by injection e with e; omega))
      have hr344 := RowAt.grown hr334 hg341 (by omega) (by omega)
      have hr345 := RowAt.grown hr336 hg341 (by omega) (by omega)
      have hd346 := DW.grownOther hd304 hg341 (by omega) (by omega) hov339 (by omega)
      have hs347 := DStep.thenRow hs340 hg341 (by omega)
      refine y_assign H rfl rfl fun a H => wpList_nil (then_normal (hK303 _ _ ?_))
      replace H := H.k6 0 1 2 3 4 5 rfl rfl rfl rfl rfl rfl
      refine y_seq fun K348 hK348 => ?_
      refine y_reg ?_
      refine y_move H rfl rfl fun a H => y_neNil (b := false) H rfl (.inl ⟨rfl, rfl⟩) rfl fun a H => wpList_nil (then_normal (hK348 _ _ ?_))
      replace H := H.k7 0 1 2 3 4 5 47 rfl rfl rfl rfl rfl rfl rfl
      refine y_iff H rfl ?_
      refine wp_skip (in_normal (then_normal (hK298 _ _ ?_)))
      replace H := H.k5 0 1 2 3 4 rfl rfl rfl rfl rfl
      refine y_seq fun K349 hK349 => ?_
      refine y_reg ?_
      refine y_load onePtr H rfl (hr344 0 _ rfl).1 rfl fun a H => y_loadRow Tryz.underlying50 rfl (tok_size _ rfl) H rfl hr341 rfl fun a H => y_nilCheck H rfl rfl fun a H => y_field fld_tok H rfl rfl fun a H => y_storeTok (t := t2) H rfl rfl hd346 hv343 fun w350 hd350 hg350 => ?_
      have hz351 := World.grownBy.size hg350
      have hr353 := RowAt.grown hr344 hg350 (by omega) (by omega)
      have hr354 := RowAt.grown hr345 hg350 (by omega) (by omega)
      have hr355 := RowAt.grown hr341 hg350 (by omega) (by omega)
      have hs356 := DStep.trans hs347 (DStep.of_grown hg350)
      refine wpList_nil (then_normal (hK349 _ _ ?_))
      replace H := H.k5 0 1 2 3 4 rfl rfl rfl rfl rfl
      refine y_seq fun K357 hK357 => ?_
      refine y_reg ?_
      refine y_loadRow Tryz.underlying50 rfl (tok_size _ rfl) H rfl hr355 rfl fun a H => y_storeRow (vs := [_, _, _, _, _, _]) H rfl rfl hr354 rfl (tok_size' _ _ _ _ _ _) (by simp [Value.oneCell']) fun w358 hr358 hg358 => ?_
      have hz359 := World.grownBy.size hg358
      have hr361 := RowAt.grown hr353 hg358 (by omega) (by omega)
      have hd363 := DW.grownOther hd350 hg358 (by omega) (by omega) hov337 (by omega)
      have hs364 := DStep.thenRow hs356 hg358 (by omega)
      refine y_assign H rfl rfl fun a H => wpList_nil (then_normal (hK357 _ _ ?_))
      replace H := H.k4 0 1 2 3 rfl rfl rfl rfl
      refine wp_ret (?_)
      refine read_end H rfl rfl hd363 hr361 hr358 (by omega) fun w9 hd9 hg9 => ?_
      rw [show Z = some ⟨false, t2, s.bad, st2, k2⟩ from by rw [← HZ.out, readT_two hpk, readF_twoS hS (by omega) hS2]]
      exact ⟨_, _, _, _, rfl, hd9, DStep.trans hs364 (DStep.of_grown hg9)⟩
    ·refine y_eql (b := false) H rfl rfl (ieq_f (by omega)) rfl fun a H => y_assign H rfl rfl fun a H => wpList_nil (then_normal (hK301 _ _ ?_))
     replace H := H.k8 0 1 2 3 4 5 35 36 rfl rfl rfl rfl rfl rfl rfl rfl
     refine y_iff H rfl ?_
     refine y_reg ?_
     by_cases q365 : (((t.kind : Nat) : Int)) = ((9 : Int))
     ·refine y_eql (b := true) H rfl rfl (ieq_t (by omega)) rfl fun a H => y_assign H rfl rfl fun a H => wpList_nil (then_normal (hK300 _ _ ?_))
      replace H := H.k7 0 1 2 3 4 5 36 rfl rfl rfl rfl rfl rfl rfl
      refine y_ift H rfl ?_
      refine y_seq fun K366 hK366 => ?_
      refine y_reg ?_
      refine y_load onePtr H rfl (hr292 0 _ rfl).1 rfl fun a H => y_field fld_tk H rfl rfl fun a H => y_load oneKind H rfl (hr289 0 _ rfl).1 rfl fun a H => ?_
      have hok2 := next_ok2 hle hS hok
      have hkl : k1 ≤ bs.length := (next_ok hS hle).le
      have HP : Calls Tryz.prog 28 #[.pointer (some ⟨p, 0, none⟩), .int .u8 (t.kind : Int)] w289 (NextRes B p g bs _ ve _ vo { s with st := st1, k := k1 } w289 (nextT bs t.kind st1 k1)) := parseNext_any hd294 hm t.kind hok2.le hok2.ok (by have : st1.length ≤ k1 := hok2.len; show st1.length ≤ _; omega) hok2.h4 hok2.h6 hok2.h7 hok2.h9
      have Hs368 := H
      rcases hS2 : nextT bs t.kind st1 k1 with _ | ⟨t2, st2, k2⟩
      ·have H := Hs368
       rw [hS2] at HP
       refine y_call pf_next H rfl rfl (Calls.mono HP ?_)
       rintro e w367 ⟨⟨te, xe, rfl⟩, vst367, vi367, s367, hd367, hp367, hds367⟩
       refine ⟨_, rfl, fun a H => ?_⟩
       have hz369 := DStep.size hds367
       have hr371 := RowAt.kept hr292 (DStep.block hds367 _ (by omega) (by omega) hov283)
       have hr373 := RowAt.kept hr293 (DStep.block hds367 _ (by omega) (by omega) hov285)
       have hov374 := DStep.notOpen hds367 hov285 (by omega)
       have hr375 := RowAt.kept hr289 (DStep.block hds367 _ (by omega) (by omega) hov287)
       have hov376 := DStep.notOpen hds367 hov287 (by omega)
       have hs377 := DStep.trans hs295 hds367
       refine y_move H rfl rfl fun a H => y_extract H rfl rfl rfl fun a H => y_extract H rfl rfl rfl fun a H => y_storeRow (vs := [_, _, _, _, _, _]) H rfl rfl hr375 rfl (tok_size' _ _ _ _ _ _) (by simp [Value.oneCell']) fun w378 hr378 hg378 => ?_
       have hz379 := World.grownBy.size hg378
       have hr381 := RowAt.grown hr371 hg378 (by omega) (by omega)
       have hr382 := RowAt.grown hr373 hg378 (by omega) (by omega)
       have hd383 := DW.grownOther hd367 hg378 (by omega) (by omega) hov376 (by omega)
       have hs384 := DStep.thenRow hs377 hg378 (by omega)
       refine y_assign H rfl rfl fun a H => wpList_nil (then_normal (hK366 _ _ ?_))
       replace H := H.k6 0 1 2 3 4 5 rfl rfl rfl rfl rfl rfl
       refine y_seq fun K385 hK385 => ?_
       refine y_reg ?_
       refine y_move H rfl rfl fun a H => y_neNil (b := true) H rfl (.inr ⟨_, _, rfl, rfl⟩) rfl fun a H => wpList_nil (then_normal (hK385 _ _ ?_))
       replace H := H.k7 0 1 2 3 4 5 47 rfl rfl rfl rfl rfl rfl rfl
       refine y_ift H rfl ?_
       refine y_seq fun K386 hK386 => ?_
       refine y_reg ?_
       refine y_bld built_tok0 H rfl rfl fun a H => y_move H rfl rfl fun a H => y_storeRow (vs := [_, _, _, _, _, _]) H rfl rfl hr382 rfl (tok_size' _ _ _ _ _ _) (by simp [Value.oneCell']) fun w387 hr387 hg387 => ?_
       have hz388 := World.grownBy.size hg387
       have hr390 := RowAt.grown hr381 hg387 (by omega) (by omega)
       have hd392 := DW.grownOther hd383 hg387 (by omega) (by omega) hov374 (by omega)
       have hs393 := DStep.thenRow hs384 hg387 (by omega)
       refine y_assign H rfl rfl fun a H => wpList_nil (then_normal (hK386 _ _ ?_))
       replace H := H.k5 0 1 2 3 4 rfl rfl rfl rfl rfl
       refine wp_ret (in_ret (then_ret (?_)))
       refine read_end H rfl rfl hd392 hr390 hr387 (by omega) fun w9 hd9 hg9 => ?_
       rw [show Z = none from by rw [← HZ.out, readT_two hpk, readF_twoN hS (by omega) hS2]]
       exact ⟨⟨_, _, _, rfl, fun _ => rfl, none, 0, 0, TT.zero, rfl⟩, _, _, _, _, _, hd9, rfl, DStep.trans hs393 (DStep.of_grown hg9)⟩
      ·have H := Hs368
       rw [hS2] at HP
       refine y_call pf_next H rfl rfl (Calls.mono HP ?_)
       rintro e w367 ⟨vt367, vst367, vi367, s367, rfl, hvt367, hd367, hse367, hds367⟩
       subst hse367
       have Hs394 := H
       obtain ⟨ao367, n367, c367, rfl⟩ := View.slice3 hvt367
       have H := Hs394
       refine ⟨_, rfl, fun a H => ?_⟩
       have hz395 := DStep.size hds367
       have hr397 := RowAt.kept hr292 (DStep.block hds367 _ (by omega) (by omega) hov283)
       have hr399 := RowAt.kept hr293 (DStep.block hds367 _ (by omega) (by omega) hov285)
       have hov400 := DStep.notOpen hds367 hov285 (by omega)
       have hr401 := RowAt.kept hr289 (DStep.block hds367 _ (by omega) (by omega) hov287)
       have hov402 := DStep.notOpen hds367 hov287 (by omega)
       have hs403 := DStep.trans hs295 hds367
       refine y_move H rfl rfl fun a H => y_extract H rfl rfl rfl fun a H => y_extract H rfl rfl rfl fun a H => y_storeRow (vs := [_, _, _, _, _, _]) H rfl rfl hr401 rfl (tok_size' _ _ _ _ _ _) (by simp [Value.oneCell']) fun w404 hr404 hg404 => ?_
       have hz405 := World.grownBy.size hg404
       have hv406 := View.kept hvt367 (World.grownBy.block hg404 g (by omega) (fun e => by injection e with e; omega))
       have hr407 := RowAt.grown hr397 hg404 (by omega) (by omega)
       have hr408 := RowAt.grown hr399 hg404 (by omega) (by omega)
       have hd409 := DW.grownOther hd367 hg404 (by omega) (by omega) hov402 (by omega)
       have hs410 := DStep.thenRow hs403 hg404 (by omega)
       refine y_assign H rfl rfl fun a H => wpList_nil (then_normal (hK366 _ _ ?_))
       replace H := H.k6 0 1 2 3 4 5 rfl rfl rfl rfl rfl rfl
       refine y_seq fun K411 hK411 => ?_
       refine y_reg ?_
       refine y_move H rfl rfl fun a H => y_neNil (b := false) H rfl (.inl ⟨rfl, rfl⟩) rfl fun a H => wpList_nil (then_normal (hK411 _ _ ?_))
       replace H := H.k7 0 1 2 3 4 5 47 rfl rfl rfl rfl rfl rfl rfl
       refine y_iff H rfl ?_
       refine wp_skip (in_normal (then_normal (hK298 _ _ ?_)))
       replace H := H.k5 0 1 2 3 4 rfl rfl rfl rfl rfl
       refine y_seq fun K412 hK412 => ?_
       refine y_reg ?_
       refine y_load onePtr H rfl (hr407 0 _ rfl).1 rfl fun a H => y_loadRow Tryz.underlying50 rfl (tok_size _ rfl) H rfl hr404 rfl fun a H => y_nilCheck H rfl rfl fun a H => y_field fld_tok H rfl rfl fun a H => y_storeTok (t := t2) H rfl rfl hd409 hv406 fun w413 hd413 hg413 => ?_
       have hz414 := World.grownBy.size hg413
       have hr416 := RowAt.grown hr407 hg413 (by omega) (by omega)
       have hr417 := RowAt.grown hr408 hg413 (by omega) (by omega)
       have hr418 := RowAt.grown hr404 hg413 (by omega) (by omega)
       have hs419 := DStep.trans hs410 (DStep.of_grown hg413)
       refine wpList_nil (then_normal (hK412 _ _ ?_))
       replace H := H.k5 0 1 2 3 4 rfl rfl rfl rfl rfl
       refine y_seq fun K420 hK420 => ?_
       refine y_reg ?_
       refine y_loadRow Tryz.underlying50 rfl (tok_size _ rfl) H rfl hr418 rfl fun a H => y_storeRow (vs := [_, _, _, _, _, _]) H rfl rfl hr417 rfl (tok_size' _ _ _ _ _ _) (by simp [Value.oneCell']) fun w421 hr421 hg421 => ?_
       have hz422 := World.grownBy.size hg421
       have hr424 := RowAt.grown hr416 hg421 (by omega) (by omega)
       have hd426 := DW.grownOther hd413 hg421 (by omega) (by omega) hov400 (by omega)
       have hs427 := DStep.thenRow hs419 hg421 (by omega)
       refine y_assign H rfl rfl fun a H => wpList_nil (then_normal (hK420 _ _ ?_))
       replace H := H.k4 0 1 2 3 rfl rfl rfl rfl
       refine wp_ret (?_)
       refine read_end H rfl rfl hd426 hr424 hr421 (by omega) fun w9 hd9 hg9 => ?_
       rw [show Z = some ⟨false, t2, s.bad, st2, k2⟩ from by rw [← HZ.out, readT_two hpk, readF_twoS hS (by omega) hS2]]
       exact ⟨_, _, _, _, rfl, hd9, DStep.trans hs427 (DStep.of_grown hg9)⟩
     ·refine y_eql (b := false) H rfl rfl (ieq_f (by omega)) rfl fun a H => y_assign H rfl rfl fun a H => wpList_nil (then_normal (hK300 _ _ ?_))
      replace H := H.k7 0 1 2 3 4 5 36 rfl rfl rfl rfl rfl rfl rfl
      refine y_iff H rfl ?_
      refine wp_skip (in_normal (then_normal (hK298 _ _ ?_)))
      replace H := H.k5 0 1 2 3 4 rfl rfl rfl rfl rfl
      refine y_seq fun K428 hK428 => ?_
      refine y_reg ?_
      refine y_load onePtr H rfl (hr292 0 _ rfl).1 rfl fun a H => y_loadRow Tryz.underlying50 rfl (tok_size _ rfl) H rfl hr289 rfl fun a H => y_nilCheck H rfl rfl fun a H => y_field fld_tok H rfl rfl fun a H => y_storeTok (t := t) H rfl rfl hd294 hv291 fun w429 hd429 hg429 => ?_
      have hz430 := World.grownBy.size hg429
      have hr432 := RowAt.grown hr292 hg429 (by omega) (by omega)
      have hr433 := RowAt.grown hr293 hg429 (by omega) (by omega)
      have hr434 := RowAt.grown hr289 hg429 (by omega) (by omega)
      have hs435 := DStep.trans hs295 (DStep.of_grown hg429)
      refine wpList_nil (then_normal (hK428 _ _ ?_))
      replace H := H.k5 0 1 2 3 4 rfl rfl rfl rfl rfl
      refine y_seq fun K436 hK436 => ?_
      refine y_reg ?_
      refine y_loadRow Tryz.underlying50 rfl (tok_size _ rfl) H rfl hr434 rfl fun a H => y_storeRow (vs := [_, _, _, _, _, _]) H rfl rfl hr433 rfl (tok_size' _ _ _ _ _ _) (by simp [Value.oneCell']) fun w437 hr437 hg437 => ?_
      have hz438 := World.grownBy.size hg437
      have hr440 := RowAt.grown hr432 hg437 (by omega) (by omega)
      have hd442 := DW.grownOther hd429 hg437 (by omega) (by omega) hov285 (by omega)
      have hs443 := DStep.thenRow hs435 hg437 (by omega)
      refine y_assign H rfl rfl fun a H => wpList_nil (then_normal (hK436 _ _ ?_))
      replace H := H.k4 0 1 2 3 rfl rfl rfl rfl
      refine wp_ret (?_)
      refine read_end H rfl rfl hd442 hr440 hr437 (by omega) fun w9 hd9 hg9 => ?_
      rw [show Z = some ⟨false, t, s.bad, st1, k1⟩ from by rw [← HZ.out, readT_two hpk, readF_one hS (by omega)]]
      exact ⟨_, _, _, _, rfl, hd9, DStep.trans hs443 (DStep.of_grown hg9)⟩
end Go.Proofs.YtgdnpnipahegaaaGreatDoor

namespace Go.Proofs.YtgdnpnipahegaaaGreatDoor
open Go.ChangeShapes Go.WideShapes Go.ChangeAt Go.RowKit

theorem pf_read : PlainFn Tryz.prog 19 := ⟨_, Tryz.func19, by kernel_rfl, by kernel_rfl⟩
theorem peekT_seen {bs : List UInt8} {s : DT} (hp : s.peeked = true) : peekT bs s = s := by unfold peekT; rw [if_pos hp]
theorem peekT_some {bs : List UInt8} {s s1 : DT} (hp : s.peeked = false) (h : readT bs s = some s1) : peekT bs s = { s1 with peeked := true, bad := false } := by
 rw [readT_plain hp] at h; unfold peekT; rw [if_neg (by rw [hp]; decide), h]
theorem peekT_none {bs : List UInt8} {s : DT} (hp : s.peeked = false) (h : readT bs s = none) : peekT bs s = { s with peeked := true, bad := true, tok := TT.zero } := by
 rw [readT_plain hp] at h; unfold peekT; rw [if_neg (by rw [hp]; decide), h]
def Like (a b : DT) : Prop := b = a ∨ (a.peeked = true ∧ a.bad = true ∧ b.peeked = true ∧ b.bad = true)
variable {B p g : Nat} {bs : List UInt8} {vr ve vst vo vi : Value} {s : DT} {w : World}
set_option maxRecDepth 100000 in
set_option maxHeartbeats 100000000 in
theorem peek_any (h : DW B p g bs vr ve vst vo vi s w) (hm : bs.length ≤ 10000000) (hok : s.peeked = false → DOk2 s.st s.tok.kind s.k) :
  Calls Tryz.prog 18 #[.pointer (some ⟨p, 0, none⟩)] w fun e w' => ∃ s' vr' ve' vst' vi', e = .returned (.tuple #[tokV vr' s'.tok, ve']) ∧ DW B p g bs vr' ve' vst' vo vi' s' w' ∧ DStep p vst w vst' w' ∧ Like (peekT bs s) s' := by
 obtain ⟨ao, n, c, rfl⟩ := View.slice3 h.raw
 have hlp := h.lt
 have hgl := h.gl
 have hgp : g ≠ p := h.gp
 have HO := hid h.ownLt
 have h9 : 9 ≤ w.heap.size := by have := h.base; have := h.b9; omega
 have hle := h.le
 have hlk : (bs.drop s.k).length = bs.length - s.k := List.length_drop
 have hg0 : w.grownBy w (some p) := grownBy_below (Below.refl _ _) _
 have hs0 := DStep.refl p vst w
 refine enterD1 (M := 29) Tryz.func18 rfl rfl rfl fun a H => ?_
 refine y_seq fun K1 hK1 => ?_
 refine y_reg ?_
 obtain ⟨q2, hq2⟩ : ∃ q, q = w.heap.size := ⟨_, rfl⟩
 refine y_boxRow rfl H rfl rfl fun w2 hr2 hb2 hs2 a H => ?_
 rw [← hq2] at H hr2
 have hz3 := Below.size hb2
 have hd4 := DW.below h hb2
 have hs5 := DStep.trans hs0 (DStep.of_below hb2)
 have hov6 := DW.fresh (q := q2) h (by omega)
 obtain ⟨q7, hq7⟩ : ∃ q, q = w2.heap.size := ⟨_, rfl⟩
 refine y_allocRow alloc_tok H rfl fun w7 hr7 hb7 hs7 a H => ?_
 rw [← hq7] at H hr7
 have hz8 := Below.size hb7
 have hr9 := RowAt.below hr2 (by omega) hb7
 have hd10 := DW.below hd4 hb7
 have hs11 := DStep.trans hs5 (DStep.of_below hb7)
 have hov12 := DW.fresh (q := q7) hd4 (by omega)
 refine y_assign H rfl rfl fun a H => wpList_nil (then_normal (hK1 _ _ ?_))
 replace H := H.k4 0 1 2 3 rfl rfl rfl rfl
 refine y_seq fun K13 hK13 => ?_
 refine y_reg ?_
 refine y_makeFunc H rfl rfl fun a H => y_defer H rfl rfl fun a H => wpList_nil (then_normal (hK13 _ _ ?_))
 replace H := H.k4 0 1 2 3 rfl rfl rfl rfl
 refine y_seq fun K14 hK14 => ?_
 refine y_seq fun K15 hK15 => ?_
 by_cases hpk : s.peeked = true
 ·refine y_reg ?_
  refine y_load onePtr H rfl (hr9 0 _ rfl).1 rfl fun a H => y_nilCheck H rfl rfl fun a H => y_field fld_call H rfl rfl fun a H => y_load oneCall H rfl (DW.c0t hd10 hpk) rfl fun a H => y_eql (b := false) H rfl rfl (by decide) rfl fun a H => wpList_nil (then_normal (hK15 _ _ ?_))
  replace H := H.k5 0 1 2 3 9 rfl rfl rfl rfl rfl
  refine y_iff H rfl ?_
  refine wp_skip (then_normal (hK14 _ _ ?_))
  replace H := H.k4 0 1 2 3 rfl rfl rfl rfl
  refine y_seq fun K16 hK16 => ?_
  have he := h.err
  by_cases hbad : s.bad = true
  ·rw [hbad] at he
   have Hs17 := H
   obtain ⟨te, xe, rfl⟩ := he
   have H := Hs17
   refine d_begin (fun w' => RowAt w' q2 [.pointer (some ⟨p, 0, none⟩)] ∧ w'.rangeAt p 1 (tokCells6 (.slice ao n c) s.tok) ∧ w'.cell? ⟨p, 7, none⟩ = some (.iface te xe)) 10 mixedP rfl ?_
   have hbd18 : Below w7.heap.size w7 w7.drew := (Below.refl _ _).drew
   generalize w7.drew = wd18 at hbd18 ⊢
   have hz19 := Below.size hbd18
   have hr20 := RowAt.below hr9 (by omega) hbd18
   have hr21 := RowAt.below hr7 (by omega) hbd18
   have hd22 := DW.below hd10 hbd18
   have hs23 := DStep.trans hs11 (DStep.of_below hbd18)
   refine d_take 0 H rfl (by kernel_rfl) (by kernel_rfl) (by kernel_rfl) (r_load onePtr H rfl (fun _ h => (h.1 0 _ rfl).1)) ⟨hr20, (DW.tokAt hd22 :), (DW.c7 hd22).1⟩ rfl fun a H => d_take 1 H rfl (by kernel_rfl) (by kernel_rfl) (by kernel_rfl) (r_nilCheck H rfl) ⟨hr20, (DW.tokAt hd22 :), (DW.c7 hd22).1⟩ rfl fun a H => d_take 2 H rfl (by kernel_rfl) (by kernel_rfl) (by kernel_rfl) (r_field fld_tok H rfl) ⟨hr20, (DW.tokAt hd22 :), (DW.c7 hd22).1⟩ rfl fun a H => d_take 3 H rfl (by kernel_rfl) (by kernel_rfl) (by kernel_rfl) (r_loadFrom Tryz.underlying50 rfl (tok_size _ rfl) H rfl (fun _ h => h.2.1)) ⟨hr20, (DW.tokAt hd22 :), (DW.c7 hd22).1⟩ rfl fun a H => d_take 4 H rfl (by kernel_rfl) (by kernel_rfl) (by kernel_rfl) (r_load onePtr H rfl (fun _ h => (h.1 0 _ rfl).1)) ⟨hr20, (DW.tokAt hd22 :), (DW.c7 hd22).1⟩ rfl fun a H => d_take 5 H rfl (by kernel_rfl) (by kernel_rfl) (by kernel_rfl) (r_nilCheck H rfl) ⟨hr20, (DW.tokAt hd22 :), (DW.c7 hd22).1⟩ rfl fun a H => d_take 6 H rfl (by kernel_rfl) (by kernel_rfl) (by kernel_rfl) (r_field fld_err H rfl) ⟨hr20, (DW.tokAt hd22 :), (DW.c7 hd22).1⟩ rfl fun a H => d_take 7 H rfl (by kernel_rfl) (by kernel_rfl) (by kernel_rfl) (r_load oneErr H rfl (fun _ h => h.2.2)) ⟨hr20, (DW.tokAt hd22 :), (DW.c7 hd22).1⟩ rfl fun a H => ?_
   refine d_one 8 (by kernel_rfl) rfl rfl ?_
   refine y_storeRow (vs := [_, _, _, _, _, _]) H rfl rfl hr21 rfl (tok_size' _ _ _ _ _ _) (by simp [Value.oneCell']) fun w24 hr24 hg24 => ?_
   have hz25 := World.grownBy.size hg24
   have hr26 := RowAt.grown hr20 hg24 (by omega) (by omega)
   have hd27 := DW.grownOther hd22 hg24 (by omega) (by omega) hov12 (by omega)
   have hs28 := DStep.thenRow hs23 hg24 (by omega)
   refine wpList_nil ⟨⟨hr26, (DW.tokAt hd27 :), (DW.c7 hd27).1⟩, ?_⟩
   refine d_take 9 H rfl (by kernel_rfl) (by kernel_rfl) (by kernel_rfl) (r_assign H rfl) ⟨hr26, (DW.tokAt hd27 :), (DW.c7 hd27).1⟩ rfl fun a H => ?_
   refine d_done (by kernel_rfl) (then_normal (hK16 _ _ ?_))
   replace H := H.k4 0 1 2 3 rfl rfl rfl rfl
   refine wp_ret (?_)
   refine peek_end H rfl rfl hd27 hr26 hr24 (by omega) fun w9 hd9 hg9 => ?_
   exact ⟨{ s with peeked := true }, _, _, _, _, rfl, hd9, DStep.trans hs28 (DStep.of_grown hg9), .inl (by rw [peekT_seen hpk]; exact (congrArg (fun b => DT.mk b s.tok s.bad s.st s.k) hpk.symm))⟩
  ·replace hbad : s.bad = false := by simpa using hbad
   rw [hbad] at he
   have Hs29 := H
   obtain rfl : ve = .nilIface := he
   have H := Hs29
   refine d_begin (fun w' => RowAt w' q2 [.pointer (some ⟨p, 0, none⟩)] ∧ w'.rangeAt p 1 (tokCells6 (.slice ao n c) s.tok) ∧ w'.cell? ⟨p, 7, none⟩ = some .nilIface) 10 mixedP rfl ?_
   have hbd30 : Below w7.heap.size w7 w7.drew := (Below.refl _ _).drew
   generalize w7.drew = wd30 at hbd30 ⊢
   have hz31 := Below.size hbd30
   have hr32 := RowAt.below hr9 (by omega) hbd30
   have hr33 := RowAt.below hr7 (by omega) hbd30
   have hd34 := DW.below hd10 hbd30
   have hs35 := DStep.trans hs11 (DStep.of_below hbd30)
   refine d_take 0 H rfl (by kernel_rfl) (by kernel_rfl) (by kernel_rfl) (r_load onePtr H rfl (fun _ h => (h.1 0 _ rfl).1)) ⟨hr32, (DW.tokAt hd34 :), (DW.c7 hd34).1⟩ rfl fun a H => d_take 1 H rfl (by kernel_rfl) (by kernel_rfl) (by kernel_rfl) (r_nilCheck H rfl) ⟨hr32, (DW.tokAt hd34 :), (DW.c7 hd34).1⟩ rfl fun a H => d_take 2 H rfl (by kernel_rfl) (by kernel_rfl) (by kernel_rfl) (r_field fld_tok H rfl) ⟨hr32, (DW.tokAt hd34 :), (DW.c7 hd34).1⟩ rfl fun a H => d_take 3 H rfl (by kernel_rfl) (by kernel_rfl) (by kernel_rfl) (r_loadFrom Tryz.underlying50 rfl (tok_size _ rfl) H rfl (fun _ h => h.2.1)) ⟨hr32, (DW.tokAt hd34 :), (DW.c7 hd34).1⟩ rfl fun a H => d_take 4 H rfl (by kernel_rfl) (by kernel_rfl) (by kernel_rfl) (r_load onePtr H rfl (fun _ h => (h.1 0 _ rfl).1)) ⟨hr32, (DW.tokAt hd34 :), (DW.c7 hd34).1⟩ rfl fun a H => d_take 5 H rfl (by kernel_rfl) (by kernel_rfl) (by kernel_rfl) (r_nilCheck H rfl) ⟨hr32, (DW.tokAt hd34 :), (DW.c7 hd34).1⟩ rfl fun a H => d_take 6 H rfl (by kernel_rfl) (by kernel_rfl) (by kernel_rfl) (r_field fld_err H rfl) ⟨hr32, (DW.tokAt hd34 :), (DW.c7 hd34).1⟩ rfl fun a H => d_take 7 H rfl (by kernel_rfl) (by kernel_rfl) (by kernel_rfl) (r_load oneErr H rfl (fun _ h => h.2.2)) ⟨hr32, (DW.tokAt hd34 :), (DW.c7 hd34).1⟩ rfl fun a H => ?_
   refine d_one 8 (by kernel_rfl) rfl rfl ?_
   refine y_storeRow (vs := [_, _, _, _, _, _]) H rfl rfl hr33 rfl (tok_size' _ _ _ _ _ _) (by simp [Value.oneCell']) fun w36 hr36 hg36 => ?_
   have hz37 := World.grownBy.size hg36
   have hr38 := RowAt.grown hr32 hg36 (by omega) (by omega)
   have hd39 := DW.grownOther hd34 hg36 (by omega) (by omega) hov12 (by omega)
   have hs40 := DStep.thenRow hs35 hg36 (by omega)
   refine wpList_nil ⟨⟨hr38, (DW.tokAt hd39 :), (DW.c7 hd39).1⟩, ?_⟩
   refine d_take 9 H rfl (by kernel_rfl) (by kernel_rfl) (by kernel_rfl) (r_assign H rfl) ⟨hr38, (DW.tokAt hd39 :), (DW.c7 hd39).1⟩ rfl fun a H => ?_
   refine d_done (by kernel_rfl) (then_normal (hK16 _ _ ?_))
   replace H := H.k4 0 1 2 3 rfl rfl rfl rfl
   refine wp_ret (?_)
   refine peek_end H rfl rfl hd39 hr38 hr36 (by omega) fun w9 hd9 hg9 => ?_
   exact ⟨{ s with peeked := true }, _, _, _, _, rfl, hd9, DStep.trans hs40 (DStep.of_grown hg9), .inl (by rw [peekT_seen hpk]; exact (congrArg (fun b => DT.mk b s.tok s.bad s.st s.k) hpk.symm))⟩
 ·replace hpk : s.peeked = false := by simpa using hpk
  refine y_reg ?_
  refine y_load onePtr H rfl (hr9 0 _ rfl).1 rfl fun a H => y_nilCheck H rfl rfl fun a H => y_field fld_call H rfl rfl fun a H => y_load oneCall H rfl (DW.c0f hd10 hpk) rfl fun a H => y_eql (b := true) H rfl rfl (by decide) rfl fun a H => wpList_nil (then_normal (hK15 _ _ ?_))
  replace H := H.k5 0 1 2 3 9 rfl rfl rfl rfl rfl
  refine y_ift H rfl ?_
  refine d_begin (fun w' => RowAt w' q2 [.pointer (some ⟨p, 0, none⟩)]) 13 mixedP rfl ?_
  have hbd41 : Below w7.heap.size w7 w7.drew := (Below.refl _ _).drew
  generalize w7.drew = wd41 at hbd41 ⊢
  have hz42 := Below.size hbd41
  have hr43 := RowAt.below hr9 (by omega) hbd41
  have hr44 := RowAt.below hr7 (by omega) hbd41
  have hd45 := DW.below hd10 hbd41
  have hs46 := DStep.trans hs11 (DStep.of_below hbd41)
  refine d_take 0 H rfl (by kernel_rfl) (by kernel_rfl) (by kernel_rfl) (r_load onePtr H rfl (fun _ h => (h 0 _ rfl).1)) hr43 rfl fun a H => d_take 1 H rfl (by kernel_rfl) (by kernel_rfl) (by kernel_rfl) (r_load onePtr H rfl (fun _ h => (h 0 _ rfl).1)) hr43 rfl fun a H => d_take 2 H rfl (by kernel_rfl) (by kernel_rfl) (by kernel_rfl) (r_load onePtr H rfl (fun _ h => (h 0 _ rfl).1)) hr43 rfl fun a H => ?_
  refine d_one 3 (by kernel_rfl) rfl rfl ?_
  have HP := read_any hd45 hm hok
  have Hs48 := H
  rcases hS : readT bs s with _ | s1
  ·have H := Hs48
   rw [hS] at HP
   refine y_call pf_read H rfl rfl (Calls.mono HP ?_)
   rintro e w47 ⟨⟨te, xe, v, rfl, hv, _⟩, vr47, ve47, vst47, vi47, s1, hd47, hp47, hds47⟩
   have Hs49 := H
   obtain rfl := hv hpk
   have H := Hs49
   have hvt47 : View w47 g (.slice none 0 0) TT.zero.raw := View.nilOf
   refine ⟨_, rfl, fun a H => ?_⟩
   have hz50 := DStep.size hds47
   have hr51 := RowAt.kept hr43 (DStep.block hds47 _ (by omega) (by omega) hov6)
   have hr53 := RowAt.kept hr44 (DStep.block hds47 _ (by omega) (by omega) hov12)
   have hov54 := DStep.notOpen hds47 hov12 (by omega)
   have hs55 := DStep.trans hs46 hds47
   refine wpList_nil ⟨hr51, ?_⟩
   refine d_take 4 H rfl (by kernel_rfl) (by kernel_rfl) (by kernel_rfl) (r_move H rfl) hr51 rfl fun a H => d_take 5 H rfl (by kernel_rfl) (by kernel_rfl) (by kernel_rfl) (r_extract H rfl rfl) hr51 rfl fun a H => d_take 6 H rfl (by kernel_rfl) (by kernel_rfl) (by kernel_rfl) (r_extract H rfl rfl) hr51 rfl fun a H => d_take 7 H rfl (by kernel_rfl) (by kernel_rfl) (by kernel_rfl) (r_nilCheck H rfl) hr51 rfl fun a H => d_take 8 H rfl (by kernel_rfl) (by kernel_rfl) (by kernel_rfl) (r_field fld_tok H rfl) hr51 rfl fun a H => ?_
   refine d_one 9 (by kernel_rfl) rfl rfl ?_
   refine y_storeTok (t := TT.zero) H rfl rfl hd47 hvt47 fun w56 hd56 hg56 => ?_
   have hz57 := World.grownBy.size hg56
   have hr59 := RowAt.grown hr51 hg56 (by omega) (by omega)
   have hr60 := RowAt.grown hr53 hg56 (by omega) (by omega)
   have hs61 := DStep.trans hs55 (DStep.of_grown hg56)
   refine wpList_nil ⟨hr59, ?_⟩
   refine d_take 10 H rfl (by kernel_rfl) (by kernel_rfl) (by kernel_rfl) (r_nilCheck H rfl) hr59 rfl fun a H => d_take 11 H rfl (by kernel_rfl) (by kernel_rfl) (by kernel_rfl) (r_field fld_err H rfl) hr59 rfl fun a H => ?_
   refine d_one 12 (by kernel_rfl) rfl rfl ?_
   refine y_storeErr (b := true) H rfl rfl hd56 ⟨_, _, rfl⟩ fun w62 hd62 hg62 => ?_
   have hz63 := World.grownBy.size hg62
   have hr65 := RowAt.grown hr59 hg62 (by omega) (by omega)
   have hr66 := RowAt.grown hr60 hg62 (by omega) (by omega)
   have hs67 := DStep.trans hs61 (DStep.of_grown hg62)
   refine wpList_nil ⟨hr65, ?_⟩
   refine d_done (by kernel_rfl) (then_normal (hK14 _ _ ?_))
   replace H := H.k4 0 1 2 3 rfl rfl rfl rfl
   refine y_seq fun K68 hK68 => ?_
   refine d_begin (fun w' => RowAt w' q2 [.pointer (some ⟨p, 0, none⟩)] ∧ w'.rangeAt p 1 (tokCells6 (.slice none 0 0) TT.zero) ∧ w'.cell? ⟨p, 7, none⟩ = some (.iface te xe)) 10 mixedP rfl ?_
   have hbd69 : Below w62.heap.size w62 w62.drew := (Below.refl _ _).drew
   generalize w62.drew = wd69 at hbd69 ⊢
   have hz70 := Below.size hbd69
   have hr72 := RowAt.below hr65 (by omega) hbd69
   have hr73 := RowAt.below hr66 (by omega) hbd69
   have hd74 := DW.below hd62 hbd69
   have hs75 := DStep.trans hs67 (DStep.of_below hbd69)
   refine d_take 0 H rfl (by kernel_rfl) (by kernel_rfl) (by kernel_rfl) (r_load onePtr H rfl (fun _ h => (h.1 0 _ rfl).1)) ⟨hr72, (DW.tokAt hd74 :), (DW.c7 hd74).1⟩ rfl fun a H => d_take 1 H rfl (by kernel_rfl) (by kernel_rfl) (by kernel_rfl) (r_nilCheck H rfl) ⟨hr72, (DW.tokAt hd74 :), (DW.c7 hd74).1⟩ rfl fun a H => d_take 2 H rfl (by kernel_rfl) (by kernel_rfl) (by kernel_rfl) (r_field fld_tok H rfl) ⟨hr72, (DW.tokAt hd74 :), (DW.c7 hd74).1⟩ rfl fun a H => d_take 3 H rfl (by kernel_rfl) (by kernel_rfl) (by kernel_rfl) (r_loadFrom Tryz.underlying50 rfl (tok_size _ rfl) H rfl (fun _ h => h.2.1)) ⟨hr72, (DW.tokAt hd74 :), (DW.c7 hd74).1⟩ rfl fun a H => d_take 4 H rfl (by kernel_rfl) (by kernel_rfl) (by kernel_rfl) (r_load onePtr H rfl (fun _ h => (h.1 0 _ rfl).1)) ⟨hr72, (DW.tokAt hd74 :), (DW.c7 hd74).1⟩ rfl fun a H => d_take 5 H rfl (by kernel_rfl) (by kernel_rfl) (by kernel_rfl) (r_nilCheck H rfl) ⟨hr72, (DW.tokAt hd74 :), (DW.c7 hd74).1⟩ rfl fun a H => d_take 6 H rfl (by kernel_rfl) (by kernel_rfl) (by kernel_rfl) (r_field fld_err H rfl) ⟨hr72, (DW.tokAt hd74 :), (DW.c7 hd74).1⟩ rfl fun a H => d_take 7 H rfl (by kernel_rfl) (by kernel_rfl) (by kernel_rfl) (r_load oneErr H rfl (fun _ h => h.2.2)) ⟨hr72, (DW.tokAt hd74 :), (DW.c7 hd74).1⟩ rfl fun a H => ?_
   refine d_one 8 (by kernel_rfl) rfl rfl ?_
   refine y_storeRow (vs := [_, _, _, _, _, _]) H rfl rfl hr73 rfl (tok_size' _ _ _ _ _ _) (by simp [Value.oneCell']) fun w76 hr76 hg76 => ?_
   have hz77 := World.grownBy.size hg76
   have hr79 := RowAt.grown hr72 hg76 (by omega) (by omega)
   have hd80 := DW.grownOther hd74 hg76 (by omega) (by omega) hov54 (by omega)
   have hs81 := DStep.thenRow hs75 hg76 (by omega)
   refine wpList_nil ⟨⟨hr79, (DW.tokAt hd80 :), (DW.c7 hd80).1⟩, ?_⟩
   refine d_take 9 H rfl (by kernel_rfl) (by kernel_rfl) (by kernel_rfl) (r_assign H rfl) ⟨hr79, (DW.tokAt hd80 :), (DW.c7 hd80).1⟩ rfl fun a H => ?_
   refine d_done (by kernel_rfl) (then_normal (hK68 _ _ ?_))
   replace H := H.k4 0 1 2 3 rfl rfl rfl rfl
   refine wp_ret (?_)
   refine peek_end H rfl rfl hd80 hr79 hr76 (by omega) fun w9 hd9 hg9 => ?_
   exact ⟨{ s1 with peeked := true, bad := true, tok := TT.zero }, _, _, _, _, rfl, hd9, DStep.trans hs81 (DStep.of_grown hg9), .inr (by rw [peekT_none hpk hS]; exact ⟨rfl, rfl, rfl, rfl⟩)⟩
  ·have H := Hs48
   rw [hS] at HP
   refine y_call pf_read H rfl rfl (Calls.mono HP ?_)
   rintro e w47 ⟨vt47, ve47, vst47, vi47, rfl, hd47, hds47⟩
   have hvt47 := DW.raw hd47
   have Hs82 := H
   obtain ⟨ao47, n47, c47, rfl⟩ := View.slice3 hvt47
   have H := Hs82
   refine ⟨_, rfl, fun a H => ?_⟩
   have hz83 := DStep.size hds47
   have hr84 := RowAt.kept hr43 (DStep.block hds47 _ (by omega) (by omega) hov6)
   have hr86 := RowAt.kept hr44 (DStep.block hds47 _ (by omega) (by omega) hov12)
   have hov87 := DStep.notOpen hds47 hov12 (by omega)
   have hs88 := DStep.trans hs46 hds47
   refine wpList_nil ⟨hr84, ?_⟩
   refine d_take 4 H rfl (by kernel_rfl) (by kernel_rfl) (by kernel_rfl) (r_move H rfl) hr84 rfl fun a H => d_take 5 H rfl (by kernel_rfl) (by kernel_rfl) (by kernel_rfl) (r_extract H rfl rfl) hr84 rfl fun a H => d_take 6 H rfl (by kernel_rfl) (by kernel_rfl) (by kernel_rfl) (r_extract H rfl rfl) hr84 rfl fun a H => d_take 7 H rfl (by kernel_rfl) (by kernel_rfl) (by kernel_rfl) (r_nilCheck H rfl) hr84 rfl fun a H => d_take 8 H rfl (by kernel_rfl) (by kernel_rfl) (by kernel_rfl) (r_field fld_tok H rfl) hr84 rfl fun a H => ?_
   refine d_one 9 (by kernel_rfl) rfl rfl ?_
   refine y_storeTok (t := s1.tok) H rfl rfl hd47 hvt47 fun w89 hd89 hg89 => ?_
   have hz90 := World.grownBy.size hg89
   have hr92 := RowAt.grown hr84 hg89 (by omega) (by omega)
   have hr93 := RowAt.grown hr86 hg89 (by omega) (by omega)
   have hs94 := DStep.trans hs88 (DStep.of_grown hg89)
   refine wpList_nil ⟨hr92, ?_⟩
   refine d_take 10 H rfl (by kernel_rfl) (by kernel_rfl) (by kernel_rfl) (r_nilCheck H rfl) hr92 rfl fun a H => d_take 11 H rfl (by kernel_rfl) (by kernel_rfl) (by kernel_rfl) (r_field fld_err H rfl) hr92 rfl fun a H => ?_
   refine d_one 12 (by kernel_rfl) rfl rfl ?_
   refine y_storeErr (b := false) H rfl rfl hd89 rfl fun w95 hd95 hg95 => ?_
   have hz96 := World.grownBy.size hg95
   have hr98 := RowAt.grown hr92 hg95 (by omega) (by omega)
   have hr99 := RowAt.grown hr93 hg95 (by omega) (by omega)
   have hs100 := DStep.trans hs94 (DStep.of_grown hg95)
   refine wpList_nil ⟨hr98, ?_⟩
   refine d_done (by kernel_rfl) (then_normal (hK14 _ _ ?_))
   replace H := H.k4 0 1 2 3 rfl rfl rfl rfl
   refine y_seq fun K101 hK101 => ?_
   refine d_begin (fun w' => RowAt w' q2 [.pointer (some ⟨p, 0, none⟩)] ∧ w'.rangeAt p 1 (tokCells6 (.slice ao47 n47 c47) s1.tok) ∧ w'.cell? ⟨p, 7, none⟩ = some .nilIface) 10 mixedP rfl ?_
   have hbd102 : Below w95.heap.size w95 w95.drew := (Below.refl _ _).drew
   generalize w95.drew = wd102 at hbd102 ⊢
   have hz103 := Below.size hbd102
   have hr105 := RowAt.below hr98 (by omega) hbd102
   have hr106 := RowAt.below hr99 (by omega) hbd102
   have hd107 := DW.below hd95 hbd102
   have hs108 := DStep.trans hs100 (DStep.of_below hbd102)
   refine d_take 0 H rfl (by kernel_rfl) (by kernel_rfl) (by kernel_rfl) (r_load onePtr H rfl (fun _ h => (h.1 0 _ rfl).1)) ⟨hr105, (DW.tokAt hd107 :), (DW.c7 hd107).1⟩ rfl fun a H => d_take 1 H rfl (by kernel_rfl) (by kernel_rfl) (by kernel_rfl) (r_nilCheck H rfl) ⟨hr105, (DW.tokAt hd107 :), (DW.c7 hd107).1⟩ rfl fun a H => d_take 2 H rfl (by kernel_rfl) (by kernel_rfl) (by kernel_rfl) (r_field fld_tok H rfl) ⟨hr105, (DW.tokAt hd107 :), (DW.c7 hd107).1⟩ rfl fun a H => d_take 3 H rfl (by kernel_rfl) (by kernel_rfl) (by kernel_rfl) (r_loadFrom Tryz.underlying50 rfl (tok_size _ rfl) H rfl (fun _ h => h.2.1)) ⟨hr105, (DW.tokAt hd107 :), (DW.c7 hd107).1⟩ rfl fun a H => d_take 4 H rfl (by kernel_rfl) (by kernel_rfl) (by kernel_rfl) (r_load onePtr H rfl (fun _ h => (h.1 0 _ rfl).1)) ⟨hr105, (DW.tokAt hd107 :), (DW.c7 hd107).1⟩ rfl fun a H => d_take 5 H rfl (by kernel_rfl) (by kernel_rfl) (by kernel_rfl) (r_nilCheck H rfl) ⟨hr105, (DW.tokAt hd107 :), (DW.c7 hd107).1⟩ rfl fun a H => d_take 6 H rfl (by kernel_rfl) (by kernel_rfl) (by kernel_rfl) (r_field fld_err H rfl) ⟨hr105, (DW.tokAt hd107 :), (DW.c7 hd107).1⟩ rfl fun a H => d_take 7 H rfl (by kernel_rfl) (by kernel_rfl) (by kernel_rfl) (r_load oneErr H rfl (fun _ h => h.2.2)) ⟨hr105, (DW.tokAt hd107 :), (DW.c7 hd107).1⟩ rfl fun a H => ?_
   refine d_one 8 (by kernel_rfl) rfl rfl ?_
   refine y_storeRow (vs := [_, _, _, _, _, _]) H rfl rfl hr106 rfl (tok_size' _ _ _ _ _ _) (by simp [Value.oneCell']) fun w109 hr109 hg109 => ?_
   have hz110 := World.grownBy.size hg109
   have hr112 := RowAt.grown hr105 hg109 (by omega) (by omega)
   have hd113 := DW.grownOther hd107 hg109 (by omega) (by omega) hov87 (by omega)
   have hs114 := DStep.thenRow hs108 hg109 (by omega)
   refine wpList_nil ⟨⟨hr112, (DW.tokAt hd113 :), (DW.c7 hd113).1⟩, ?_⟩
   refine d_take 9 H rfl (by kernel_rfl) (by kernel_rfl) (by kernel_rfl) (r_assign H rfl) ⟨hr112, (DW.tokAt hd113 :), (DW.c7 hd113).1⟩ rfl fun a H => ?_
   refine d_done (by kernel_rfl) (then_normal (hK101 _ _ ?_))
   replace H := H.k4 0 1 2 3 rfl rfl rfl rfl
   refine wp_ret (?_)
   refine peek_end H rfl rfl hd113 hr112 hr109 (by omega) fun w9 hd9 hg9 => ?_
   exact ⟨{ s1 with peeked := true, bad := false }, _, _, _, _, rfl, hd9, DStep.trans hs114 (DStep.of_grown hg9), .inl (by rw [peekT_some hpk hS])⟩
end Go.Proofs.YtgdnpnipahegaaaGreatDoor
