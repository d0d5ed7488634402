/-
 The package's reader of the text form, walked: strings one behind the other, as a value.
-/
import Derived.Test.YtgdnpnipahegaaaGreatDoorTJoin
import Derived.Test.YtgdnpnipahegaaaGreatDoorTRun
namespace Go.Proofs.YtgdnpnipahegaaaGreatDoor
open Go.ChangeShapes Go.WideShapes Go.ChangeAt Go.RowKit

theorem strTF_le2 (q : Nat) : ∀ (f : Nat) (l out s : List UInt8) (m : Nat), strTF q f l out = some (s, m) → m + 1 ≤ l.length ∧ s.length + 4 * m ≤ out.length + 4 * l.length
 | 0, _, _, _, _, h => by cases h
 | f + 1, l, out, s, m, h => by
  unfold strTF at h
  rcases hu : u8char l with _ | ⟨c, n⟩
  ·rw [hu] at h; cases h
  ·rw [hu] at h
   have hn := u8char_size hu
   simp only at h
   split at h
   ·cases h
   ·split at h
    ·cases h; omega
    ·split at h
     ·rcases he : escT l with _ | ⟨b, k⟩
      ·rw [he] at h; cases h
      ·rw [he] at h
       have hk := escT_size he
       have := strTF_le2 q f _ _ _ _ h
       simp only [List.length_append, List.length_drop] at this
       omega
     ·have := strTF_le2 q f _ _ _ _ h
      simp only [List.length_append, List.length_drop, List.length_take] at this
      omega
theorem strT_le2 {q : Nat} {l out s : List UInt8} {m : Nat} (h : strT q l out = some (s, m)) : m + 1 ≤ l.length ∧ s.length + 4 * m ≤ out.length + 4 * l.length := strTF_le2 q _ _ _ _ _ h
def strTk (bs : List UInt8) (k : Nat) : Option (TT × Nat) := match strsT bs (bs.length + 1) k [] with
 | none => none
 | some (s, k') => some (⟨3, 2, false, 0, k, (bs.drop k).take (k' - k), s⟩, k')
theorem strsT_nil {bs out : List UInt8} {f k : Nat} (h : bs.drop k = []) : strsT bs (f + 1) k out = some (out, k) := by unfold strsT; rw [h]
theorem strsT_stop {bs out r : List UInt8} {f k : Nat} {c : UInt8} (h : bs.drop k = c :: r) (hc : ¬ (c.toNat = 34 ∨ c.toNat = 39)) : strsT bs (f + 1) k out = some (out, k) := by unfold strsT; rw [h]; simp only; rw [if_neg hc]
theorem strsT_bad {bs out r : List UInt8} {f k : Nat} {c : UInt8} (h : bs.drop k = c :: r) (hc : c.toNat = 34 ∨ c.toNat = 39) (hs : strT c.toNat r [] = none) : strsT bs (f + 1) k out = none := by unfold strsT; rw [h]; simp only; rw [if_pos hc, hs]
theorem strsT_step {bs out r t : List UInt8} {f k m : Nat} {c : UInt8} (h : bs.drop k = c :: r) (hc : c.toNat = 34 ∨ c.toNat = 39) (hs : strT c.toNat r [] = some (t, m)) : strsT bs (f + 1) k out = strsT bs f (goT bs k (r.length + 1 - m)) (out ++ t) := by rw [strsT, h]; simp only; rw [if_pos hc, hs]
variable {B p g : Nat} {bs : List UInt8} {vr ve vst vo vi : Value} {s : DT} {w : World}
set_option maxRecDepth 100000 in
set_option maxHeartbeats 100000000 in
theorem parseStrVal_any (h : DW B p g bs vr ve vst vo vi s w) (hm : bs.length ≤ 10000000) :
  Calls Tryz.prog 57 #[.pointer (some ⟨p, 0, none⟩)] w (ScRes B p g bs vr ve vst vo s w (strTk bs s.k)) := by
 suffices key : ∀ Z, Hid (strTk bs s.k = Z) → Calls Tryz.prog 57 #[.pointer (some ⟨p, 0, none⟩)] w (ScRes B p g bs vr ve vst vo s w Z) from key _ (hid rfl)
 intro Z HZ
 have hlp := h.lt
 have hgl := h.gl
 have hgp : g ≠ p := h.gp
 have HO := hid h.ownLt
 have h9 : 9 ≤ w.heap.size := by have := h.base; have := h.b9; omega
 have hle := h.le
 have hlk : (bs.drop s.k).length = bs.length - s.k := List.length_drop
 have hg0 : w.grownBy w (some p) := grownBy_below (Below.refl _ _) _
 refine enter1 (M := 70) Tryz.func57 rfl rfl rfl fun a H => ?_
 have hi0 := h.inn
 refine y_seq fun K1 hK1 => ?_
 refine y_reg ?_
 obtain ⟨q2, hq2⟩ : ∃ q, q = w.heap.size := ⟨_, rfl⟩
 refine y_allocRow alloc_tok H rfl fun w2 hr2 hb2 hs2 a H => ?_
 rw [← hq2] at H hr2
 have hz3 := Below.size hb2
 have hd4 := DW.below h hb2
 have hg5 := grownBy_then hg0 (Below.mono hb2 (by omega))
 refine y_assign H rfl rfl fun a H => wpList_nil (then_normal (hK1 _ _ ?_))
 replace H := H.k3 0 2 3 rfl rfl rfl
 refine y_seq fun K6 hK6 => ?_
 refine y_reg ?_
 refine y_move H rfl rfl fun a H => y_nilCheck H rfl rfl fun a H => y_field fld_in H rfl rfl fun a H => ?_
 have hinK7 : View w2 g _ (bs.drop s.k) := DW.inn hd4
 refine y_load one22 H rfl (DW.c10 hd4).1 rfl fun a H => y_assign H rfl rfl fun a H => wpList_nil (then_normal (hK6 _ _ ?_))
 replace H := H.k4 0 2 3 4 rfl rfl rfl rfl
 refine y_seq fun K8 hK8 => ?_
 obtain ⟨BS, hBS⟩ : ∃ BS, BS = w2.heap.size := ⟨_, rfl⟩
 have hBS2 := hBS
 have hs0 : OwnS w2 BS (.slice none 0 0) [] := OwnS.nil _ _
 refine y_reg ?_
 refine y_assign H rfl rfl fun a H => wpList_nil (then_normal (hK8 _ _ ?_))
 replace H := H.k5 0 2 3 4 5 rfl rfl rfl rfl rfl
 refine y_seq fun K9 hK9 => ?_
 have hJ : ∀ (a : Act) (k : Nat) (vi9 vs : Value) (xs : List (List UInt8)) (wk : World), Has 70 [] a [(0, .pointer (some ⟨p, 0, none⟩)), (2, .pointer (some ⟨q2, 0, none⟩)), (3, .nilIface), (4, vi), (5, vs)] → DW B p g bs vr ve vst vo vi9 { s with k := k } wk ∧ RowAt wk q2 [.int .u8 0, .int .u8 0, .int .u8 0, .int .i64 0, .slice none 0 0, .string { data := #[] }] ∧ OwnS wk BS vs xs ∧ w.grownBy wk (some p) ∧ View wk g vi (bs.drop s.k) ∧ BS ≤ wk.heap.size → strsT bs (bs.length + 1) s.k [] = some (xs.flatten, k) → xs.length ≤ bs.length ∧ s.k ≤ k ∧ xs.flatten.length ≤ 4 * bs.length → K9 a wk := by
  intro a k vi9 vs xs wk H hfacts hres hxl
  refine hK9 _ _ ?_
  obtain ⟨hdL, hrL, hsL, hgL, hin0, hBL⟩ := hfacts
  have hlkK : (bs.drop k).length = bs.length - k := List.length_drop
  have hleK : k ≤ bs.length := hdL.le
  refine y_seq fun K10 hK10 => ?_
  refine d_begin (fun w' => w'.cell? ⟨p, 9, none⟩ = some vo ∧ w'.cell? ⟨p, 10, none⟩ = some vi9) 23 mixedP rfl ?_
  have hbd11 : Below wk.heap.size wk wk.drew := (Below.refl _ _).drew
  generalize wk.drew = wd11 at hbd11 ⊢
  have hstr12 := OwnS.below hsL hbd11
  have hz13 := Below.size hbd11
  have hv14 := View.below hin0 hbd11
  have hr15 := RowAt.below hrL (by omega) hbd11
  have hd16 := DW.below hdL hbd11
  have hg17 := grownBy_then hgL (Below.mono hbd11 (by omega))
  refine d_take 0 H rfl (by kernel_rfl) (by kernel_rfl) (by kernel_rfl) (r_move H rfl) ⟨(DW.c9 hd16).1, (DW.c10 hd16).1⟩ rfl fun a H => d_take 1 H rfl (by kernel_rfl) (by kernel_rfl) (by kernel_rfl) (r_nilCheck H rfl) ⟨(DW.c9 hd16).1, (DW.c10 hd16).1⟩ rfl fun a H => d_take 2 H rfl (by kernel_rfl) (by kernel_rfl) (by kernel_rfl) (r_field fld_orig H rfl) ⟨(DW.c9 hd16).1, (DW.c10 hd16).1⟩ rfl fun a H => d_take 3 H rfl (by kernel_rfl) (by kernel_rfl) (by kernel_rfl) (r_load one22 H rfl (fun _ h => h.1)) ⟨(DW.c9 hd16).1, (DW.c10 hd16).1⟩ rfl fun a H => d_take 4 H rfl (by kernel_rfl) (by kernel_rfl) (by kernel_rfl) (r_len Tryz.underlying22 H rfl (DW.orig hd16)) ⟨(DW.c9 hd16).1, (DW.c10 hd16).1⟩ rfl fun a H => d_take 5 H rfl (by kernel_rfl) (by kernel_rfl) (by kernel_rfl) (r_move H rfl) ⟨(DW.c9 hd16).1, (DW.c10 hd16).1⟩ rfl fun a H => d_take 6 H rfl (by kernel_rfl) (by kernel_rfl) (by kernel_rfl) (r_len Tryz.underlying22 H rfl hv14) ⟨(DW.c9 hd16).1, (DW.c10 hd16).1⟩ rfl fun a H => d_take 7 H rfl (by kernel_rfl) (by kernel_rfl) (by kernel_rfl) (r_subi (r := ((s.k : Nat) : Int)) H rfl rfl (by omega) (by omega) (by omega)) ⟨(DW.c9 hd16).1, (DW.c10 hd16).1⟩ rfl fun a H => d_take 8 H rfl (by kernel_rfl) (by kernel_rfl) (by kernel_rfl) (r_move H rfl) ⟨(DW.c9 hd16).1, (DW.c10 hd16).1⟩ rfl fun a H => d_take 9 H rfl (by kernel_rfl) (by kernel_rfl) (by kernel_rfl) (r_move H rfl) ⟨(DW.c9 hd16).1, (DW.c10 hd16).1⟩ rfl fun a H => d_take 10 H rfl (by kernel_rfl) (by kernel_rfl) (by kernel_rfl) (r_len Tryz.underlying22 H rfl hv14) ⟨(DW.c9 hd16).1, (DW.c10 hd16).1⟩ rfl fun a H => ?_
  refine d_take 11 H rfl (by kernel_rfl) (by kernel_rfl) (by kernel_rfl) (r_move H rfl) ⟨(DW.c9 hd16).1, (DW.c10 hd16).1⟩ rfl fun a H => d_take 12 H rfl (by kernel_rfl) (by kernel_rfl) (by kernel_rfl) (r_nilCheck H rfl) ⟨(DW.c9 hd16).1, (DW.c10 hd16).1⟩ rfl fun a H => d_take 13 H rfl (by kernel_rfl) (by kernel_rfl) (by kernel_rfl) (r_field fld_in H rfl) ⟨(DW.c9 hd16).1, (DW.c10 hd16).1⟩ rfl fun a H => ?_
  have hinK18 : View wd11 g _ (bs.drop k) := DW.inn hd16
  refine d_take 14 H rfl (by kernel_rfl) (by kernel_rfl) (by kernel_rfl) (r_load one22 H rfl (fun _ h => h.2)) ⟨(DW.c9 hd16).1, (DW.c10 hd16).1⟩ rfl fun a H => d_take 15 H rfl (by kernel_rfl) (by kernel_rfl) (by kernel_rfl) (r_len Tryz.underlying22 H rfl hinK18) ⟨(DW.c9 hd16).1, (DW.c10 hd16).1⟩ rfl fun a H => d_take 16 H rfl (by kernel_rfl) (by kernel_rfl) (by kernel_rfl) (r_subi (r := ((k - s.k : Nat) : Int)) H rfl rfl (by omega) (by omega) (by omega)) ⟨(DW.c9 hd16).1, (DW.c10 hd16).1⟩ rfl fun a H => ?_
  obtain ⟨aoR, cR, hrunR, hvR⟩ := View.uptoRun (P := Tryz.prog) hv14 Tryz.underlying22 info5u .i64 (k - s.k) (by rw [hlk]; omega)
  refine d_take 17 H rfl (by kernel_rfl) (by kernel_rfl) (by kernel_rfl) (r_upto H rfl rfl hrunR) ⟨(DW.c9 hd16).1, (DW.c10 hd16).1⟩ rfl fun a H => d_take 18 H rfl (by kernel_rfl) (by kernel_rfl) (by kernel_rfl) (r_move H rfl) ⟨(DW.c9 hd16).1, (DW.c10 hd16).1⟩ rfl fun a H => ?_
  refine d_one 19 (by kernel_rfl) rfl rfl ?_
  refine y_call pf_join H rfl rfl (Calls.mono (join_any wd11 BS _ xs hstr12 (by omega) (by omega)) ?_)
  rintro e w19 ⟨rfl, hb19⟩
  refine ⟨_, rfl, fun a H => ?_⟩
  have hstr20 := OwnS.below hstr12 hb19
  have hz21 := Below.size hb19
  have hv24 := View.below hvR hb19
  have hr25 := RowAt.below hr15 (by omega) hb19
  have hd26 := DW.below hd16 hb19
  have hg27 := grownBy_then hg17 (Below.mono hb19 (by omega))
  refine wpList_nil ⟨⟨(DW.c9 hd26).1, (DW.c10 hd26).1⟩, ?_⟩
  refine d_take 20 H rfl (by kernel_rfl) (by kernel_rfl) (by kernel_rfl) (r_bld (built_tok5 _ _ _ _ _ _ _) H rfl) ⟨(DW.c9 hd26).1, (DW.c10 hd26).1⟩ rfl fun a H => ?_
  refine d_one 21 (by kernel_rfl) rfl rfl ?_
  refine y_storeRow (vs := [_, _, _, _, _, _]) H rfl rfl hr25 rfl (tok_size' _ _ _ _ _ _) (by simp [Value.oneCell']) fun w28 hr28 hg28 => ?_
  have hstr29 := OwnS.grown hstr20 hg28 (by omega)
  have hz30 := World.grownBy.size hg28
  have hB30 := below_of_grown (N := w.heap.size) hg28 (by omega) (by omega)
  have hv33 := View.kept hv24 (World.grownBy.block hg28 g (by omega) (fun e => by injection e with e; omega))
  have hd34 := DW.belowAt hd26 w.heap.size hlp hgl HO.out hB30
  have hg35 := grownBy_then hg27 hB30
  refine wpList_nil ⟨⟨(DW.c9 hd34).1, (DW.c10 hd34).1⟩, ?_⟩
  refine d_take 22 H rfl (by kernel_rfl) (by kernel_rfl) (by kernel_rfl) (r_assign H rfl) ⟨(DW.c9 hd34).1, (DW.c10 hd34).1⟩ rfl fun a H => ?_
  refine d_done (by kernel_rfl) (then_normal (hK10 _ _ ?_))
  replace H := H.k3 0 2 3 rfl rfl rfl
  refine wp_ret (?_)
  refine ret2 (by rfl) H rfl rfl hr28 ?_
  rw [show Z = some (⟨3, 2, false, 0, s.k, (bs.drop s.k).take (k - s.k), xs.flatten⟩, k) from by rw [← HZ.out]; unfold strTk; rw [hres]]
  exact ⟨_, _, rfl, hv33, hd34, hg35⟩
 refine wp_block ?_
 refine wp_loop (fun a wx => ∃ (f k : Nat) (vi9 vs : Value) (xs : List (List UInt8)), Has 70 [] a [(0, .pointer (some ⟨p, 0, none⟩)), (2, .pointer (some ⟨q2, 0, none⟩)), (3, .nilIface), (4, vi), (5, vs)] ∧ (DW B p g bs vr ve vst vo vi9 { s with k := k } wx ∧ RowAt wx q2 [.int .u8 0, .int .u8 0, .int .u8 0, .int .i64 0, .slice none 0 0, .string { data := #[] }] ∧ OwnS wx BS vs xs ∧ w.grownBy wx (some p) ∧ View wx g vi (bs.drop s.k) ∧ BS ≤ wx.heap.size) ∧ strsT bs f k xs.flatten = strsT bs (bs.length + 1) s.k [] ∧ bs.length - k < f ∧ xs.length + s.k ≤ k ∧ xs.flatten.length + 4 * s.k ≤ 4 * k) (fun _ wx => match wx.cell? ⟨p, 10, none⟩ with | some v => slenT v | none => 0) ?_ ?_
 ·exact ⟨bs.length + 1, s.k, _, _, [], H.sub _ (sub_cons rfl (sub_cons rfl (sub_cons rfl (sub_cons rfl (sub_cons rfl (sub_nil)))))), ⟨hd4, hr2, hs0, hg5, hinK7, by omega⟩, rfl, by omega, by simp, by simp⟩
 ·rintro a wk ⟨f, k, vi9, vs, xs, H, ⟨hdL, hrL, hsL, hgL, hin0, hBL⟩, hT, hf, hxk, hfl⟩
  have Hs36 := H
  obtain ⟨f, rfl⟩ : ∃ f1, f = f1 + 1 := ⟨f - 1, by omega⟩
  have H := Hs36
  have hmu := hid (slenT_view hdL.inn)
  have hmc := hid hdL.c10.1
  have hleK : k ≤ bs.length := hdL.le
  have Hs37 := H
  rcases hbk : bs.drop k with _ | ⟨c, r⟩
  ·have H := Hs37
   have hlI : (([] : List UInt8)).length = 0 := rfl
   have hvI : View wk g vi9 (([] : List UInt8)) := hdL.inn.eq hbk
   refine y_seq fun K38 hK38 => ?_
   refine y_seq fun K39 hK39 => ?_
   refine y_reg ?_
   refine y_move H rfl rfl fun a H => y_nilCheck H rfl rfl fun a H => y_field fld_in H rfl rfl fun a H => y_load one22 H rfl (DW.c10 hdL).1 rfl fun a H => y_len Tryz.underlying22 H rfl hvI rfl fun a H => y_gtr (b := false) H rfl rfl (decide_eq_false (by omega)) rfl fun a H => y_move H rfl rfl fun a H => y_off H rfl rfl rfl fun a H => y_off H rfl rfl rfl fun a H => y_off H rfl rfl rfl fun a H => y_off H rfl rfl rfl fun a H => ?_
   refine y_off H rfl rfl rfl fun a H => y_off H rfl rfl rfl fun a H => y_off H rfl rfl rfl fun a H => y_off H rfl rfl rfl fun a H => y_offu H rfl rfl rfl fun a H => y_offu H rfl rfl rfl fun a H => y_offu H rfl rfl rfl fun a H => y_offu H rfl rfl rfl fun a H => y_offu H rfl rfl rfl fun a H => y_offu H rfl rfl rfl fun a H => y_offu H rfl rfl rfl fun a H => ?_
   refine y_off H rfl rfl rfl fun a H => y_pick H rfl rfl rfl fun a H => wpList_nil (then_normal (hK39 _ _ ?_))
   replace H := H.k6 0 2 3 4 5 35 rfl rfl rfl rfl rfl rfl
   refine y_iff H rfl ?_
   exact wp_exit (then_exit (then_exit (in_exit (then_normal (hJ _ _ _ _ _ _ (H.sub _ (sub_cons rfl (sub_cons rfl (sub_cons rfl (sub_cons rfl (sub_cons rfl (sub_nil))))))) ⟨hdL, hrL, hsL, hgL, hin0, hBL⟩ (by rw [← hT]; exact strsT_nil hbk) ⟨by omega, by omega, by omega⟩)))))
  ·have H := Hs37
   have hlI : (c :: r).length = r.length + 1 := rfl
   have bc := byte_bd c
   have hkr : k + (r.length + 1) = bs.length := by have := congrArg List.length hbk; simp at this; omega
   have hvI : View wk g vi9 (c :: r) := hdL.inn.eq hbk
   refine y_seq fun K40 hK40 => ?_
   refine y_seq fun K41 hK41 => ?_
   refine y_reg ?_
   refine y_move H rfl rfl fun a H => y_nilCheck H rfl rfl fun a H => y_field fld_in H rfl rfl fun a H => y_load one22 H rfl (DW.c10 hdL).1 rfl fun a H => y_len Tryz.underlying22 H rfl hvI rfl fun a H => y_gtr (b := true) H rfl rfl (decide_eq_true (by omega)) rfl fun a H => y_move H rfl rfl fun a H => y_on H rfl rfl ?_
   refine y_move H rfl rfl fun a H => y_on H rfl rfl ?_
   refine y_nilCheck H rfl rfl fun a H => y_on H rfl rfl ?_
   refine y_field fld_in H rfl rfl fun a H => y_on H rfl rfl ?_
   refine y_load one22 H rfl (DW.c10 hdL).1 rfl fun a H => y_on H rfl rfl ?_
   refine y_idx Tryz.underlying22 info5u H rfl rfl hvI (by decide) rfl rfl fun a ad H hc42 => ?_
   refine y_on H rfl rfl ?_
   refine y_load one5 H rfl hc42 rfl fun a H => y_on H rfl rfl ?_
   by_cases q43 : ((c.toNat : Int)) = ((34 : Int))
   ·refine y_eql (b := true) H rfl rfl (ieq_t (by omega)) rfl fun a H => y_on H rfl rfl ?_
    refine y_move H rfl rfl fun a H => y_off H rfl rfl rfl fun a H => y_off H rfl rfl rfl fun a H => y_off H rfl rfl rfl fun a H => y_off H rfl rfl rfl fun a H => y_off H rfl rfl rfl fun a H => y_off H rfl rfl rfl fun a H => y_off H rfl rfl rfl fun a H => y_on H rfl rfl ?_
    refine y_pick H rfl rfl rfl fun a H => y_pick H rfl rfl rfl fun a H => wpList_nil (then_normal (hK41 _ _ ?_))
    replace H := H.k6 0 2 3 4 5 35 rfl rfl rfl rfl rfl rfl
    refine y_ift H rfl ?_
    refine wp_skip (then_normal (hK40 _ _ ?_))
    replace H := H.k5 0 2 3 4 5 rfl rfl rfl rfl rfl
    refine wp_block ?_
    refine y_seq fun K44 hK44 => ?_
    have hqt : c.toNat = 34 ∨ c.toNat = 39 := by omega
    have Hs45 := H
    rcases hs0t : strT c.toNat r [] with _ | ⟨t, m⟩
    ·have H := Hs45
     refine y_reg ?_
     refine y_move H rfl rfl fun a H => ?_
     have hpk : p < wk.heap.size := hdL.lt
     have HP := parseString_any { s with k := k } wk hdL hpk c r hbk hqt hm
     rw [hs0t] at HP
     refine y_call pf_pstr H rfl rfl (Calls.mono HP ?_)
     rintro e w46 ⟨⟨te, xe, rfl⟩, hb46⟩
     refine ⟨_, rfl, fun a H => ?_⟩
     have hstr47 := OwnS.below hsL hb46
     have hz48 := Below.size hb46
     have hr50 := RowAt.below hrL (by omega) hb46
     have hd51 := DW.below hdL hb46
     have hg52 := grownBy_then hgL (Below.mono hb46 (by omega))
     refine y_move H rfl rfl fun a H => y_extract H rfl rfl rfl fun a H => y_extract H rfl rfl rfl fun a H => y_assign H rfl rfl fun a H => y_assign H rfl rfl fun a H => wpList_nil (then_normal (hK44 _ _ ?_))
     replace H := H.k7 0 2 3 4 5 6 7 rfl rfl rfl rfl rfl rfl rfl
     refine y_seq fun K53 hK53 => ?_
     refine y_seq fun K54 hK54 => ?_
     refine y_reg ?_
     refine y_move H rfl rfl fun a H => y_neNil (b := true) H rfl (.inr ⟨_, _, rfl, rfl⟩) rfl fun a H => wpList_nil (then_normal (hK54 _ _ ?_))
     replace H := H.k8 0 2 3 4 5 6 7 42 rfl rfl rfl rfl rfl rfl rfl rfl
     refine y_ift H rfl ?_
     refine y_seq fun K55 hK55 => ?_
     refine y_reg ?_
     refine y_bld built_tok0 H rfl rfl fun a H => y_move H rfl rfl fun a H => y_storeRow (vs := [_, _, _, _, _, _]) H rfl rfl hr50 rfl (tok_size' _ _ _ _ _ _) (by simp [Value.oneCell']) fun w56 hr56 hg56 => ?_
     have hstr57 := OwnS.grown hstr47 hg56 (by omega)
     have hz58 := World.grownBy.size hg56
     have hB58 := below_of_grown (N := w.heap.size) hg56 (by omega) (by omega)
     have hd60 := DW.belowAt hd51 w.heap.size hlp hgl HO.out hB58
     have hg61 := grownBy_then hg52 hB58
     refine y_assign H rfl rfl fun a H => wpList_nil (then_normal (hK55 _ _ ?_))
     replace H := H.k6 0 2 3 4 5 6 rfl rfl rfl rfl rfl rfl
     refine wp_ret (then_ret (in_ret (then_ret (in_ret (then_ret (?_))))))
     refine ret2 (by rfl) H rfl rfl hr56 ?_
     rw [show Z = none from by rw [← HZ.out]; unfold strTk; rw [← hT]; simp only [strsT_bad hbk hqt hs0t]]
     exact ⟨⟨_, _, rfl⟩, ⟨_, _, hd60⟩, hg61⟩
    ·have H := Hs45
     have hml := strT_le2 hs0t
     simp only [List.length_nil] at hml
     have hgo := goT_le (bs := bs) (k := k) (n := r.length + 1 - m) (by omega)
     refine y_reg ?_
     refine y_move H rfl rfl fun a H => ?_
     have hpk : p < wk.heap.size := hdL.lt
     have HP := parseString_any { s with k := k } wk hdL hpk c r hbk hqt hm
     rw [hs0t] at HP
     refine y_call pf_pstr H rfl rfl (Calls.mono HP ?_)
     rintro e w62 ⟨rfl, vi62, hd62, hgc62⟩
     refine ⟨_, rfl, fun a H => ?_⟩
     have hstr63 := OwnS.grown hsL hgc62 (by omega)
     have hz64 := World.grownBy.size hgc62
     have hv65 := View.kept hin0 (World.grownBy.block hgc62 g (by omega) (fun e => by injection e with e; exact hgp e))
     have hr66 := RowAt.grown hrL hgc62 (by omega) (by omega)
     have hg67 := grown_trans hgL hgc62
     refine y_move H rfl rfl fun a H => y_extract H rfl rfl rfl fun a H => y_extract H rfl rfl rfl fun a H => y_assign H rfl rfl fun a H => y_assign H rfl rfl fun a H => wpList_nil (then_normal (hK44 _ _ ?_))
     replace H := H.k7 0 2 3 4 5 6 7 rfl rfl rfl rfl rfl rfl rfl
     refine y_seq fun K68 hK68 => ?_
     refine y_seq fun K69 hK69 => ?_
     refine y_reg ?_
     refine y_move H rfl rfl fun a H => y_neNil (b := false) H rfl (.inl ⟨rfl, rfl⟩) rfl fun a H => wpList_nil (then_normal (hK69 _ _ ?_))
     replace H := H.k8 0 2 3 4 5 6 7 42 rfl rfl rfl rfl rfl rfl rfl rfl
     refine y_iff H rfl ?_
     refine wp_skip (then_normal (hK68 _ _ ?_))
     replace H := H.k6 0 2 3 4 5 6 rfl rfl rfl rfl rfl rfl
     refine y_reg ?_
     refine y_move H rfl rfl fun a H => y_move H rfl rfl fun a H => y_strs1 H rfl rfl fun w70 q70 hc70 hb70 a H => ?_
     have hstr71 := OwnS.below hstr63 hb70
     have hz72 := Below.size hb70
     have hv73 := View.below hv65 hb70
     have hr74 := RowAt.below hr66 (by omega) hb70
     have hd75 := DW.below hd62 hb70
     have hg76 := grownBy_then hg67 (Below.mono hb70 (by omega))
     refine y_appStr H rfl hstr71 rfl hc70 (by omega) (by omega) rfl fun vs77 w77 hstr77 hb77 a H => ?_
     have hz77 := hb77.size
     have hv78 := View.kept hv73 (hb77.block g (by omega))
     have hr79 := RowAt.belowN hr74 hb77 (by omega)
     have hd80 := DW.belowN hd75 hlp hgl HO.out (N := BS) (by omega) hb77
     have hg81 := grownBy_then hg76 (hb77.mono (by omega))
     refine y_assign H rfl rfl fun a H => ?_
     have hm9 : (slenT _) = _ := slenT_view (DW.inn hd80)
     refine wpList_nil (in_normal (then_normal (⟨⟨f, goT bs k (r.length + 1 - m), _, _, xs ++ [t], H.sub _ (sub_cons rfl (sub_cons rfl (sub_cons rfl (sub_cons rfl (sub_cons rfl (sub_nil)))))), ⟨hd80, hr79, hstr77, hg81, hv78, by omega⟩, ?_, by omega, by simp only [List.length_append, List.length_cons, List.length_nil]; omega, ?_⟩, ?_⟩)))
     ·rw [← hT, strsT_step hbk hqt hs0t]; simp
     ·simp only [List.flatten_append, List.length_append, List.flatten_cons, List.flatten_nil, List.length_nil]; omega
     ·have hc9 := (DW.c10 hd80).1
      have h2 := hmu.out
      rw [hmc.out, hc9]
      show slenT _ < slenT _
      rw [h2, hm9]
      simp only [List.length_drop]
      omega
   ·refine y_eql (b := false) H rfl rfl (ieq_f (by omega)) rfl fun a H => y_on H rfl rfl ?_
    refine y_move H rfl rfl fun a H => y_on H rfl rfl ?_
    refine y_move H rfl rfl fun a H => y_on H rfl rfl ?_
    refine y_nilCheck H rfl rfl fun a H => y_on H rfl rfl ?_
    refine y_field fld_in H rfl rfl fun a H => y_on H rfl rfl ?_
    refine y_load one22 H rfl (DW.c10 hdL).1 rfl fun a H => y_on H rfl rfl ?_
    refine y_idx Tryz.underlying22 info5u H rfl rfl hvI (by decide) rfl rfl fun a ad H hc82 => ?_
    refine y_on H rfl rfl ?_
    refine y_load one5 H rfl hc82 rfl fun a H => y_on H rfl rfl ?_
    by_cases q83 : ((c.toNat : Int)) = ((39 : Int))
    ·refine y_eql (b := true) H rfl rfl (ieq_t (by omega)) rfl fun a H => y_on H rfl rfl ?_
     refine y_pick H rfl rfl rfl fun a H => y_pick H rfl rfl rfl fun a H => wpList_nil (then_normal (hK41 _ _ ?_))
     replace H := H.k6 0 2 3 4 5 35 rfl rfl rfl rfl rfl rfl
     refine y_ift H rfl ?_
     refine wp_skip (then_normal (hK40 _ _ ?_))
     replace H := H.k5 0 2 3 4 5 rfl rfl rfl rfl rfl
     refine wp_block ?_
     refine y_seq fun K84 hK84 => ?_
     have hqt : c.toNat = 34 ∨ c.toNat = 39 := by omega
     have Hs85 := H
     rcases hs0t : strT c.toNat r [] with _ | ⟨t, m⟩
     ·have H := Hs85
      refine y_reg ?_
      refine y_move H rfl rfl fun a H => ?_
      have hpk : p < wk.heap.size := hdL.lt
      have HP := parseString_any { s with k := k } wk hdL hpk c r hbk hqt hm
      rw [hs0t] at HP
      refine y_call pf_pstr H rfl rfl (Calls.mono HP ?_)
      rintro e w86 ⟨⟨te, xe, rfl⟩, hb86⟩
      refine ⟨_, rfl, fun a H => ?_⟩
      have hstr87 := OwnS.below hsL hb86
      have hz88 := Below.size hb86
      have hr90 := RowAt.below hrL (by omega) hb86
      have hd91 := DW.below hdL hb86
      have hg92 := grownBy_then hgL (Below.mono hb86 (by omega))
      refine y_move H rfl rfl fun a H => y_extract H rfl rfl rfl fun a H => y_extract H rfl rfl rfl fun a H => y_assign H rfl rfl fun a H => y_assign H rfl rfl fun a H => wpList_nil (then_normal (hK84 _ _ ?_))
      replace H := H.k7 0 2 3 4 5 6 7 rfl rfl rfl rfl rfl rfl rfl
      refine y_seq fun K93 hK93 => ?_
      refine y_seq fun K94 hK94 => ?_
      refine y_reg ?_
      refine y_move H rfl rfl fun a H => y_neNil (b := true) H rfl (.inr ⟨_, _, rfl, rfl⟩) rfl fun a H => wpList_nil (then_normal (hK94 _ _ ?_))
      replace H := H.k8 0 2 3 4 5 6 7 42 rfl rfl rfl rfl rfl rfl rfl rfl
      refine y_ift H rfl ?_
      refine y_seq fun K95 hK95 => ?_
      refine y_reg ?_
      refine y_bld built_tok0 H rfl rfl fun a H => y_move H rfl rfl fun a H => y_storeRow (vs := [_, _, _, _, _, _]) H rfl rfl hr90 rfl (tok_size' _ _ _ _ _ _) (by simp [Value.oneCell']) fun w96 hr96 hg96 => ?_
      have hstr97 := OwnS.grown hstr87 hg96 (by omega)
      have hz98 := World.grownBy.size hg96
      have hB98 := below_of_grown (N := w.heap.size) hg96 (by omega) (by omega)
      have hd100 := DW.belowAt hd91 w.heap.size hlp hgl HO.out hB98
      have hg101 := grownBy_then hg92 hB98
      refine y_assign H rfl rfl fun a H => wpList_nil (then_normal (hK95 _ _ ?_))
      replace H := H.k6 0 2 3 4 5 6 rfl rfl rfl rfl rfl rfl
      refine wp_ret (then_ret (in_ret (then_ret (in_ret (then_ret (?_))))))
      refine ret2 (by rfl) H rfl rfl hr96 ?_
      rw [show Z = none from by rw [← HZ.out]; unfold strTk; rw [← hT]; simp only [strsT_bad hbk hqt hs0t]]
      exact ⟨⟨_, _, rfl⟩, ⟨_, _, hd100⟩, hg101⟩
     ·have H := Hs85
      have hml := strT_le2 hs0t
      simp only [List.length_nil] at hml
      have hgo := goT_le (bs := bs) (k := k) (n := r.length + 1 - m) (by omega)
      refine y_reg ?_
      refine y_move H rfl rfl fun a H => ?_
      have hpk : p < wk.heap.size := hdL.lt
      have HP := parseString_any { s with k := k } wk hdL hpk c r hbk hqt hm
      rw [hs0t] at HP
      refine y_call pf_pstr H rfl rfl (Calls.mono HP ?_)
      rintro e w102 ⟨rfl, vi102, hd102, hgc102⟩
      refine ⟨_, rfl, fun a H => ?_⟩
      have hstr103 := OwnS.grown hsL hgc102 (by omega)
      have hz104 := World.grownBy.size hgc102
      have hv105 := View.kept hin0 (World.grownBy.block hgc102 g (by omega) (fun e => by injection e with e; exact hgp e))
      have hr106 := RowAt.grown hrL hgc102 (by omega) (by omega)
      have hg107 := grown_trans hgL hgc102
      refine y_move H rfl rfl fun a H => y_extract H rfl rfl rfl fun a H => y_extract H rfl rfl rfl fun a H => y_assign H rfl rfl fun a H => y_assign H rfl rfl fun a H => wpList_nil (then_normal (hK84 _ _ ?_))
      replace H := H.k7 0 2 3 4 5 6 7 rfl rfl rfl rfl rfl rfl rfl
      refine y_seq fun K108 hK108 => ?_
      refine y_seq fun K109 hK109 => ?_
      refine y_reg ?_
      refine y_move H rfl rfl fun a H => y_neNil (b := false) H rfl (.inl ⟨rfl, rfl⟩) rfl fun a H => wpList_nil (then_normal (hK109 _ _ ?_))
      replace H := H.k8 0 2 3 4 5 6 7 42 rfl rfl rfl rfl rfl rfl rfl rfl
      refine y_iff H rfl ?_
      refine wp_skip (then_normal (hK108 _ _ ?_))
      replace H := H.k6 0 2 3 4 5 6 rfl rfl rfl rfl rfl rfl
      refine y_reg ?_
      refine y_move H rfl rfl fun a H => y_move H rfl rfl fun a H => y_strs1 H rfl rfl fun w110 q110 hc110 hb110 a H => ?_
      have hstr111 := OwnS.below hstr103 hb110
      have hz112 := Below.size hb110
      have hv113 := View.below hv105 hb110
      have hr114 := RowAt.below hr106 (by omega) hb110
      have hd115 := DW.below hd102 hb110
      have hg116 := grownBy_then hg107 (Below.mono hb110 (by omega))
      refine y_appStr H rfl hstr111 rfl hc110 (by omega) (by omega) rfl fun vs117 w117 hstr117 hb117 a H => ?_
      have hz117 := hb117.size
      have hv118 := View.kept hv113 (hb117.block g (by omega))
      have hr119 := RowAt.belowN hr114 hb117 (by omega)
      have hd120 := DW.belowN hd115 hlp hgl HO.out (N := BS) (by omega) hb117
      have hg121 := grownBy_then hg116 (hb117.mono (by omega))
      refine y_assign H rfl rfl fun a H => ?_
      have hm9 : (slenT _) = _ := slenT_view (DW.inn hd120)
      refine wpList_nil (in_normal (then_normal (⟨⟨f, goT bs k (r.length + 1 - m), _, _, xs ++ [t], H.sub _ (sub_cons rfl (sub_cons rfl (sub_cons rfl (sub_cons rfl (sub_cons rfl (sub_nil)))))), ⟨hd120, hr119, hstr117, hg121, hv118, by omega⟩, ?_, by omega, by simp only [List.length_append, List.length_cons, List.length_nil]; omega, ?_⟩, ?_⟩)))
      ·rw [← hT, strsT_step hbk hqt hs0t]; simp
      ·simp only [List.flatten_append, List.length_append, List.flatten_cons, List.flatten_nil, List.length_nil]; omega
      ·have hc9 := (DW.c10 hd120).1
       have h2 := hmu.out
       rw [hmc.out, hc9]
       show slenT _ < slenT _
       rw [h2, hm9]
       simp only [List.length_drop]
       omega
    ·refine y_eql (b := false) H rfl rfl (ieq_f (by omega)) rfl fun a H => y_on H rfl rfl ?_
     refine y_pick H rfl rfl rfl fun a H => y_pick H rfl rfl rfl fun a H => wpList_nil (then_normal (hK41 _ _ ?_))
     replace H := H.k6 0 2 3 4 5 35 rfl rfl rfl rfl rfl rfl
     refine y_iff H rfl ?_
     exact wp_exit (then_exit (then_exit (in_exit (then_normal (hJ _ _ _ _ _ _ (H.sub _ (sub_cons rfl (sub_cons rfl (sub_cons rfl (sub_cons rfl (sub_cons rfl (sub_nil))))))) ⟨hdL, hrL, hsL, hgL, hin0, hBL⟩ (by rw [← hT]; exact strsT_stop hbk (by omega)) ⟨by omega, by omega, by omega⟩)))))
end Go.Proofs.YtgdnpnipahegaaaGreatDoor
