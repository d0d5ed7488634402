/-
 The package's reader of the text form, walked: a number as a value.
-/
import Derived.Test.YtgdnpnipahegaaaGreatDoorJE
import Derived.Test.YtgdnpnipahegaaaGreatDoorTNumber
import Derived.Test.YtgdnpnipahegaaaGreatDoorTNumStr
namespace Go.Proofs.YtgdnpnipahegaaaGreatDoor
open Go.ChangeShapes Go.WideShapes Go.ChangeAt Go.RowKit

def numTk (bs : List UInt8) (k : Nat) : Option (TT × Nat) := match numT (bs.drop k) with
 | none => none
 | some x => some (⟨3, 1, false, x.kind + (if x.neg then 128 else 0), k, (bs.drop k).take x.size, numS x (bs.drop k)⟩, goT bs k x.size)
theorem numB_kind {l : List UInt8} {k n : Nat} (h : numB l = some (k, n)) : k = 0 ∨ k = 1 ∨ k = 2 ∨ k = 4 := by
 have hR : ∀ (K n : Nat) (S : List UInt8) (k m : Nat), (K = 0 ∨ K = 4) → nRest K n S = some (k, m) → k = 0 ∨ k = 4 := by
  intro K n S k m hK h
  unfold nRest at h
  rcases hf : nFrac K S with _ | ⟨k1, n1⟩
  ·rw [hf] at h; cases h
  ·rw [hf] at h
   simp only at h
   have hk1 : k1 = 0 ∨ k1 = 4 := by
    rcases S with _ | ⟨c, r⟩
    ·injection hf with hf; injection hf with h1 h2; omega
    ·rw [nFrac_cons] at hf
     split at hf
     ·split at hf
      ·cases hf
      ·injection hf with hf; injection hf with h1 h2; omega
     ·injection hf with hf; injection hf with h1 h2; omega
   rcases he : nExp k1 (S.drop n1) with _ | ⟨k2, n2⟩
   ·rw [he] at h; cases h
   ·rw [he] at h
    simp only at h
    have hk2 : k2 = 0 ∨ k2 = 4 := by
     rcases hS : S.drop n1 with _ | ⟨c, _ | ⟨d, r⟩⟩
     ·rw [hS] at he; injection he with he; injection he with h1 h2; omega
     ·rw [hS] at he; injection he with he; injection he with h1 h2; omega
     ·rw [hS, nExp_two] at he
      split at he
      ·split at he
       ·split at he
        ·cases he
        ·injection he with he; injection he with h1 h2; omega
       ·injection he with he; injection he with h1 h2; omega
      ·injection he with he; injection he with h1 h2; omega
    have hk3 : (nSuf k2 (S.drop (n1 + n2))).1 = 0 ∨ (nSuf k2 (S.drop (n1 + n2))).1 = 4 := by
     rcases hS : S.drop (n1 + n2) with _ | ⟨c, r⟩
     ·exact hk2
     ·rw [nSuf_cons]
      split
      ·exact .inr rfl
      ·exact hk2
    split at h
    ·injection h with h; injection h with h1 h2; omega
    ·cases h
 rcases l with _ | ⟨c, r⟩
 ·cases h
 ·rw [numB_cons] at h
  split at h
  ·rcases r with _ | ⟨d, r2⟩
   ·have := hR 0 1 [] k n (.inl rfl) h; omega
   ·simp only at h
    split at h
    ·unfold nHex at h
     split at h
     ·cases h
     ·split at h
      ·injection h with h; injection h with h1 h2; omega
      ·cases h
    ·split at h
     ·unfold nOct at h
      split at h
      ·injection h with h; injection h with h1 h2; omega
      ·cases h
     ·have := hR 0 1 (d :: r2) k n (.inl rfl) h; omega
  ·split at h
   ·have := hR 0 _ _ k n (.inl rfl) h; omega
   ·split at h
    ·have := hR 4 _ _ k n (.inr rfl) h; omega
    ·cases h
theorem numT_kind {l : List UInt8} {x : NT} (h : numT l = some x) : x.kind = 0 ∨ x.kind = 1 ∨ x.kind = 2 ∨ x.kind = 4 := by
 rcases l with _ | ⟨c, r⟩
 ·cases h
 ·rw [numT_cons] at h
  split at h
  ·rcases hb : numB (r.drop (skT false r)) with _ | ⟨k, n⟩
   ·rw [hb] at h; cases h
   ·rw [hb] at h
    injection h with h
    subst h
    exact numB_kind hb
  ·rcases hb : numB (c :: r) with _ | ⟨k, n⟩
   ·rw [hb] at h; cases h
   ·rw [hb] at h
    injection h with h
    subst h
    exact numB_kind hb
theorem or_kind {k : Nat} (h : k = 0 ∨ k = 1 ∨ k = 2 ∨ k = 4) : bits .or .u8 (k : Int) 128 = ((k + 128 : Nat) : Int) := by
 rcases h with rfl | rfl | rfl | rfl <;> kernel_rfl
theorem pf_num : PlainFn Tryz.prog 53 := ⟨_, Tryz.func53, by kernel_rfl, by kernel_rfl⟩
theorem pf_numstr : PlainFn Tryz.prog 54 := ⟨_, Tryz.func54, by kernel_rfl, by kernel_rfl⟩
variable {B p g : Nat} {bs : List UInt8} {vr ve vst vo vi : Value} {s : DT} {w : World}
set_option maxRecDepth 100000 in
set_option maxHeartbeats 100000000 in
theorem parseNumVal_any (h : DW B p g bs vr ve vst vo vi s w) (hm : bs.length ≤ 90000000) :
  Calls Tryz.prog 59 #[.pointer (some ⟨p, 0, none⟩)] w (TokRes' B p g bs vr ve vst vo vi s w (numTk bs s.k)) := by
 suffices key : ∀ Z, Hid (numTk bs s.k = Z) → Calls Tryz.prog 59 #[.pointer (some ⟨p, 0, none⟩)] w (TokRes' B p g bs vr ve vst vo vi s w Z) from key _ (hid rfl)
 intro Z HZ
 have hlp := h.lt
 have hgl := h.gl
 have hgp : g ≠ p := h.gp
 have HO := hid h.ownLt
 have h9 : 9 ≤ w.heap.size := by have := h.base; have := h.b9; omega
 have hle := h.le
 have hlk : (bs.drop s.k).length = bs.length - s.k := List.length_drop
 have hg0 : w.grownBy w (some p) := grownBy_below (Below.refl _ _) _
 refine enter1 (M := 55) Tryz.func59 rfl rfl rfl fun a H => ?_
 refine y_seq fun K1 hK1 => ?_
 refine y_reg ?_
 obtain ⟨q2, hq2⟩ : ∃ q, q = w.heap.size := ⟨_, rfl⟩
 refine y_allocRow alloc_tok H rfl fun w2 hr2 hb2 hs2 a H => ?_
 rw [← hq2] at H hr2
 have hz3 := Below.size hb2
 have hd4 := DW.below h hb2
 have hg5 := grownBy_then hg0 (Below.mono hb2 (by omega))
 refine y_assign H rfl rfl fun a H => wpList_nil (then_normal (hK1 _ _ ?_))
 replace H := H.k3 0 2 3 rfl rfl rfl
 refine y_seq fun K6 hK6 => ?_
 refine y_reg ?_
 refine y_move H rfl rfl fun a H => y_nilCheck H rfl rfl fun a H => y_field fld_in H rfl rfl fun a H => y_load one22 H rfl (DW.c10 hd4).1 rfl fun a H => y_assign H rfl rfl fun a H => wpList_nil (then_normal (hK6 _ _ ?_))
 replace H := H.k4 0 2 3 4 rfl rfl rfl rfl
 refine y_seq fun K7 hK7 => ?_
 have Hs8 := H
 rcases hN : numT (bs.drop s.k) with _ | ⟨kd, neg, sz, sp⟩
 ·have H := Hs8
  refine y_reg ?_
  refine y_move H rfl rfl fun a H => y_call pf_num H rfl rfl (Calls.mono (parseNumber_any _ _ g w2 (DW.inn hd4) (by rw [hlk]; omega)) ?_)
  rintro e w9 ⟨rfl, hb9⟩
  refine ⟨_, rfl, fun a H => ?_⟩
  have hz10 := Below.size hb9
  have hr11 := RowAt.below hr2 (by omega) hb9
  have hd12 := DW.below hd4 hb9
  have hg13 := grownBy_then hg5 (Below.mono hb9 (by omega))
  rw [hN] at H
  obtain ⟨q14, hq14⟩ : ∃ q, q = w9.heap.size := ⟨_, rfl⟩
  refine y_allocRow alloc_num H rfl fun w14 hr14 hb14 hs14 a H => ?_
  rw [← hq14] at H hr14
  have hz15 := Below.size hb14
  have hr16 := RowAt.below hr11 (by omega) hb14
  have hd17 := DW.below hd12 hb14
  have hg18 := grownBy_then hg13 (Below.mono hb14 (by omega))
  refine y_storeRow (vs := [.int .u8 (0 : Int), .bool false, .int .i64 (0 : Int), .int .i64 (0 : Int)]) H rfl rfl hr14 rfl (num_size' _ _ _ _) (by simp [Value.oneCell']) fun w19 hr19 hg19 => ?_
  have hz20 := World.grownBy.size hg19
  have hB20 := below_of_grown (N := w.heap.size) hg19 (by omega) (by omega)
  have hr21 := RowAt.grown hr16 hg19 (by omega) (by omega)
  have hd22 := DW.belowAt hd17 w.heap.size hlp hgl HO.out hB20
  have hg23 := grownBy_then hg18 hB20
  refine wpList_nil (then_normal (hK7 _ _ ?_))
  replace H := H.k4 0 2 3 5 rfl rfl rfl rfl
  refine y_seq fun K24 hK24 => ?_
  refine y_seq fun K25 hK25 => ?_
  refine y_reg ?_
  refine y_field fld_nz H rfl rfl fun a H => y_load oneInt H rfl (hr19 2 _ rfl).1 rfl fun a H => y_eql (b := true) H rfl rfl (by decide) rfl fun a H => wpList_nil (then_normal (hK25 _ _ ?_))
  replace H := H.k5 0 2 3 5 16 rfl rfl rfl rfl rfl
  refine y_ift H rfl ?_
  refine y_seq fun K26 hK26 => ?_
  refine y_reg ?_
  refine y_bld built_tok0 H rfl rfl fun a H => y_storeRow (vs := [_, _, _, _, _, _]) H rfl rfl hr21 rfl (tok_size' _ _ _ _ _ _) (by simp [Value.oneCell']) fun w27 hr27 hg27 => ?_
  have hz28 := World.grownBy.size hg27
  have hB28 := below_of_grown (N := w.heap.size) hg27 (by omega) (by omega)
  have hd30 := DW.belowAt hd22 w.heap.size hlp hgl HO.out hB28
  have hg31 := grownBy_then hg23 hB28
  refine y_assign H rfl rfl fun a H => wpList_nil (then_normal (hK26 _ _ ?_))
  replace H := H.k4 0 2 3 5 rfl rfl rfl rfl
  refine wp_ret (then_ret (?_))
  refine ret2 (by rfl) H rfl rfl hr27 ?_
  rw [show Z = none from by rw [← HZ.out]; unfold numTk; rw [hN]]
  exact ⟨rfl, hd30, hg31⟩
 ·have H := Hs8
  have hnz := numT_size hN
  have hkd := numT_kind hN
  simp only at hnz hkd
  have hnz1 := hnz.1
  have hnz2 := hnz.2.1
  rw [hlk] at hnz2
  have Hs32 := H
  cases neg with
  | true =>
   have H := Hs32
   refine y_reg ?_
   refine y_move H rfl rfl fun a H => y_call pf_num H rfl rfl (Calls.mono (parseNumber_any _ _ g w2 (DW.inn hd4) (by rw [hlk]; omega)) ?_)
   rintro e w33 ⟨rfl, hb33⟩
   refine ⟨_, rfl, fun a H => ?_⟩
   have hz34 := Below.size hb33
   have hr35 := RowAt.below hr2 (by omega) hb33
   have hd36 := DW.below hd4 hb33
   have hg37 := grownBy_then hg5 (Below.mono hb33 (by omega))
   rw [hN] at H
   obtain ⟨q38, hq38⟩ : ∃ q, q = w33.heap.size := ⟨_, rfl⟩
   refine y_allocRow alloc_num H rfl fun w38 hr38 hb38 hs38 a H => ?_
   rw [← hq38] at H hr38
   have hz39 := Below.size hb38
   have hr40 := RowAt.below hr35 (by omega) hb38
   have hd41 := DW.below hd36 hb38
   have hg42 := grownBy_then hg37 (Below.mono hb38 (by omega))
   refine y_storeRow (vs := [.int .u8 ((kd : Nat) : Int), .bool true, .int .i64 ((sz : Nat) : Int), .int .i64 ((sp : Nat) : Int)]) H rfl rfl hr38 rfl (num_size' _ _ _ _) (by simp [Value.oneCell']) fun w43 hr43 hg43 => ?_
   have hz44 := World.grownBy.size hg43
   have hB44 := below_of_grown (N := w.heap.size) hg43 (by omega) (by omega)
   have hr45 := RowAt.grown hr40 hg43 (by omega) (by omega)
   have hd46 := DW.belowAt hd41 w.heap.size hlp hgl HO.out hB44
   have hg47 := grownBy_then hg42 hB44
   refine wpList_nil (then_normal (hK7 _ _ ?_))
   replace H := H.k4 0 2 3 5 rfl rfl rfl rfl
   refine y_seq fun K48 hK48 => ?_
   refine y_seq fun K49 hK49 => ?_
   refine y_reg ?_
   refine y_field fld_nz H rfl rfl fun a H => y_load oneInt H rfl (hr43 2 _ rfl).1 rfl fun a H => y_eql (b := false) H rfl rfl (ieq_f (by omega)) rfl fun a H => wpList_nil (then_normal (hK49 _ _ ?_))
   replace H := H.k5 0 2 3 5 16 rfl rfl rfl rfl rfl
   refine y_iff H rfl ?_
   refine wp_skip (then_normal (hK48 _ _ ?_))
   replace H := H.k4 0 2 3 5 rfl rfl rfl rfl
   refine y_seq fun K50 hK50 => ?_
   refine y_reg ?_
   refine y_field fld_nk H rfl rfl fun a H => y_load one5 H rfl (hr43 0 _ rfl).1 rfl fun a H => y_assign H rfl rfl fun a H => wpList_nil (then_normal (hK50 _ _ ?_))
   replace H := H.k5 0 2 3 5 6 rfl rfl rfl rfl rfl
   refine y_seq fun K51 hK51 => ?_
   refine y_seq fun K52 hK52 => ?_
   refine y_reg ?_
   refine y_field fld_nn H rfl rfl fun a H => y_load oneBool H rfl (hr43 1 _ rfl).1 rfl fun a H => wpList_nil (then_normal (hK52 _ _ ?_))
   replace H := H.k6 0 2 3 5 6 21 rfl rfl rfl rfl rfl rfl
   refine y_ift H rfl ?_
   refine y_reg ?_
   refine y_move H rfl rfl fun a H => y_or (r := ((kd + 128 : Nat) : Int)) H rfl rfl (or_kind hkd) rfl fun a H => y_assign H rfl rfl fun a H => wpList_nil (then_normal (hK51 _ _ ?_))
   replace H := H.k5 0 2 3 5 6 rfl rfl rfl rfl rfl
   refine y_seq fun K53 hK53 => ?_
   refine d_begin (fun w' => w'.cell? ⟨p, 9, none⟩ = some vo ∧ w'.cell? ⟨p, 10, none⟩ = some vi ∧ RowAt w' q38 [.int .u8 ((kd : Nat) : Int), .bool true, .int .i64 ((sz : Nat) : Int), .int .i64 ((sp : Nat) : Int)]) 28 mixedP rfl ?_
   have hbd54 : Below w43.heap.size w43 w43.drew := (Below.refl _ _).drew
   generalize w43.drew = wd54 at hbd54 ⊢
   have hz55 := Below.size hbd54
   have hr56 := RowAt.below hr45 (by omega) hbd54
   have hr57 := RowAt.below hr43 (by omega) hbd54
   have hd58 := DW.below hd46 hbd54
   have hg59 := grownBy_then hg47 (Below.mono hbd54 (by omega))
   refine d_take 0 H rfl (by kernel_rfl) (by kernel_rfl) (by kernel_rfl) (r_move H rfl) ⟨(DW.c9 hd58).1, (DW.c10 hd58).1, hr57⟩ rfl fun a H => d_take 1 H rfl (by kernel_rfl) (by kernel_rfl) (by kernel_rfl) (r_nilCheck H rfl) ⟨(DW.c9 hd58).1, (DW.c10 hd58).1, hr57⟩ rfl fun a H => d_take 2 H rfl (by kernel_rfl) (by kernel_rfl) (by kernel_rfl) (r_field fld_orig H rfl) ⟨(DW.c9 hd58).1, (DW.c10 hd58).1, hr57⟩ rfl fun a H => d_take 3 H rfl (by kernel_rfl) (by kernel_rfl) (by kernel_rfl) (r_load one22 H rfl (fun _ h => h.1)) ⟨(DW.c9 hd58).1, (DW.c10 hd58).1, hr57⟩ rfl fun a H => d_take 4 H rfl (by kernel_rfl) (by kernel_rfl) (by kernel_rfl) (r_len Tryz.underlying22 H rfl (DW.orig hd58)) ⟨(DW.c9 hd58).1, (DW.c10 hd58).1, hr57⟩ rfl fun a H => d_take 5 H rfl (by kernel_rfl) (by kernel_rfl) (by kernel_rfl) (r_move H rfl) ⟨(DW.c9 hd58).1, (DW.c10 hd58).1, hr57⟩ rfl fun a H => d_take 6 H rfl (by kernel_rfl) (by kernel_rfl) (by kernel_rfl) (r_nilCheck H rfl) ⟨(DW.c9 hd58).1, (DW.c10 hd58).1, hr57⟩ rfl fun a H => d_take 7 H rfl (by kernel_rfl) (by kernel_rfl) (by kernel_rfl) (r_field fld_in H rfl) ⟨(DW.c9 hd58).1, (DW.c10 hd58).1, hr57⟩ rfl fun a H => d_take 8 H rfl (by kernel_rfl) (by kernel_rfl) (by kernel_rfl) (r_load one22 H rfl (fun _ h => h.2.1)) ⟨(DW.c9 hd58).1, (DW.c10 hd58).1, hr57⟩ rfl fun a H => d_take 9 H rfl (by kernel_rfl) (by kernel_rfl) (by kernel_rfl) (r_len Tryz.underlying22 H rfl (DW.inn hd58)) ⟨(DW.c9 hd58).1, (DW.c10 hd58).1, hr57⟩ rfl fun a H => d_take 10 H rfl (by kernel_rfl) (by kernel_rfl) (by kernel_rfl) (r_subi (r := ((s.k : Nat) : Int)) H rfl rfl (by omega) (by omega) (by omega)) ⟨(DW.c9 hd58).1, (DW.c10 hd58).1, hr57⟩ rfl fun a H => ?_
   refine d_take 11 H rfl (by kernel_rfl) (by kernel_rfl) (by kernel_rfl) (r_move H rfl) ⟨(DW.c9 hd58).1, (DW.c10 hd58).1, hr57⟩ rfl fun a H => d_take 12 H rfl (by kernel_rfl) (by kernel_rfl) (by kernel_rfl) (r_nilCheck H rfl) ⟨(DW.c9 hd58).1, (DW.c10 hd58).1, hr57⟩ rfl fun a H => d_take 13 H rfl (by kernel_rfl) (by kernel_rfl) (by kernel_rfl) (r_field fld_in H rfl) ⟨(DW.c9 hd58).1, (DW.c10 hd58).1, hr57⟩ rfl fun a H => d_take 14 H rfl (by kernel_rfl) (by kernel_rfl) (by kernel_rfl) (r_load one22 H rfl (fun _ h => h.2.1)) ⟨(DW.c9 hd58).1, (DW.c10 hd58).1, hr57⟩ rfl fun a H => d_take 15 H rfl (by kernel_rfl) (by kernel_rfl) (by kernel_rfl) (r_field fld_nz H rfl) ⟨(DW.c9 hd58).1, (DW.c10 hd58).1, hr57⟩ rfl fun a H => d_take 16 H rfl (by kernel_rfl) (by kernel_rfl) (by kernel_rfl) (r_load oneInt H rfl (fun _ h => (h.2.2 2 _ rfl).1)) ⟨(DW.c9 hd58).1, (DW.c10 hd58).1, hr57⟩ rfl fun a H => ?_
   obtain ⟨aoR, cR, hrunR, hvR⟩ := View.uptoRun (P := Tryz.prog) (DW.inn hd58) Tryz.underlying22 info5u .i64 sz (by rw [hlk]; omega)
   refine d_take 17 H rfl (by kernel_rfl) (by kernel_rfl) (by kernel_rfl) (r_upto H rfl rfl hrunR) ⟨(DW.c9 hd58).1, (DW.c10 hd58).1, hr57⟩ rfl fun a H => d_take 18 H rfl (by kernel_rfl) (by kernel_rfl) (by kernel_rfl) (r_loadRow Tryz.underlying80 rfl (num_size _ rfl) H rfl (fun _ h j v hj => by rw [Nat.zero_add]; exact (h.2.2 j v hj).1)) ⟨(DW.c9 hd58).1, (DW.c10 hd58).1, hr57⟩ rfl fun a H => d_take 19 H rfl (by kernel_rfl) (by kernel_rfl) (by kernel_rfl) (r_move H rfl) ⟨(DW.c9 hd58).1, (DW.c10 hd58).1, hr57⟩ rfl fun a H => d_take 20 H rfl (by kernel_rfl) (by kernel_rfl) (by kernel_rfl) (r_nilCheck H rfl) ⟨(DW.c9 hd58).1, (DW.c10 hd58).1, hr57⟩ rfl fun a H => d_take 21 H rfl (by kernel_rfl) (by kernel_rfl) (by kernel_rfl) (r_field fld_in H rfl) ⟨(DW.c9 hd58).1, (DW.c10 hd58).1, hr57⟩ rfl fun a H => d_take 22 H rfl (by kernel_rfl) (by kernel_rfl) (by kernel_rfl) (r_load one22 H rfl (fun _ h => h.2.1)) ⟨(DW.c9 hd58).1, (DW.c10 hd58).1, hr57⟩ rfl fun a H => d_take 24 H rfl (by kernel_rfl) (by kernel_rfl) (by kernel_rfl) (r_move H rfl) ⟨(DW.c9 hd58).1, (DW.c10 hd58).1, hr57⟩ rfl fun a H => ?_
   refine d_two 23 26 (by kernel_rfl) rfl rfl rfl rfl ?_ ?_
   ·refine y_call pf_numstr H rfl rfl (Calls.mono (numString_any ⟨kd, true, sz, sp⟩ _ _ g wd54 (DW.inn hd58) hN (by rw [hlk]; omega)) ?_)
    rintro e w60 ⟨rfl, hb60⟩
    refine ⟨_, rfl, fun a H => ?_⟩
    have hz61 := Below.size hb60
    have hv62 := View.below hvR hb60
    have hr63 := RowAt.below hr56 (by omega) hb60
    have hr64 := RowAt.below hr57 (by omega) hb60
    have hd65 := DW.below hd58 hb60
    have hg66 := grownBy_then hg59 (Below.mono hb60 (by omega))
    refine wpList_nil ⟨⟨(DW.c9 hd65).1, (DW.c10 hd65).1, hr64⟩, ?_⟩
    refine d_take 25 H rfl (by kernel_rfl) (by kernel_rfl) (by kernel_rfl) (r_bld (built_tok6 _ _ _ _ _ _ _ _) H rfl) ⟨(DW.c9 hd65).1, (DW.c10 hd65).1, hr64⟩ rfl fun a H => ?_
    refine d_one 26 (by kernel_rfl) rfl rfl ?_
    obtain ⟨q67, hq67⟩ : ∃ q, q = w60.heap.size := ⟨_, rfl⟩
    refine y_allocRow alloc_tok H rfl fun w67 hr67 hb67 hs67 a H => ?_
    rw [← hq67] at H hr67
    have hz68 := Below.size hb67
    have hv69 := View.below hv62 hb67
    have hr70 := RowAt.below hr63 (by omega) hb67
    have hr71 := RowAt.below hr64 (by omega) hb67
    have hd72 := DW.below hd65 hb67
    have hg73 := grownBy_then hg66 (Below.mono hb67 (by omega))
    refine wpList_nil ⟨⟨(DW.c9 hd72).1, (DW.c10 hd72).1, hr71⟩, ?_⟩
    refine d_one 27 (by kernel_rfl) rfl rfl ?_
    refine y_storeRow (vs := [_, _, _, _, _, _]) H rfl rfl hr67 rfl (tok_size' _ _ _ _ _ _) (by simp [Value.oneCell']) fun w74 hr74 hg74 => ?_
    have hz75 := World.grownBy.size hg74
    have hB75 := below_of_grown (N := w.heap.size) hg74 (by omega) (by omega)
    have hv76 := View.kept hv69 (World.grownBy.block hg74 g (by omega) (fun e => by injection e with e; omega))
    have hr77 := RowAt.grown hr70 hg74 (by omega) (by omega)
    have hr78 := RowAt.grown hr71 hg74 (by omega) (by omega)
    have hd79 := DW.belowAt hd72 w.heap.size hlp hgl HO.out hB75
    have hg80 := grownBy_then hg73 hB75
    refine wpList_nil ⟨⟨(DW.c9 hd79).1, (DW.c10 hd79).1, hr78⟩, ?_⟩
    refine d_done (by kernel_rfl) (then_normal (hK53 _ _ ?_))
    replace H := H.k5 0 2 3 5 7 rfl rfl rfl rfl rfl
    refine y_seq fun K81 hK81 => ?_
    refine y_reg ?_
    refine y_move H rfl rfl fun a H => y_field fld_nz H rfl rfl fun a H => y_load oneInt H rfl (hr78 2 _ rfl).1 rfl fun a H => y_call pf_dconsume H rfl rfl (Calls.mono (consume_any _ sz w74 hd79 (by show s.k + sz ≤ bs.length; omega) (by omega)) ?_)
    rintro e w82 ⟨rfl, vi3, hd82, hgc82⟩
    refine ⟨_, rfl, fun a H => ?_⟩
    have hz83 := World.grownBy.size hgc82
    have hv84 := View.kept hv76 (World.grownBy.block hgc82 g (by omega) (fun e => by injection e with e; exact hgp e))
    have hr85 := RowAt.grown hr77 hgc82 (by omega) (by omega)
    have hr87 := RowAt.grown hr74 hgc82 (by omega) (by omega)
    have hg88 := grown_trans hg80 hgc82
    refine wpList_nil (then_normal (hK81 _ _ ?_))
    replace H := H.k4 0 2 3 7 rfl rfl rfl rfl
    refine y_seq fun K89 hK89 => ?_
    refine y_reg ?_
    refine y_loadRow Tryz.underlying50 rfl (tok_size _ rfl) H rfl hr87 rfl fun a H => y_storeRow (vs := [_, _, _, _, _, _]) H rfl rfl hr85 rfl (tok_size' _ _ _ _ _ _) (by simp [Value.oneCell']) fun w90 hr90 hg90 => ?_
    have hz91 := World.grownBy.size hg90
    have hB91 := below_of_grown (N := w.heap.size) hg90 (by omega) (by omega)
    have hv92 := View.kept hv84 (World.grownBy.block hg90 g (by omega) (fun e => by injection e with e; omega))
    have hd95 := DW.belowAt hd82 w.heap.size hlp hgl HO.out hB91
    have hg96 := grownBy_then hg88 hB91
    refine y_assign H rfl rfl fun a H => wpList_nil (then_normal (hK89 _ _ ?_))
    replace H := H.k3 0 2 3 rfl rfl rfl
    refine wp_ret (?_)
    refine ret2 (by rfl) H rfl rfl hr90 ?_
    rw [show Z = some (⟨3, 1, false, kd + (if true then 128 else 0), s.k, (bs.drop s.k).take sz, numS ⟨kd, true, sz, sp⟩ (bs.drop s.k)⟩, goT bs s.k sz) from by rw [← HZ.out]; unfold numTk; rw [hN]]
    exact ⟨_, _, rfl, hv92, hd95, hg96⟩
   ·obtain ⟨q97, hq97⟩ : ∃ q, q = wd54.heap.size := ⟨_, rfl⟩
    refine y_allocRow alloc_tok H rfl fun w97 hr97 hb97 hs97 a H => ?_
    rw [← hq97] at H hr97
    have hz98 := Below.size hb97
    have hv99 := View.below hvR hb97
    have hr100 := RowAt.below hr56 (by omega) hb97
    have hr101 := RowAt.below hr57 (by omega) hb97
    have hd102 := DW.below hd58 hb97
    have hg103 := grownBy_then hg59 (Below.mono hb97 (by omega))
    refine wpList_nil ⟨⟨(DW.c9 hd102).1, (DW.c10 hd102).1, hr101⟩, ?_⟩
    refine d_one 23 (by kernel_rfl) rfl rfl ?_
    refine y_call pf_numstr H rfl rfl (Calls.mono (numString_any ⟨kd, true, sz, sp⟩ _ _ g w97 (DW.inn hd102) hN (by rw [hlk]; omega)) ?_)
    rintro e w104 ⟨rfl, hb104⟩
    refine ⟨_, rfl, fun a H => ?_⟩
    have hz105 := Below.size hb104
    have hv106 := View.below hv99 hb104
    have hr107 := RowAt.below hr100 (by omega) hb104
    have hr108 := RowAt.below hr101 (by omega) hb104
    have hr109 := RowAt.below hr97 (by omega) hb104
    have hd110 := DW.below hd102 hb104
    have hg111 := grownBy_then hg103 (Below.mono hb104 (by omega))
    refine wpList_nil ⟨⟨(DW.c9 hd110).1, (DW.c10 hd110).1, hr108⟩, ?_⟩
    refine d_take 25 H rfl (by kernel_rfl) (by kernel_rfl) (by kernel_rfl) (r_bld (built_tok6 _ _ _ _ _ _ _ _) H rfl) ⟨(DW.c9 hd110).1, (DW.c10 hd110).1, hr108⟩ rfl fun a H => ?_
    refine d_one 27 (by kernel_rfl) rfl rfl ?_
    refine y_storeRow (vs := [_, _, _, _, _, _]) H rfl rfl hr109 rfl (tok_size' _ _ _ _ _ _) (by simp [Value.oneCell']) fun w112 hr112 hg112 => ?_
    have hz113 := World.grownBy.size hg112
    have hB113 := below_of_grown (N := w.heap.size) hg112 (by omega) (by omega)
    have hv114 := View.kept hv106 (World.grownBy.block hg112 g (by omega) (fun e => by injection e with e; omega))
    have hr115 := RowAt.grown hr107 hg112 (by omega) (by omega)
    have hr116 := RowAt.grown hr108 hg112 (by omega) (by omega)
    have hd117 := DW.belowAt hd110 w.heap.size hlp hgl HO.out hB113
    have hg118 := grownBy_then hg111 hB113
    refine wpList_nil ⟨⟨(DW.c9 hd117).1, (DW.c10 hd117).1, hr116⟩, ?_⟩
    refine d_done (by kernel_rfl) (then_normal (hK53 _ _ ?_))
    replace H := H.k5 0 2 3 5 7 rfl rfl rfl rfl rfl
    refine y_seq fun K119 hK119 => ?_
    refine y_reg ?_
    refine y_move H rfl rfl fun a H => y_field fld_nz H rfl rfl fun a H => y_load oneInt H rfl (hr116 2 _ rfl).1 rfl fun a H => y_call pf_dconsume H rfl rfl (Calls.mono (consume_any _ sz w112 hd117 (by show s.k + sz ≤ bs.length; omega) (by omega)) ?_)
    rintro e w120 ⟨rfl, vi3, hd120, hgc120⟩
    refine ⟨_, rfl, fun a H => ?_⟩
    have hz121 := World.grownBy.size hgc120
    have hv122 := View.kept hv114 (World.grownBy.block hgc120 g (by omega) (fun e => by injection e with e; exact hgp e))
    have hr123 := RowAt.grown hr115 hgc120 (by omega) (by omega)
    have hr125 := RowAt.grown hr112 hgc120 (by omega) (by omega)
    have hg126 := grown_trans hg118 hgc120
    refine wpList_nil (then_normal (hK119 _ _ ?_))
    replace H := H.k4 0 2 3 7 rfl rfl rfl rfl
    refine y_seq fun K127 hK127 => ?_
    refine y_reg ?_
    refine y_loadRow Tryz.underlying50 rfl (tok_size _ rfl) H rfl hr125 rfl fun a H => y_storeRow (vs := [_, _, _, _, _, _]) H rfl rfl hr123 rfl (tok_size' _ _ _ _ _ _) (by simp [Value.oneCell']) fun w128 hr128 hg128 => ?_
    have hz129 := World.grownBy.size hg128
    have hB129 := below_of_grown (N := w.heap.size) hg128 (by omega) (by omega)
    have hv130 := View.kept hv122 (World.grownBy.block hg128 g (by omega) (fun e => by injection e with e; omega))
    have hd133 := DW.belowAt hd120 w.heap.size hlp hgl HO.out hB129
    have hg134 := grownBy_then hg126 hB129
    refine y_assign H rfl rfl fun a H => wpList_nil (then_normal (hK127 _ _ ?_))
    replace H := H.k3 0 2 3 rfl rfl rfl
    refine wp_ret (?_)
    refine ret2 (by rfl) H rfl rfl hr128 ?_
    rw [show Z = some (⟨3, 1, false, kd + (if true then 128 else 0), s.k, (bs.drop s.k).take sz, numS ⟨kd, true, sz, sp⟩ (bs.drop s.k)⟩, goT bs s.k sz) from by rw [← HZ.out]; unfold numTk; rw [hN]]
    exact ⟨_, _, rfl, hv130, hd133, hg134⟩
  | false =>
   have H := Hs32
   refine y_reg ?_
   refine y_move H rfl rfl fun a H => y_call pf_num H rfl rfl (Calls.mono (parseNumber_any _ _ g w2 (DW.inn hd4) (by rw [hlk]; omega)) ?_)
   rintro e w135 ⟨rfl, hb135⟩
   refine ⟨_, rfl, fun a H => ?_⟩
   have hz136 := Below.size hb135
   have hr137 := RowAt.below hr2 (by omega) hb135
   have hd138 := DW.below hd4 hb135
   have hg139 := grownBy_then hg5 (Below.mono hb135 (by omega))
   rw [hN] at H
   obtain ⟨q140, hq140⟩ : ∃ q, q = w135.heap.size := ⟨_, rfl⟩
   refine y_allocRow alloc_num H rfl fun w140 hr140 hb140 hs140 a H => ?_
   rw [← hq140] at H hr140
   have hz141 := Below.size hb140
   have hr142 := RowAt.below hr137 (by omega) hb140
   have hd143 := DW.below hd138 hb140
   have hg144 := grownBy_then hg139 (Below.mono hb140 (by omega))
   refine y_storeRow (vs := [.int .u8 ((kd : Nat) : Int), .bool false, .int .i64 ((sz : Nat) : Int), .int .i64 ((sp : Nat) : Int)]) H rfl rfl hr140 rfl (num_size' _ _ _ _) (by simp [Value.oneCell']) fun w145 hr145 hg145 => ?_
   have hz146 := World.grownBy.size hg145
   have hB146 := below_of_grown (N := w.heap.size) hg145 (by omega) (by omega)
   have hr147 := RowAt.grown hr142 hg145 (by omega) (by omega)
   have hd148 := DW.belowAt hd143 w.heap.size hlp hgl HO.out hB146
   have hg149 := grownBy_then hg144 hB146
   refine wpList_nil (then_normal (hK7 _ _ ?_))
   replace H := H.k4 0 2 3 5 rfl rfl rfl rfl
   refine y_seq fun K150 hK150 => ?_
   refine y_seq fun K151 hK151 => ?_
   refine y_reg ?_
   refine y_field fld_nz H rfl rfl fun a H => y_load oneInt H rfl (hr145 2 _ rfl).1 rfl fun a H => y_eql (b := false) H rfl rfl (ieq_f (by omega)) rfl fun a H => wpList_nil (then_normal (hK151 _ _ ?_))
   replace H := H.k5 0 2 3 5 16 rfl rfl rfl rfl rfl
   refine y_iff H rfl ?_
   refine wp_skip (then_normal (hK150 _ _ ?_))
   replace H := H.k4 0 2 3 5 rfl rfl rfl rfl
   refine y_seq fun K152 hK152 => ?_
   refine y_reg ?_
   refine y_field fld_nk H rfl rfl fun a H => y_load one5 H rfl (hr145 0 _ rfl).1 rfl fun a H => y_assign H rfl rfl fun a H => wpList_nil (then_normal (hK152 _ _ ?_))
   replace H := H.k5 0 2 3 5 6 rfl rfl rfl rfl rfl
   refine y_seq fun K153 hK153 => ?_
   refine y_seq fun K154 hK154 => ?_
   refine y_reg ?_
   refine y_field fld_nn H rfl rfl fun a H => y_load oneBool H rfl (hr145 1 _ rfl).1 rfl fun a H => wpList_nil (then_normal (hK154 _ _ ?_))
   replace H := H.k6 0 2 3 5 6 21 rfl rfl rfl rfl rfl rfl
   refine y_iff H rfl ?_
   refine wp_skip (then_normal (hK153 _ _ ?_))
   replace H := H.k5 0 2 3 5 6 rfl rfl rfl rfl rfl
   refine y_seq fun K155 hK155 => ?_
   refine d_begin (fun w' => w'.cell? ⟨p, 9, none⟩ = some vo ∧ w'.cell? ⟨p, 10, none⟩ = some vi ∧ RowAt w' q140 [.int .u8 ((kd : Nat) : Int), .bool false, .int .i64 ((sz : Nat) : Int), .int .i64 ((sp : Nat) : Int)]) 28 mixedP rfl ?_
   have hbd156 : Below w145.heap.size w145 w145.drew := (Below.refl _ _).drew
   generalize w145.drew = wd156 at hbd156 ⊢
   have hz157 := Below.size hbd156
   have hr158 := RowAt.below hr147 (by omega) hbd156
   have hr159 := RowAt.below hr145 (by omega) hbd156
   have hd160 := DW.below hd148 hbd156
   have hg161 := grownBy_then hg149 (Below.mono hbd156 (by omega))
   refine d_take 0 H rfl (by kernel_rfl) (by kernel_rfl) (by kernel_rfl) (r_move H rfl) ⟨(DW.c9 hd160).1, (DW.c10 hd160).1, hr159⟩ rfl fun a H => d_take 1 H rfl (by kernel_rfl) (by kernel_rfl) (by kernel_rfl) (r_nilCheck H rfl) ⟨(DW.c9 hd160).1, (DW.c10 hd160).1, hr159⟩ rfl fun a H => d_take 2 H rfl (by kernel_rfl) (by kernel_rfl) (by kernel_rfl) (r_field fld_orig H rfl) ⟨(DW.c9 hd160).1, (DW.c10 hd160).1, hr159⟩ rfl fun a H => d_take 3 H rfl (by kernel_rfl) (by kernel_rfl) (by kernel_rfl) (r_load one22 H rfl (fun _ h => h.1)) ⟨(DW.c9 hd160).1, (DW.c10 hd160).1, hr159⟩ rfl fun a H => d_take 4 H rfl (by kernel_rfl) (by kernel_rfl) (by kernel_rfl) (r_len Tryz.underlying22 H rfl (DW.orig hd160)) ⟨(DW.c9 hd160).1, (DW.c10 hd160).1, hr159⟩ rfl fun a H => d_take 5 H rfl (by kernel_rfl) (by kernel_rfl) (by kernel_rfl) (r_move H rfl) ⟨(DW.c9 hd160).1, (DW.c10 hd160).1, hr159⟩ rfl fun a H => d_take 6 H rfl (by kernel_rfl) (by kernel_rfl) (by kernel_rfl) (r_nilCheck H rfl) ⟨(DW.c9 hd160).1, (DW.c10 hd160).1, hr159⟩ rfl fun a H => d_take 7 H rfl (by kernel_rfl) (by kernel_rfl) (by kernel_rfl) (r_field fld_in H rfl) ⟨(DW.c9 hd160).1, (DW.c10 hd160).1, hr159⟩ rfl fun a H => d_take 8 H rfl (by kernel_rfl) (by kernel_rfl) (by kernel_rfl) (r_load one22 H rfl (fun _ h => h.2.1)) ⟨(DW.c9 hd160).1, (DW.c10 hd160).1, hr159⟩ rfl fun a H => d_take 9 H rfl (by kernel_rfl) (by kernel_rfl) (by kernel_rfl) (r_len Tryz.underlying22 H rfl (DW.inn hd160)) ⟨(DW.c9 hd160).1, (DW.c10 hd160).1, hr159⟩ rfl fun a H => d_take 10 H rfl (by kernel_rfl) (by kernel_rfl) (by kernel_rfl) (r_subi (r := ((s.k : Nat) : Int)) H rfl rfl (by omega) (by omega) (by omega)) ⟨(DW.c9 hd160).1, (DW.c10 hd160).1, hr159⟩ rfl fun a H => ?_
   refine d_take 11 H rfl (by kernel_rfl) (by kernel_rfl) (by kernel_rfl) (r_move H rfl) ⟨(DW.c9 hd160).1, (DW.c10 hd160).1, hr159⟩ rfl fun a H => d_take 12 H rfl (by kernel_rfl) (by kernel_rfl) (by kernel_rfl) (r_nilCheck H rfl) ⟨(DW.c9 hd160).1, (DW.c10 hd160).1, hr159⟩ rfl fun a H => d_take 13 H rfl (by kernel_rfl) (by kernel_rfl) (by kernel_rfl) (r_field fld_in H rfl) ⟨(DW.c9 hd160).1, (DW.c10 hd160).1, hr159⟩ rfl fun a H => d_take 14 H rfl (by kernel_rfl) (by kernel_rfl) (by kernel_rfl) (r_load one22 H rfl (fun _ h => h.2.1)) ⟨(DW.c9 hd160).1, (DW.c10 hd160).1, hr159⟩ rfl fun a H => d_take 15 H rfl (by kernel_rfl) (by kernel_rfl) (by kernel_rfl) (r_field fld_nz H rfl) ⟨(DW.c9 hd160).1, (DW.c10 hd160).1, hr159⟩ rfl fun a H => d_take 16 H rfl (by kernel_rfl) (by kernel_rfl) (by kernel_rfl) (r_load oneInt H rfl (fun _ h => (h.2.2 2 _ rfl).1)) ⟨(DW.c9 hd160).1, (DW.c10 hd160).1, hr159⟩ rfl fun a H => ?_
   obtain ⟨aoR, cR, hrunR, hvR⟩ := View.uptoRun (P := Tryz.prog) (DW.inn hd160) Tryz.underlying22 info5u .i64 sz (by rw [hlk]; omega)
   refine d_take 17 H rfl (by kernel_rfl) (by kernel_rfl) (by kernel_rfl) (r_upto H rfl rfl hrunR) ⟨(DW.c9 hd160).1, (DW.c10 hd160).1, hr159⟩ rfl fun a H => d_take 18 H rfl (by kernel_rfl) (by kernel_rfl) (by kernel_rfl) (r_loadRow Tryz.underlying80 rfl (num_size _ rfl) H rfl (fun _ h j v hj => by rw [Nat.zero_add]; exact (h.2.2 j v hj).1)) ⟨(DW.c9 hd160).1, (DW.c10 hd160).1, hr159⟩ rfl fun a H => d_take 19 H rfl (by kernel_rfl) (by kernel_rfl) (by kernel_rfl) (r_move H rfl) ⟨(DW.c9 hd160).1, (DW.c10 hd160).1, hr159⟩ rfl fun a H => d_take 20 H rfl (by kernel_rfl) (by kernel_rfl) (by kernel_rfl) (r_nilCheck H rfl) ⟨(DW.c9 hd160).1, (DW.c10 hd160).1, hr159⟩ rfl fun a H => d_take 21 H rfl (by kernel_rfl) (by kernel_rfl) (by kernel_rfl) (r_field fld_in H rfl) ⟨(DW.c9 hd160).1, (DW.c10 hd160).1, hr159⟩ rfl fun a H => d_take 22 H rfl (by kernel_rfl) (by kernel_rfl) (by kernel_rfl) (r_load one22 H rfl (fun _ h => h.2.1)) ⟨(DW.c9 hd160).1, (DW.c10 hd160).1, hr159⟩ rfl fun a H => d_take 24 H rfl (by kernel_rfl) (by kernel_rfl) (by kernel_rfl) (r_move H rfl) ⟨(DW.c9 hd160).1, (DW.c10 hd160).1, hr159⟩ rfl fun a H => ?_
   refine d_two 23 26 (by kernel_rfl) rfl rfl rfl rfl ?_ ?_
   ·refine y_call pf_numstr H rfl rfl (Calls.mono (numString_any ⟨kd, false, sz, sp⟩ _ _ g wd156 (DW.inn hd160) hN (by rw [hlk]; omega)) ?_)
    rintro e w162 ⟨rfl, hb162⟩
    refine ⟨_, rfl, fun a H => ?_⟩
    have hz163 := Below.size hb162
    have hv164 := View.below hvR hb162
    have hr165 := RowAt.below hr158 (by omega) hb162
    have hr166 := RowAt.below hr159 (by omega) hb162
    have hd167 := DW.below hd160 hb162
    have hg168 := grownBy_then hg161 (Below.mono hb162 (by omega))
    refine wpList_nil ⟨⟨(DW.c9 hd167).1, (DW.c10 hd167).1, hr166⟩, ?_⟩
    refine d_take 25 H rfl (by kernel_rfl) (by kernel_rfl) (by kernel_rfl) (r_bld (built_tok6 _ _ _ _ _ _ _ _) H rfl) ⟨(DW.c9 hd167).1, (DW.c10 hd167).1, hr166⟩ rfl fun a H => ?_
    refine d_one 26 (by kernel_rfl) rfl rfl ?_
    obtain ⟨q169, hq169⟩ : ∃ q, q = w162.heap.size := ⟨_, rfl⟩
    refine y_allocRow alloc_tok H rfl fun w169 hr169 hb169 hs169 a H => ?_
    rw [← hq169] at H hr169
    have hz170 := Below.size hb169
    have hv171 := View.below hv164 hb169
    have hr172 := RowAt.below hr165 (by omega) hb169
    have hr173 := RowAt.below hr166 (by omega) hb169
    have hd174 := DW.below hd167 hb169
    have hg175 := grownBy_then hg168 (Below.mono hb169 (by omega))
    refine wpList_nil ⟨⟨(DW.c9 hd174).1, (DW.c10 hd174).1, hr173⟩, ?_⟩
    refine d_one 27 (by kernel_rfl) rfl rfl ?_
    refine y_storeRow (vs := [_, _, _, _, _, _]) H rfl rfl hr169 rfl (tok_size' _ _ _ _ _ _) (by simp [Value.oneCell']) fun w176 hr176 hg176 => ?_
    have hz177 := World.grownBy.size hg176
    have hB177 := below_of_grown (N := w.heap.size) hg176 (by omega) (by omega)
    have hv178 := View.kept hv171 (World.grownBy.block hg176 g (by omega) (fun e => by injection e with e; omega))
    have hr179 := RowAt.grown hr172 hg176 (by omega) (by omega)
    have hr180 := RowAt.grown hr173 hg176 (by omega) (by omega)
    have hd181 := DW.belowAt hd174 w.heap.size hlp hgl HO.out hB177
    have hg182 := grownBy_then hg175 hB177
    refine wpList_nil ⟨⟨(DW.c9 hd181).1, (DW.c10 hd181).1, hr180⟩, ?_⟩
    refine d_done (by kernel_rfl) (then_normal (hK155 _ _ ?_))
    replace H := H.k5 0 2 3 5 7 rfl rfl rfl rfl rfl
    refine y_seq fun K183 hK183 => ?_
    refine y_reg ?_
    refine y_move H rfl rfl fun a H => y_field fld_nz H rfl rfl fun a H => y_load oneInt H rfl (hr180 2 _ rfl).1 rfl fun a H => y_call pf_dconsume H rfl rfl (Calls.mono (consume_any _ sz w176 hd181 (by show s.k + sz ≤ bs.length; omega) (by omega)) ?_)
    rintro e w184 ⟨rfl, vi3, hd184, hgc184⟩
    refine ⟨_, rfl, fun a H => ?_⟩
    have hz185 := World.grownBy.size hgc184
    have hv186 := View.kept hv178 (World.grownBy.block hgc184 g (by omega) (fun e => by injection e with e; exact hgp e))
    have hr187 := RowAt.grown hr179 hgc184 (by omega) (by omega)
    have hr189 := RowAt.grown hr176 hgc184 (by omega) (by omega)
    have hg190 := grown_trans hg182 hgc184
    refine wpList_nil (then_normal (hK183 _ _ ?_))
    replace H := H.k4 0 2 3 7 rfl rfl rfl rfl
    refine y_seq fun K191 hK191 => ?_
    refine y_reg ?_
    refine y_loadRow Tryz.underlying50 rfl (tok_size _ rfl) H rfl hr189 rfl fun a H => y_storeRow (vs := [_, _, _, _, _, _]) H rfl rfl hr187 rfl (tok_size' _ _ _ _ _ _) (by simp [Value.oneCell']) fun w192 hr192 hg192 => ?_
    have hz193 := World.grownBy.size hg192
    have hB193 := below_of_grown (N := w.heap.size) hg192 (by omega) (by omega)
    have hv194 := View.kept hv186 (World.grownBy.block hg192 g (by omega) (fun e => by injection e with e; omega))
    have hd197 := DW.belowAt hd184 w.heap.size hlp hgl HO.out hB193
    have hg198 := grownBy_then hg190 hB193
    refine y_assign H rfl rfl fun a H => wpList_nil (then_normal (hK191 _ _ ?_))
    replace H := H.k3 0 2 3 rfl rfl rfl
    refine wp_ret (?_)
    refine ret2 (by rfl) H rfl rfl hr192 ?_
    rw [show Z = some (⟨3, 1, false, kd + (if false then 128 else 0), s.k, (bs.drop s.k).take sz, numS ⟨kd, false, sz, sp⟩ (bs.drop s.k)⟩, goT bs s.k sz) from by rw [← HZ.out]; unfold numTk; rw [hN]]
    exact ⟨_, _, rfl, hv194, hd197, hg198⟩
   ·obtain ⟨q199, hq199⟩ : ∃ q, q = wd156.heap.size := ⟨_, rfl⟩
    refine y_allocRow alloc_tok H rfl fun w199 hr199 hb199 hs199 a H => ?_
    rw [← hq199] at H hr199
    have hz200 := Below.size hb199
    have hv201 := View.below hvR hb199
    have hr202 := RowAt.below hr158 (by omega) hb199
    have hr203 := RowAt.below hr159 (by omega) hb199
    have hd204 := DW.below hd160 hb199
    have hg205 := grownBy_then hg161 (Below.mono hb199 (by omega))
    refine wpList_nil ⟨⟨(DW.c9 hd204).1, (DW.c10 hd204).1, hr203⟩, ?_⟩
    refine d_one 23 (by kernel_rfl) rfl rfl ?_
    refine y_call pf_numstr H rfl rfl (Calls.mono (numString_any ⟨kd, false, sz, sp⟩ _ _ g w199 (DW.inn hd204) hN (by rw [hlk]; omega)) ?_)
    rintro e w206 ⟨rfl, hb206⟩
    refine ⟨_, rfl, fun a H => ?_⟩
    have hz207 := Below.size hb206
    have hv208 := View.below hv201 hb206
    have hr209 := RowAt.below hr202 (by omega) hb206
    have hr210 := RowAt.below hr203 (by omega) hb206
    have hr211 := RowAt.below hr199 (by omega) hb206
    have hd212 := DW.below hd204 hb206
    have hg213 := grownBy_then hg205 (Below.mono hb206 (by omega))
    refine wpList_nil ⟨⟨(DW.c9 hd212).1, (DW.c10 hd212).1, hr210⟩, ?_⟩
    refine d_take 25 H rfl (by kernel_rfl) (by kernel_rfl) (by kernel_rfl) (r_bld (built_tok6 _ _ _ _ _ _ _ _) H rfl) ⟨(DW.c9 hd212).1, (DW.c10 hd212).1, hr210⟩ rfl fun a H => ?_
    refine d_one 27 (by kernel_rfl) rfl rfl ?_
    refine y_storeRow (vs := [_, _, _, _, _, _]) H rfl rfl hr211 rfl (tok_size' _ _ _ _ _ _) (by simp [Value.oneCell']) fun w214 hr214 hg214 => ?_
    have hz215 := World.grownBy.size hg214
    have hB215 := below_of_grown (N := w.heap.size) hg214 (by omega) (by omega)
    have hv216 := View.kept hv208 (World.grownBy.block hg214 g (by omega) (fun e => by injection e with e; omega))
    have hr217 := RowAt.grown hr209 hg214 (by omega) (by omega)
    have hr218 := RowAt.grown hr210 hg214 (by omega) (by omega)
    have hd219 := DW.belowAt hd212 w.heap.size hlp hgl HO.out hB215
    have hg220 := grownBy_then hg213 hB215
    refine wpList_nil ⟨⟨(DW.c9 hd219).1, (DW.c10 hd219).1, hr218⟩, ?_⟩
    refine d_done (by kernel_rfl) (then_normal (hK155 _ _ ?_))
    replace H := H.k5 0 2 3 5 7 rfl rfl rfl rfl rfl
    refine y_seq fun K221 hK221 => ?_
    refine y_reg ?_
    refine y_move H rfl rfl fun a H => y_field fld_nz H rfl rfl fun a H => y_load oneInt H rfl (hr218 2 _ rfl).1 rfl fun a H => y_call pf_dconsume H rfl rfl (Calls.mono (consume_any _ sz w214 hd219 (by show s.k + sz ≤ bs.length; omega) (by omega)) ?_)
    rintro e w222 ⟨rfl, vi3, hd222, hgc222⟩
    refine ⟨_, rfl, fun a H => ?_⟩
    have hz223 := World.grownBy.size hgc222
    have hv224 := View.kept hv216 (World.grownBy.block hgc222 g (by omega) (fun e => by injection e with e; exact hgp e))
    have hr225 := RowAt.grown hr217 hgc222 (by omega) (by omega)
    have hr227 := RowAt.grown hr214 hgc222 (by omega) (by omega)
    have hg228 := grown_trans hg220 hgc222
    refine wpList_nil (then_normal (hK221 _ _ ?_))
    replace H := H.k4 0 2 3 7 rfl rfl rfl rfl
    refine y_seq fun K229 hK229 => ?_
    refine y_reg ?_
    refine y_loadRow Tryz.underlying50 rfl (tok_size _ rfl) H rfl hr227 rfl fun a H => y_storeRow (vs := [_, _, _, _, _, _]) H rfl rfl hr225 rfl (tok_size' _ _ _ _ _ _) (by simp [Value.oneCell']) fun w230 hr230 hg230 => ?_
    have hz231 := World.grownBy.size hg230
    have hB231 := below_of_grown (N := w.heap.size) hg230 (by omega) (by omega)
    have hv232 := View.kept hv224 (World.grownBy.block hg230 g (by omega) (fun e => by injection e with e; omega))
    have hd235 := DW.belowAt hd222 w.heap.size hlp hgl HO.out hB231
    have hg236 := grownBy_then hg228 hB231
    refine y_assign H rfl rfl fun a H => wpList_nil (then_normal (hK229 _ _ ?_))
    replace H := H.k3 0 2 3 rfl rfl rfl
    refine wp_ret (?_)
    refine ret2 (by rfl) H rfl rfl hr230 ?_
    rw [show Z = some (⟨3, 1, false, kd + (if false then 128 else 0), s.k, (bs.drop s.k).take sz, numS ⟨kd, false, sz, sp⟩ (bs.drop s.k)⟩, goT bs s.k sz) from by rw [← HZ.out]; unfold numTk; rw [hN]]
    exact ⟨_, _, rfl, hv232, hd235, hg236⟩
end Go.Proofs.YtgdnpnipahegaaaGreatDoor
