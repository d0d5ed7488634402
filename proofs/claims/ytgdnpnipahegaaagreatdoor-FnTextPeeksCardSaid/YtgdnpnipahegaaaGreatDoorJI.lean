/-
 The package's reader of the text form, walked: a colon behind a field's name.
-/
import Derived.Test.YtgdnpnipahegaaaGreatDoorJE
import Derived.Test.YtgdnpnipahegaaaGreatDoorTScalar
import Derived.Test.YtgdnpnipahegaaaGreatDoorTRun
import Derived.Lib.ParseIntB

namespace Go.Proofs.YtgdnpnipahegaaaGreatDoor
open Go.ChangeShapes Go.WideShapes Go.ChangeAt Go.RowKit

variable {B p g : Nat} {bs : List UInt8} {vr ve vst vo vi : Value} {s : DT} {w : World}
def FieldEnd (B p g : Nat) (bs : List UInt8) (vr ve vst vo : Value) (s : DT) (t : TT) (vt : Value) (q2 q3 : Nat) (w : World) (e : Ending) (w' : World) : Prop := e = .returned (.tuple #[]) ∧ ∃ w1 vi' t' k', (t', k') = sepT bs (t, s.k) ∧ DW B p g bs vr ve vst vo vi' { s with k := k' } w' ∧ RowAt w' q2 (tokCells6 vt t') ∧ RowAt w' q3 [.nilIface] ∧ w.grownBy w1 (some p) ∧ w1.grownBy w' (some q2) ∧ View w' g vt t'.raw
theorem or_att {k : Nat} (h : k ≤ 3) : bits .or .u8 (k : Int) 128 = ((k + 128 : Nat) : Int) := by
 obtain rfl | rfl | rfl | rfl : k = 0 ∨ k = 1 ∨ k = 2 ∨ k = 3 := by omega
 all_goals kernel_rfl
theorem end_none {fn : Func} {N : Nat} {a : Act} {l : List (Nat × Value)} {R : Ending → World → Prop} {w : World} (hres : fn.results = #[]) (H : Has N [] a l) (h : R (.returned (.tuple #[])) w) : bodyPost Tryz.prog fn R .normal a w :=
 bodyPost_end (results_none hres _ _ _) H.defers h
set_option maxRecDepth 100000 in
set_option maxHeartbeats 100000000 in
theorem fieldEnd_ok {q1 q2 q3 N0 : Nat} {t : TT} {vt : Value} {u : FrameMode} (h : DW B p g bs vr ve vst vo vi s w) (hm : bs.length ≤ 90000000) (h3 : RowAt w q3 [.nilIface]) (h1 : RowAt w q1 [.pointer (some ⟨p, 0, none⟩)]) (h2 : RowAt w q2 (tokCells6 vt t)) (hv : View w g vt t.raw)
  (hsep : t.sep = false) (hat : t.att ≤ 3) (hq2 : q2 ≠ p) (hq3 : q3 ≠ p) (hq23 : q3 ≠ q2) (hpn : p < N0) (hgn : g < N0) (hon : ∀ k, vst.ownBlock = some k → k < N0) (hqn : N0 ≤ q2) :
  CallsD Tryz.prog 49 #[.pointer (some ⟨q3, 0, none⟩), .pointer (some ⟨q1, 0, none⟩), .pointer (some ⟨q2, 0, none⟩)] u w fun e u' w' => u' = u ∧ FieldEnd B p g bs vr ve vst vo s t vt q2 q3 w e w' := by
 have hl2 := World.block_lt_of_cell? _ _ (h2 0 _ rfl).1
 have hl3 := World.block_lt_of_cell? _ _ (h3 0 _ rfl).1
 have hgl := h.gl
 have hm : bs.length ≤ 100000000 := by omega
 have hl2 : q2 < w.heap.size := hl2
 have hl3 : q3 < w.heap.size := hl3
 have hatt : attV t ≤ 3 := by unfold attV; rw [hsep]; simpa using hat
 have hsep9 : (tokCells6 vt t).set 1 (.int .u8 ((attV t + 128 : Nat) : Int)) = tokCells6 vt { t with sep := true } := by
  unfold tokCells6 attV
  rw [hsep]
  simp
 refine enterC3 Tryz.func49 rfl rfl rfl fun a H => ?_
 refine y_seq fun K1 hK1 => ?_
 refine y_reg ?_
 refine y_load oneErr H rfl (h3 0 _ rfl).1 rfl fun a H => y_eqNil (b := true) H rfl (.inl ⟨rfl, rfl⟩) rfl fun a H => y_move H rfl rfl fun a H => y_on H rfl rfl ?_
 refine y_load onePtr H rfl (h1 0 _ rfl).1 rfl fun a H => y_on H rfl rfl ?_
 have HT := tryConsume_any 58 h hm h.le
 rw [show (((58 : UInt8).toNat : Nat) : Int) = 58 from rfl] at HT
 refine y_call pf_try H rfl rfl (Calls.mono HT ?_)
 rintro e w2 ⟨b, vi2, k2, rfl, hbk2, hd2, hg2⟩
 refine ⟨_, rfl, fun a H => ?_⟩
 have Hs2 := H
 rcases hbk : bs.drop s.k with _ | ⟨c, r⟩
 ·have H := Hs2
  rw [hbk] at hbk2
  have Hs3 := H
  obtain ⟨rfl, rfl⟩ : b = false ∧ k2 = s.k := by simpa using hbk2
  have H := Hs3
  refine y_pick H rfl rfl rfl fun a H => wpList_nil (then_normal (hK1 _ _ ?_))
  replace H := H.k4 0 1 2 8 rfl rfl rfl rfl
  refine y_iff H rfl ?_
  refine wp_skip (end_none (by rfl) H ?_)
  have hz2 := hg2.size
  exact ⟨rfl, w2, _, t, s.k, Eq.symm (show sepT bs (t, s.k) = (t, s.k) from sepT_nil hbk), hd2, h2.grown hg2 hl2 hq2, h3.grown hg2 hl3 hq3, hg2, grownBy_below (Below.refl _ _) _, hv.kept (hg2.block g hgl (fun e => by injection e with e; exact h.gp e))⟩
 ·have H := Hs2
  by_cases hc : c.toNat = 58
  ·rw [hbk] at hbk2
   have Hs4 := H
   obtain ⟨rfl, rfl⟩ : b = true ∧ k2 = goT bs s.k 1 := by simp only [show (58 : UInt8).toNat = 58 from rfl, if_pos hc] at hbk2; simpa using hbk2
   have H := Hs4
   refine y_pick H rfl rfl rfl fun a H => wpList_nil (then_normal (hK1 _ _ ?_))
   replace H := H.k4 0 1 2 8 rfl rfl rfl rfl
   refine y_ift H rfl ?_
   refine y_reg ?_
   have hr2 := h2.grown hg2 hl2 hq2
   refine y_field fld_ta H rfl rfl fun a H => y_load one5 H rfl (hr2 1 _ rfl).1 rfl fun a H => y_or (r := ((attV t + 128 : Nat) : Int)) H rfl rfl (or_att hatt) rfl fun a H => y_field fld_ta H rfl rfl fun a H => y_storeCell u8_size H rfl rfl rfl (hr2 1 _ rfl).1 (hr2 1 _ rfl).2 rfl ?_
   have hr9 := hr2.set 1 (by simp [tokCells6]) (.int .u8 ((attV t + 128 : Nat) : Int))
   have hg9 := grownBy_set w2 q2 1 (.int .u8 ((attV t + 128 : Nat) : Int))
   generalize w2.setCell ⟨q2, 1, none⟩ (.int .u8 ((attV t + 128 : Nat) : Int)) = w9 at hr9 hg9 ⊢
   refine wpList_nil (end_none (by rfl) H ?_)
   have hz2 := hg2.size
   have hB9 := below_of_grown (N := N0) hg9 hqn (by omega)
   exact ⟨rfl, w2, _, { t with sep := true }, goT bs s.k 1, Eq.symm (show sepT bs (t, s.k) = ({ t with sep := true }, goT bs s.k 1) from by rw [sepT_cons hbk, if_pos hc]), hd2.belowAt N0 hpn hgn hon hB9, by rw [hsep9] at hr9; exact hr9, (h3.grown hg2 hl3 hq3).grown hg9 (by omega) hq23, hg2, hg9, (hv.kept (hg2.block g hgl (fun e => by injection e with e; exact h.gp e))).kept (hB9.block g hgn)⟩
  ·rw [hbk] at hbk2
   have Hs5 := H
   obtain ⟨rfl, rfl⟩ : b = false ∧ k2 = s.k := by simp only [show (58 : UInt8).toNat = 58 from rfl, if_neg hc] at hbk2; simpa using hbk2
   have H := Hs5
   refine y_pick H rfl rfl rfl fun a H => wpList_nil (then_normal (hK1 _ _ ?_))
   replace H := H.k4 0 1 2 8 rfl rfl rfl rfl
   refine y_iff H rfl ?_
   refine wp_skip (end_none (by rfl) H ?_)
   have hz2 := hg2.size
   exact ⟨rfl, w2, _, t, s.k, Eq.symm (show sepT bs (t, s.k) = (t, s.k) from by rw [sepT_cons hbk, if_neg hc]), hd2, h2.grown hg2 hl2 hq2, h3.grown hg2 hl3 hq3, hg2, grownBy_below (Below.refl _ _) _, hv.kept (hg2.block g hgl (fun e => by injection e with e; exact h.gp e))⟩
set_option maxRecDepth 100000 in
set_option maxHeartbeats 100000000 in
theorem fieldEnd_err {q1 q2 q3 : Nat} {te : TypeId} {xe : Value} {u : FrameMode} (h3 : RowAt w q3 [.iface te xe]) :
  CallsD Tryz.prog 49 #[.pointer (some ⟨q3, 0, none⟩), .pointer (some ⟨q1, 0, none⟩), .pointer (some ⟨q2, 0, none⟩)] u w fun e u' w' => u' = u ∧ (e = .returned (.tuple #[]) ∧ w' = w) := by
 refine enterC3 Tryz.func49 rfl rfl rfl fun a H => ?_
 refine y_seq fun K6 hK6 => ?_
 refine y_reg ?_
 refine y_load oneErr H rfl (h3 0 _ rfl).1 rfl fun a H => y_eqNil (b := false) H rfl (.inr ⟨_, _, rfl, rfl⟩) rfl fun a H => y_move H rfl rfl fun a H => y_off H rfl rfl rfl fun a H => y_off H rfl rfl rfl fun a H => y_pick H rfl rfl rfl fun a H => wpList_nil (then_normal (hK6 _ _ ?_))
 replace H := H.k4 0 1 2 8 rfl rfl rfl rfl
 refine y_iff H rfl ?_
 refine wp_skip (end_none (by rfl) H ?_)
 exact ⟨rfl, rfl⟩
end Go.Proofs.YtgdnpnipahegaaaGreatDoor

namespace Go.Proofs.YtgdnpnipahegaaaGreatDoor

theorem tenV_ge : ∀ (l : List UInt8) (acc : Nat), acc ≤ tenV acc l
 | [], acc => Nat.le_refl _
 | c :: l, acc => by
  unfold tenV
  have := tenV_ge l (acc * 10 + (c.toNat - 48))
  omega
theorem uintM_digits : ∀ (l : List UInt8) (acc : Nat), (∀ c ∈ l, isDg c = true) → acc ≤ 4294967295 → Lib.parseUintM 4294967295 acc l = if tenV acc l ≤ 4294967295 then .ok (tenV acc l) else .range
 | [], acc, _, h => by unfold Lib.parseUintM tenV; rw [if_pos h]
 | c :: l, acc, hd, h => by
  have hc := hd c (by simp)
  have hc2 : 48 ≤ c.toNat ∧ c.toNat ≤ 57 := by unfold isDg at hc; simpa using hc
  unfold Lib.parseUintM tenV
  rw [if_pos hc2, if_neg (by omega)]
  by_cases hv : 4294967295 < acc * 10 + (c.toNat - 48)
  ·rw [if_pos hv, if_neg (by have := tenV_ge l (acc * 10 + (c.toNat - 48)); omega)]
  ·rw [if_neg hv]
   exact uintM_digits l _ (fun d hd' => hd d (by simp [hd'])) (by omega)
theorem int32_digits {l : List UInt8} (hne : l ≠ []) (hd : ∀ c ∈ l, isDg c = true) : Lib.parseIntB 32 l = if tenV 0 l ≤ 2147483647 then .ok ((tenV 0 l : Nat) : Int) else .range := by
 obtain ⟨c, r, rfl⟩ := List.exists_cons_of_ne_nil hne
 have hc := hd c (by simp)
 have hc2 : 48 ≤ c.toNat ∧ c.toNat ≤ 57 := by unfold isDg at hc; simpa using hc
 have h1 := uintM_digits (c :: r) 0 hd (by omega)
 unfold Lib.parseIntB
 simp only
 rw [if_neg (by omega)]
 unfold Lib.parseUintB
 rw [if_neg (by simp), show 2 ^ 32 - 1 = 4294967295 from rfl, h1]
 by_cases hv : tenV 0 (c :: r) ≤ 4294967295
 ·rw [if_pos hv]
  simp only
  by_cases h2 : tenV 0 (c :: r) ≤ 2147483647
  ·rw [if_neg (by omega), if_neg (by omega), if_neg (by omega), if_pos h2]
  ·rw [if_pos (by omega), if_neg h2]
 ·rw [if_neg hv, if_neg (by omega)]
theorem nRest_whole {n m : Nat} {s : List UInt8} (h : nRest 0 n s = some (0, m)) : m = n := by
 unfold nRest at h
 rcases hf : nFrac 0 s with _ | ⟨k1, n1⟩
 ·rw [hf] at h; cases h
 ·rw [hf] at h
  simp only at h
  have h1 : (k1 = 0 ∧ n1 = 0) ∨ k1 = 4 := by
   rcases s with _ | ⟨c, r⟩
   ·injection hf with hf; injection hf with a b; exact .inl ⟨a.symm, b.symm⟩
   ·rw [nFrac_cons] at hf
    split at hf
    ·split at hf
     ·cases hf
     ·injection hf with hf; injection hf with a b; exact .inr a.symm
    ·injection hf with hf; injection hf with a b; exact .inl ⟨a.symm, b.symm⟩
  rcases he : nExp k1 (s.drop n1) with _ | ⟨k2, n2⟩
  ·rw [he] at h; cases h
  ·rw [he] at h
   simp only at h
   have h2 : (k2 = k1 ∧ n2 = 0) ∨ k2 = 4 := by
    rcases hS : s.drop n1 with _ | ⟨c, _ | ⟨d, r⟩⟩
    ·rw [hS] at he; injection he with he; injection he with a b; exact .inl ⟨a.symm, b.symm⟩
    ·rw [hS] at he; injection he with he; injection he with a b; exact .inl ⟨a.symm, b.symm⟩
    ·rw [hS, nExp_two] at he
     split at he
     ·split at he
      ·split at he
       ·cases he
       ·injection he with he; injection he with a b; exact .inr a.symm
      ·injection he with he; injection he with a b; exact .inr a.symm
     ·injection he with he; injection he with a b; exact .inl ⟨a.symm, b.symm⟩
   have h3 : (nSuf k2 (s.drop (n1 + n2)) = (k2, 0)) ∨ (nSuf k2 (s.drop (n1 + n2))).1 = 4 := by
    rcases hS : s.drop (n1 + n2) with _ | ⟨c, r⟩
    ·exact .inl rfl
    ·rw [nSuf_cons]
     split
     ·exact .inr rfl
     ·exact .inl rfl
   split at h
   ·injection h with h
    injection h with a b
    rcases h3 with h3 | h3
    ·rw [h3] at a b
     simp only at a b
     omega
    ·omega
   ·cases h
theorem runN_each {p : UInt8 → Bool} : ∀ (l : List UInt8) (c : UInt8), c ∈ l.take (runN p l) → p c = true
 | [], c, h => by simp at h
 | d :: l, c, h => by
  rw [runN] at h
  split at h
  ·rename_i hp
   rw [List.take_succ_cons] at h
   rcases List.mem_cons.1 h with rfl | h
   ·exact hp
   ·exact runN_each l c h
  ·simp at h
theorem numT_dec {l : List UInt8} {x : NT} (h : numT l = some x) (hn : x.neg = false) (hk : x.kind = 0) : numS x l = l.take x.size ∧ (∀ c ∈ l.take x.size, isDg c = true) := by
 rcases l with _ | ⟨c, r⟩
 ·cases h
 ·refine ⟨?_, ?_⟩
  ·unfold numS
   simp only
   rw [hn, hk, if_neg (by simp), if_neg (by simp)]
  ·rw [numT_cons] at h
   split at h
   ·rcases hb : numB (r.drop (skT false r)) with _ | ⟨k, n⟩
    ·rw [hb] at h; cases h
    ·rw [hb] at h; injection h with h; subst h; cases hn
   ·rcases hb : numB (c :: r) with _ | ⟨k, n⟩
    ·rw [hb] at h; cases h
    ·rw [hb] at h
     injection h with h
     subst h
     simp only at hk ⊢
     subst hk
     rw [numB_cons] at hb
     split at hb
     ·rename_i h48
      have hone : n = 1 → ∀ d ∈ (c :: r).take n, isDg d = true := by
       intro hn1 d hd
       rw [hn1] at hd
       simp at hd
       subst hd
       unfold isDg
       simp
       omega
      rcases r with _ | ⟨d, r2⟩
      ·exact hone (nRest_whole hb)
      ·simp only at hb
       split at hb
       ·unfold nHex at hb
        split at hb
        ·cases hb
        ·split at hb
         ·injection hb with hb; injection hb with a b; cases a
         ·cases hb
       ·split at hb
        ·unfold nOct at hb
         split at hb
         ·injection hb with hb; injection hb with a b; cases a
         ·cases hb
        ·exact hone (nRest_whole hb)
     ·split at hb
      ·rename_i h49
       have hn1 := nRest_whole hb
       intro d hd
       rw [hn1, Nat.add_comm, List.take_succ_cons] at hd
       rcases List.mem_cons.1 hd with rfl | hd
       ·unfold isDg; simp; omega
       ·exact runN_each r d hd
      ·split at hb
       ·exfalso
        have : ∀ (n m : Nat) (s : List UInt8), nRest 4 n s = some (0, m) → False := by
         intro n m s h
         unfold nRest at h
         rcases hf : nFrac 4 s with _ | ⟨k1, n1⟩
         ·rw [hf] at h; cases h
         ·rw [hf] at h
          simp only at h
          have h1 : k1 = 4 := by
           rcases s with _ | ⟨c, r⟩
           ·injection hf with hf; injection hf with a b; exact a.symm
           ·rw [nFrac_cons] at hf
            split at hf
            ·split at hf
             ·cases hf
             ·injection hf with hf; injection hf with a b; exact a.symm
            ·injection hf with hf; injection hf with a b; exact a.symm
          subst h1
          rcases he : nExp 4 (s.drop n1) with _ | ⟨k2, n2⟩
          ·rw [he] at h; cases h
          ·rw [he] at h
           simp only at h
           have h2 : k2 = 4 := by
            rcases hS : s.drop n1 with _ | ⟨c, _ | ⟨d, r⟩⟩
            ·rw [hS] at he; injection he with he; injection he with a b; exact a.symm
            ·rw [hS] at he; injection he with he; injection he with a b; exact a.symm
            ·rw [hS, nExp_two] at he
             split at he
             ·split at he
              ·split at he
               ·cases he
               ·injection he with he; injection he with a b; exact a.symm
              ·injection he with he; injection he with a b; exact a.symm
             ·injection he with he; injection he with a b; exact a.symm
           subst h2
           split at h
           ·injection h with h
            injection h with a b
            rcases hS : s.drop (n1 + n2) with _ | ⟨c, r⟩
            ·rw [hS] at a; cases a
            ·rw [hS, nSuf_cons] at a
             split at a <;> cases a
           ·cases h
        exact this _ _ _ hb
       ·cases hb
def fieldI (bs : List UInt8) (k : Nat) : Option (TT × Nat) := match bs.drop k with
 | [] => none
 | c :: r => if c.toNat = 91 then typeT bs k else if identT false (c :: r) ≠ 0 then some (tokT bs k 2 (identT false (c :: r)) 1)
  else match numT (c :: r) with
   | none => none
   | some x => if x.neg = false ∧ x.kind = 0 ∧ tenV 0 (numS x (c :: r)) ≤ 2147483647 then some (tokT bs k 2 x.size 3) else none
theorem fieldT_eq (bs : List UInt8) (k : Nat) : fieldT bs k = (fieldI bs k).map (sepT bs) := by
 unfold fieldT fieldI
 rcases bs.drop k with _ | ⟨c, r⟩
 ·rfl
 ·rfl
end Go.Proofs.YtgdnpnipahegaaaGreatDoor
