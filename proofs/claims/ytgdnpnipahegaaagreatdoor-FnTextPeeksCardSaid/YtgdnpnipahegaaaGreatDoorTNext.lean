/-
  The package's reader of the text form, walked: the next token.
-/
import Derived.Test.YtgdnpnipahegaaaGreatDoorTField
import Derived.Test.YtgdnpnipahegaaaGreatDoorTScalar
import Derived.Test.YtgdnpnipahegaaaGreatDoorJH
namespace Go.Proofs.YtgdnpnipahegaaaGreatDoor
open Go.ChangeShapes Go.WideShapes Go.ChangeAt Go.RowKit

theorem pf_field : PlainFn Tryz.prog 41 := ⟨_, Tryz.func41, by kernel_rfl, by kernel_rfl⟩
theorem pf_scalar : PlainFn Tryz.prog 43 := ⟨_, Tryz.func43, by kernel_rfl, by kernel_rfl⟩
theorem pf_okind : PlainFn Tryz.prog 44 := ⟨_, Tryz.func44, by kernel_rfl, by kernel_rfl⟩
theorem pf_push : PlainFn Tryz.prog 42 := ⟨_, Tryz.func42, by kernel_rfl, by kernel_rfl⟩
theorem pf_pop : PlainFn Tryz.prog 45 := ⟨_, Tryz.func45, by kernel_rfl, by kernel_rfl⟩
theorem pf_other : PlainFn Tryz.prog 46 := ⟨_, Tryz.func46, by kernel_rfl, by kernel_rfl⟩
theorem y_lookup {N : Nat} {D : List Deferred} {a : Act} {l : List (Nat × Value)} {L rest : List Oper} {Q : Exit → Act → World → Prop} {w : World} {d : Nat} {ty : TypeId} {pos : String} {af : Array Edge} {m x : Operand} {b k : Nat} (H : Has N D a l)
    (hm : ev l m = some (.map (some b))) (hx : ev l x = some (.int .u8 (k : Int))) (hr : (Instr.lookup 72 (.map (some b)) (.int .u8 (k : Int)) false).run Tryz.prog w = .ok (.int .u8 (otherT k : Int)) w) (hd : Nat.blt d N = true)
    (h : ∀ a, Has N D a ((d, .int .u8 (otherT k : Int)) :: l) → wpList Tryz.prog L.toArray Q rest a w) : wpList Tryz.prog L.toArray Q (⟨some d, .lookup 72 m x false, ty, pos, af, none⟩ :: rest) a w :=
  y_wp H hd (by have h1 := H.ev hm; have h2 := H.ev hx; simp only [execOp, h1, h2, hr, Result.andThen, Sem.run_bind]; rfl) h
theorem DStep.thenRow {p q : Nat} {v1 v2 : Value} {w w1 w2 : World} (h : DStep p v1 w v2 w1) (hg : w1.grownBy w2 (some q)) (hq : w.heap.size ≤ q) : DStep p v1 w v2 w2 :=
  ⟨hg.os.trans h.os, hg.tape.trans h.tape, hg.output.trans h.output, Nat.le_trans h.size hg.size, fun k hk h1 h2 => (hg.block k (Nat.lt_of_lt_of_le hk h.size) (fun e => by injection e with e; omega)).trans (h.block k hk h1 h2), h.lies⟩
variable {B p g : Nat} {bs : List UInt8} {vr ve vst vo vi : Value} {s : DT} {w : World}
theorem DW.grownOther {q : Nat} {w' : World} (h : DW B p g bs vr ve vst vo vi s w) (hg : w.grownBy w' (some q)) (h1 : p ≠ q) (h2 : g ≠ q) (h3 : vst.ownBlock ≠ some q) (h4 : 9 ≤ q) : DW B p g bs vr ve vst vo vi s w' :=
  h.kept hg.size (hg.block p h.lt (fun e => by injection e with e; exact h1 e)) (hg.block g h.gl (fun e => by injection e with e; exact h2 e)) (World.ownsRow.kept h.own hg (.inr h3)) (fun k hk h9 => hg.block k hk (fun e => by injection e with e; omega))
def NextRes (B p g : Nat) (bs : List UInt8) (vr ve vst vo : Value) (s : DT) (w : World) (o : Option (TT × List UInt8 × Nat)) (e : Ending) (w' : World) : Prop := match o with
  | none => (∃ t x, e = .returned (.tuple #[noTok, .iface t x])) ∧ ∃ vst' vi' s', DW B p g bs vr ve vst' vo vi' s' w' ∧ (s'.peeked = s.peeked ∧ s'.tok = s.tok ∧ s'.bad = s.bad) ∧ DStep p vst w vst' w'
  | some (t, st', k') => ∃ vt vst' vi' s', e = .returned (.tuple #[tokV vt t, .nilIface]) ∧ View w' g vt t.raw ∧ DW B p g bs vr ve vst' vo vi' s' w' ∧ s' = { s with st := st', k := k' } ∧ DStep p vst w vst' w'
set_option maxRecDepth 100000 in
set_option maxHeartbeats 100000000 in
theorem parseNext_any (h : DW B p g bs vr ve vst vo vi s w) (hm : bs.length ≤ 10000000) (last : Nat) (hl9 : last ≤ 9) (hok : StOk s.st) (hlen : s.st.length ≤ 100000000)
    (h4 : last ≠ 4 ∨ openK s.st = 4) (h6 : last ≠ 6 ∨ openK s.st = 6) (h7 : last ≠ 7 ∨ openK s.st ≠ 6) (h9k : last ≠ 9 ∨ openK s.st ≠ 6) :
    Calls Tryz.prog 28 #[.pointer (some ⟨p, 0, none⟩), .int .u8 (last : Int)] w (NextRes B p g bs vr ve vst vo s w (nextT bs last s.st s.k)) := by
 suffices key : ∀ Z, Hid (nextT bs last s.st s.k = Z) → Calls Tryz.prog 28 #[.pointer (some ⟨p, 0, none⟩), .int .u8 (last : Int)] w (NextRes B p g bs vr ve vst vo s w Z) from key _ (hid rfl)
 intro Z HZ
 have hlp := h.lt
 have hgl := h.gl
 have hgp : g ≠ p := h.gp
 have HO := hid h.ownLt
 have h9 : 9 ≤ w.heap.size := by have := h.base; have := h.b9; omega
 have hle := h.le
 have hlk : (bs.drop s.k).length = bs.length - s.k := List.length_drop
 have hg0 : w.grownBy w (some p) := grownBy_below (Below.refl _ _) _
 have hs0 := DStep.refl p vst w
 refine enter2 (M := 508) Tryz.func28 rfl rfl rfl fun a H => ?_
 refine y_seq fun K1 hK1 => ?_
 refine y_reg ?_
 obtain ⟨q2, hq2⟩ : ∃ q, q = w.heap.size := ⟨_, rfl⟩
 refine y_allocRow alloc_tok H rfl fun w2 hr2 hb2 hs2 a H => ?_
 rw [← hq2] at H hr2
 have hz3 := Below.size hb2
 have hd4 := DW.below h hb2
 have hs5 := DStep.trans hs0 (DStep.of_below hb2)
 refine y_assign H rfl rfl fun a H => wpList_nil (then_normal (hK1 _ _ ?_))
 replace H := H.k4 0 1 4 5 rfl rfl rfl rfl
 refine y_seq fun K6 hK6 => ?_
 have hov : vst.ownBlock ≠ some q2 := fun e => by have := HO.out _ e; omega
 refine y_reg ?_
 refine y_move H rfl rfl fun a H => y_call pf_dconsume H rfl rfl (Calls.mono (consume_any _ 0 _ hd4 (by omega) (by omega)) ?_)
 rintro e w7 ⟨rfl, vi7, hd7, hg7⟩
 refine ⟨_, rfl, fun a H => ?_⟩
 have hz8 := World.grownBy.size hg7
 have hr9 := RowAt.grown hr2 hg7 (by omega) (by omega)
 have hs10 := DStep.trans hs5 (DStep.of_grown hg7)
 generalize hs1 : ({ s with k := goT bs s.k 0 } : DT) = s1 at hd7
 have hst1 : s1.st = s.st := by rw [← hs1]
 have hk1 : s1.k = goT bs s.k 0 := by rw [← hs1]
 have hp1 : s1.peeked = s.peeked ∧ s1.tok = s.tok ∧ s1.bad = s.bad := by rw [← hs1]; exact ⟨rfl, rfl, rfl⟩
 have HZ1 : Hid (nextB bs last s1.st s1.k = Z) := hid (by rw [hst1, hk1, ← nextB_eq]; exact HZ.out)
 have hok1 : StOk s1.st := by rw [hst1]; exact hok
 have hlen1 : s1.st.length ≤ 100000000 := by rw [hst1]; omega
 rw [← hst1] at h4 h6 h7 h9k
 have hcl := open_close s1.st
 have hle1 : s1.k ≤ bs.length := hd7.le
 refine wpList_nil (then_normal (hK6 _ _ ?_))
 replace H := H.k4 0 1 4 5 rfl rfl rfl rfl
 refine y_seq fun K11 hK11 => ?_
 refine y_reg ?_
 refine y_assign H rfl rfl fun a H => wpList_nil (then_normal (hK11 _ _ ?_))
 replace H := H.k5 0 1 4 5 6 rfl rfl rfl rfl rfl
 refine y_seq fun K12 hK12 => ?_
 refine y_seq fun K13 hK13 => ?_
 have Hs14 := H
 rcases hbk : bs.drop s1.k with _ | ⟨c, r⟩
 ·have H := Hs14
  have hlI : ([] : List UInt8).length = 0 := rfl
  refine y_reg ?_
  refine y_move H rfl rfl fun a H => y_nilCheck H rfl rfl fun a H => y_field fld_in H rfl rfl fun a H => ?_
  have hvI15 : View w7 g _ (([] : List UInt8)) := (DW.inn hd7).eq hbk
  refine y_load one22 H rfl (DW.c10 hd7).1 rfl fun a H => y_len Tryz.underlying22 H rfl hvI15 rfl fun a H => y_eql (b := true) H rfl rfl (ieq_t (by omega)) rfl fun a H => wpList_nil (then_normal (hK13 _ _ ?_))
  replace H := H.k6 0 1 4 5 6 36 rfl rfl rfl rfl rfl rfl
  refine y_ift H rfl ?_
  refine y_reg ?_
  refine y_assign H rfl rfl fun a H => wpList_nil (then_normal (hK12 _ _ ?_))
  replace H := H.k5 0 1 4 5 6 rfl rfl rfl rfl rfl
  refine y_seq fun K16 hK16 => ?_
  refine y_seq fun K17 hK17 => ?_
  refine y_reg ?_
  refine y_move H rfl rfl fun a H => wpList_nil (then_normal (hK17 _ _ ?_))
  replace H := H.k6 0 1 4 5 6 37 rfl rfl rfl rfl rfl rfl
  refine wp_block ?_
  refine y_seq fun K18 hK18 => ?_
  refine y_reg ?_
  by_cases q19 : (((last : Nat) : Int)) = ((1 : Int))
  ·refine y_eql (b := true) H rfl rfl (ieq_t (by omega)) rfl fun a H => y_assign H rfl rfl fun a H => wpList_nil (then_normal (hK18 _ _ ?_))
   replace H := H.k7 0 1 4 5 6 37 38 rfl rfl rfl rfl rfl rfl rfl
   refine y_ift H rfl ?_
   refine y_seq fun K20 hK20 => ?_
   refine y_reg ?_
   refine y_move H rfl rfl fun a H => y_call pf_ctoken H rfl rfl (Calls.mono (consumeToken_any _ 1 0 0 w7 hd7 (by show s1.k + _ ≤ bs.length; omega) (by omega)) ?_)
   rintro e w21 ⟨vt21, vi21, rfl, hvt21, hd21, hgc21⟩
   have Hs22 := H
   obtain ⟨ao21, n21, c21, rfl⟩ := View.slice3 hvt21
   have H := Hs22
   refine ⟨_, rfl, fun a H => ?_⟩
   have hz23 := World.grownBy.size hgc21
   have hr24 := RowAt.grown hr9 hgc21 (by omega) (by omega)
   have hs25 := DStep.trans hs10 (DStep.of_grown hgc21)
   refine y_storeRow (vs := [_, _, _, _, _, _]) H rfl rfl hr24 rfl (tok_size' _ _ _ _ _ _) (by simp [Value.oneCell']) fun w26 hr26 hg26 => ?_
   have hz27 := World.grownBy.size hg26
   have hv28 := View.kept hvt21 (World.grownBy.block hg26 g (by omega) (fun e => by injection e with e; omega))
   have hd29 := DW.grownOther hd21 hg26 (by omega) (by omega) hov (by omega)
   have hs30 := DStep.thenRow hs25 hg26 (by omega)
   refine y_assign H rfl rfl fun a H => wpList_nil (then_normal (hK20 _ _ ?_))
   replace H := H.k5 0 1 4 5 6 rfl rfl rfl rfl rfl
   refine wp_ret (in_ret (then_ret (?_)))
   refine ret2 (by rfl) H rfl rfl hr26 ?_
   rw [show Z = some ((tokT bs s1.k 1 0 0).1, s1.st, (tokT bs s1.k 1 0 0).2) from by rw [← HZ1.out, nextB_eof (by omega)]; rfl]
   exact ⟨_, _, _, _, rfl, hv28, hd29, by first | (rw [← hs1]; rfl) | rw [← hs1], hs30⟩
  ·refine y_eql (b := false) H rfl rfl (ieq_f (by omega)) rfl fun a H => y_assign H rfl rfl fun a H => wpList_nil (then_normal (hK18 _ _ ?_))
   replace H := H.k7 0 1 4 5 6 37 38 rfl rfl rfl rfl rfl rfl rfl
   refine y_iff H rfl ?_
   refine y_seq fun K31 hK31 => ?_
   refine y_reg ?_
   by_cases q32 : (((last : Nat) : Int)) = ((0 : Int))
   ·refine y_eql (b := true) H rfl rfl (ieq_t (by omega)) rfl fun a H => y_assign H rfl rfl fun a H => wpList_nil (then_normal (hK31 _ _ ?_))
    replace H := H.k7 0 1 4 5 6 37 42 rfl rfl rfl rfl rfl rfl rfl
    refine y_ift H rfl ?_
    refine y_seq fun K33 hK33 => ?_
    refine y_seq fun K34 hK34 => ?_
    refine y_reg ?_
    refine y_move H rfl rfl fun a H => wpList_nil (then_normal (hK34 _ _ ?_))
    replace H := H.k6 0 1 4 5 6 44 rfl rfl rfl rfl rfl rfl
    refine y_ift H rfl ?_
    refine y_seq fun K35 hK35 => ?_
    refine y_reg ?_
    refine y_move H rfl rfl fun a H => y_call pf_ctoken H rfl rfl (Calls.mono (consumeToken_any _ 1 0 0 w7 hd7 (by show s1.k + _ ≤ bs.length; omega) (by omega)) ?_)
    rintro e w36 ⟨vt36, vi36, rfl, hvt36, hd36, hgc36⟩
    have Hs37 := H
    obtain ⟨ao36, n36, c36, rfl⟩ := View.slice3 hvt36
    have H := Hs37
    refine ⟨_, rfl, fun a H => ?_⟩
    have hz38 := World.grownBy.size hgc36
    have hr39 := RowAt.grown hr9 hgc36 (by omega) (by omega)
    have hs40 := DStep.trans hs10 (DStep.of_grown hgc36)
    refine y_storeRow (vs := [_, _, _, _, _, _]) H rfl rfl hr39 rfl (tok_size' _ _ _ _ _ _) (by simp [Value.oneCell']) fun w41 hr41 hg41 => ?_
    have hz42 := World.grownBy.size hg41
    have hv43 := View.kept hvt36 (World.grownBy.block hg41 g (by omega) (fun e => by injection e with e; omega))
    have hd44 := DW.grownOther hd36 hg41 (by omega) (by omega) hov (by omega)
    have hs45 := DStep.thenRow hs40 hg41 (by omega)
    refine y_assign H rfl rfl fun a H => wpList_nil (then_normal (hK35 _ _ ?_))
    replace H := H.k5 0 1 4 5 6 rfl rfl rfl rfl rfl
    refine wp_ret (then_ret (in_ret (then_ret (?_))))
    refine ret2 (by rfl) H rfl rfl hr41 ?_
    rw [show Z = some ((tokT bs s1.k 1 0 0).1, s1.st, (tokT bs s1.k 1 0 0).2) from by rw [← HZ1.out, nextB_top0 (by omega), top_nil false hbk]; rfl]
    exact ⟨_, _, _, _, rfl, hv43, hd44, by first | (rw [← hs1]; rfl) | rw [← hs1], hs45⟩
   ·refine y_eql (b := false) H rfl rfl (ieq_f (by omega)) rfl fun a H => y_assign H rfl rfl fun a H => wpList_nil (then_normal (hK31 _ _ ?_))
    replace H := H.k7 0 1 4 5 6 37 42 rfl rfl rfl rfl rfl rfl rfl
    refine y_iff H rfl ?_
    refine y_seq fun K46 hK46 => ?_
    refine y_reg ?_
    by_cases q47 : (((last : Nat) : Int)) = ((2 : Int))
    ·refine y_eql (b := true) H rfl rfl (ieq_t (by omega)) rfl fun a H => y_assign H rfl rfl fun a H => wpList_nil (then_normal (hK46 _ _ ?_))
     replace H := H.k7 0 1 4 5 6 37 51 rfl rfl rfl rfl rfl rfl rfl
     refine y_ift H rfl ?_
     refine y_seq fun K48 hK48 => ?_
     refine y_seq fun K49 hK49 => ?_
     refine y_reg ?_
     refine y_move H rfl rfl fun a H => wpList_nil (then_normal (hK49 _ _ ?_))
     replace H := H.k6 0 1 4 5 6 53 rfl rfl rfl rfl rfl rfl
     refine y_ift H rfl ?_
     refine y_seq fun K50 hK50 => ?_
     obtain ⟨tE, xE, hcE⟩ := (DW.glob hd7).eof
     refine d_begin (fun w' => w'.cell? ⟨0, 0, none⟩ = some (.iface tE xE)) 4 mixedP rfl ?_
     have hbd51 : Below w7.heap.size w7 w7.drew := (Below.refl _ _).drew
     generalize w7.drew = wd51 at hbd51 ⊢
     have hz52 := Below.size hbd51
     have hr53 := RowAt.below hr9 (by omega) hbd51
     have hd54 := DW.below hd7 hbd51
     have hs55 := DStep.trans hs10 (DStep.of_below hbd51)
     have hcE56 := (Below.cell hbd51 (World.block_lt_of_cell? _ _ hcE)).trans hcE
     refine d_take 0 H rfl (by kernel_rfl) (by kernel_rfl) (by kernel_rfl) (r_bld built_tok0 H rfl) hcE56 rfl fun a H => d_take 1 H rfl (by kernel_rfl) (by kernel_rfl) (by kernel_rfl) (r_load oneErr H rfl (fun _ h => h)) hcE56 rfl fun a H => ?_
     refine d_one 2 (by kernel_rfl) rfl rfl ?_
     refine y_storeRow (vs := [_, _, _, _, _, _]) H rfl rfl hr53 rfl (tok_size' _ _ _ _ _ _) (by simp [Value.oneCell']) fun w57 hr57 hg57 => ?_
     have hz58 := World.grownBy.size hg57
     have hd59 := DW.grownOther hd54 hg57 (by omega) (by omega) hov (by omega)
     have hs60 := DStep.thenRow hs55 hg57 (by omega)
     have hcE61 := grown_cell hg57 hcE56 (by show 0 ≠ _; omega)
     refine wpList_nil ⟨hcE61, ?_⟩
     refine d_take 3 H rfl (by kernel_rfl) (by kernel_rfl) (by kernel_rfl) (r_assign H rfl) hcE61 rfl fun a H => ?_
     refine d_done (by kernel_rfl) (then_normal (hK50 _ _ ?_))
     replace H := H.k5 0 1 4 5 6 rfl rfl rfl rfl rfl
     refine wp_ret (then_ret (in_ret (then_ret (?_))))
     refine ret2 (by rfl) H rfl rfl hr57 ?_
     rw [show Z = none from by rw [← HZ1.out, nextB_val2 (by omega), val_nil true false hbk]]
     exact ⟨⟨_, _, rfl⟩, ⟨_, _, _, hd59, hp1, hs60⟩⟩
    ·refine y_eql (b := false) H rfl rfl (ieq_f (by omega)) rfl fun a H => y_assign H rfl rfl fun a H => wpList_nil (then_normal (hK46 _ _ ?_))
     replace H := H.k7 0 1 4 5 6 37 51 rfl rfl rfl rfl rfl rfl rfl
     refine y_iff H rfl ?_
     refine y_seq fun K62 hK62 => ?_
     refine y_reg ?_
     by_cases q63 : (((last : Nat) : Int)) = ((3 : Int))
     ·refine y_eql (b := true) H rfl rfl (ieq_t (by omega)) rfl fun a H => y_assign H rfl rfl fun a H => wpList_nil (then_normal (hK62 _ _ ?_))
      replace H := H.k7 0 1 4 5 6 37 82 rfl rfl rfl rfl rfl rfl rfl
      refine y_ift H rfl ?_
      refine y_seq fun K64 hK64 => ?_
      refine y_reg ?_
      refine y_move H rfl rfl fun a H => y_call pf_okind H rfl rfl (Calls.mono (openKind_any hd7 hok1 hlen1) ?_)
      rintro e w65 ⟨rfl, hb65⟩
      refine ⟨_, rfl, fun a H => ?_⟩
      have hz66 := Below.size hb65
      have hr67 := RowAt.below hr9 (by omega) hb65
      have hd68 := DW.below hd7 hb65
      have hs69 := DStep.trans hs10 (DStep.of_below hb65)
      refine y_move H rfl rfl fun a H => y_extract H rfl rfl rfl fun a H => y_extract H rfl rfl rfl fun a H => y_assign H rfl rfl fun a H => y_assign H rfl rfl fun a H => wpList_nil (then_normal (hK64 _ _ ?_))
      replace H := H.k7 0 1 4 5 6 8 9 rfl rfl rfl rfl rfl rfl rfl
      refine y_seq fun K70 hK70 => ?_
      refine y_reg ?_
      refine y_move H rfl rfl fun a H => wpList_nil (then_normal (hK70 _ _ ?_))
      replace H := H.k7 0 1 4 5 6 9 89 rfl rfl rfl rfl rfl rfl rfl
      refine wp_block ?_
      refine y_seq fun K71 hK71 => ?_
      refine y_reg ?_
      by_cases q72 : (((openK s1.st : Nat) : Int)) = ((0 : Int))
      ·refine y_eql (b := true) H rfl rfl (ieq_t (by omega)) rfl fun a H => y_assign H rfl rfl fun a H => wpList_nil (then_normal (hK71 _ _ ?_))
       replace H := H.k8 0 1 4 5 6 9 89 90 rfl rfl rfl rfl rfl rfl rfl rfl
       refine y_ift H rfl ?_
       refine y_seq fun K73 hK73 => ?_
       refine y_seq fun K74 hK74 => ?_
       refine y_reg ?_
       refine y_move H rfl rfl fun a H => wpList_nil (then_normal (hK74 _ _ ?_))
       replace H := H.k6 0 1 4 5 6 92 rfl rfl rfl rfl rfl rfl
       refine y_ift H rfl ?_
       refine y_seq fun K75 hK75 => ?_
       refine y_reg ?_
       refine y_move H rfl rfl fun a H => y_call pf_ctoken H rfl rfl (Calls.mono (consumeToken_any _ 1 0 0 w65 hd68 (by show s1.k + _ ≤ bs.length; omega) (by omega)) ?_)
       rintro e w76 ⟨vt76, vi76, rfl, hvt76, hd76, hgc76⟩
       have Hs77 := H
       obtain ⟨ao76, n76, c76, rfl⟩ := View.slice3 hvt76
       have H := Hs77
       refine ⟨_, rfl, fun a H => ?_⟩
       have hz78 := World.grownBy.size hgc76
       have hr79 := RowAt.grown hr67 hgc76 (by omega) (by omega)
       have hs80 := DStep.trans hs69 (DStep.of_grown hgc76)
       refine y_storeRow (vs := [_, _, _, _, _, _]) H rfl rfl hr79 rfl (tok_size' _ _ _ _ _ _) (by simp [Value.oneCell']) fun w81 hr81 hg81 => ?_
       have hz82 := World.grownBy.size hg81
       have hv83 := View.kept hvt76 (World.grownBy.block hg81 g (by omega) (fun e => by injection e with e; omega))
       have hd84 := DW.grownOther hd76 hg81 (by omega) (by omega) hov (by omega)
       have hs85 := DStep.thenRow hs80 hg81 (by omega)
       refine y_assign H rfl rfl fun a H => wpList_nil (then_normal (hK75 _ _ ?_))
       replace H := H.k5 0 1 4 5 6 rfl rfl rfl rfl rfl
       refine wp_ret (then_ret (in_ret (in_ret (then_ret (?_)))))
       refine ret2 (by rfl) H rfl rfl hr81 ?_
       rw [show Z = some ((tokT bs s1.k 1 0 0).1, s1.st, (tokT bs s1.k 1 0 0).2) from by rw [← HZ1.out, nextB_top3 (by omega) (by omega), top_nil true hbk]; rfl]
       exact ⟨_, _, _, _, rfl, hv83, hd84, by first | (rw [← hs1]; rfl) | rw [← hs1], hs85⟩
      ·refine y_eql (b := false) H rfl rfl (ieq_f (by omega)) rfl fun a H => y_assign H rfl rfl fun a H => wpList_nil (then_normal (hK71 _ _ ?_))
       replace H := H.k8 0 1 4 5 6 9 89 90 rfl rfl rfl rfl rfl rfl rfl rfl
       refine y_iff H rfl ?_
       refine y_seq fun K86 hK86 => ?_
       refine y_reg ?_
       by_cases q87 : (((openK s1.st : Nat) : Int)) = ((4 : Int))
       ·refine y_eql (b := true) H rfl rfl (ieq_t (by omega)) rfl fun a H => y_assign H rfl rfl fun a H => wpList_nil (then_normal (hK86 _ _ ?_))
        replace H := H.k8 0 1 4 5 6 9 89 113 rfl rfl rfl rfl rfl rfl rfl rfl
        refine y_ift H rfl ?_
        refine y_seq fun K88 hK88 => ?_
        refine y_seq fun K89 hK89 => ?_
        refine y_reg ?_
        refine y_move H rfl rfl fun a H => wpList_nil (then_normal (hK89 _ _ ?_))
        replace H := H.k7 0 1 4 5 6 9 115 rfl rfl rfl rfl rfl rfl rfl
        refine y_ift H rfl ?_
        refine y_seq fun K90 hK90 => ?_
        obtain ⟨tE, xE, hcE⟩ := (DW.glob hd68).eof
        refine d_begin (fun w' => w'.cell? ⟨0, 0, none⟩ = some (.iface tE xE)) 4 mixedP rfl ?_
        have hbd91 : Below w65.heap.size w65 w65.drew := (Below.refl _ _).drew
        generalize w65.drew = wd91 at hbd91 ⊢
        have hz92 := Below.size hbd91
        have hr93 := RowAt.below hr67 (by omega) hbd91
        have hd94 := DW.below hd68 hbd91
        have hs95 := DStep.trans hs69 (DStep.of_below hbd91)
        have hcE96 := (Below.cell hbd91 (World.block_lt_of_cell? _ _ hcE)).trans hcE
        refine d_take 0 H rfl (by kernel_rfl) (by kernel_rfl) (by kernel_rfl) (r_bld built_tok0 H rfl) hcE96 rfl fun a H => d_take 1 H rfl (by kernel_rfl) (by kernel_rfl) (by kernel_rfl) (r_load oneErr H rfl (fun _ h => h)) hcE96 rfl fun a H => ?_
        refine d_one 2 (by kernel_rfl) rfl rfl ?_
        refine y_storeRow (vs := [_, _, _, _, _, _]) H rfl rfl hr93 rfl (tok_size' _ _ _ _ _ _) (by simp [Value.oneCell']) fun w97 hr97 hg97 => ?_
        have hz98 := World.grownBy.size hg97
        have hd99 := DW.grownOther hd94 hg97 (by omega) (by omega) hov (by omega)
        have hs100 := DStep.thenRow hs95 hg97 (by omega)
        have hcE101 := grown_cell hg97 hcE96 (by show 0 ≠ _; omega)
        refine wpList_nil ⟨hcE101, ?_⟩
        refine d_take 3 H rfl (by kernel_rfl) (by kernel_rfl) (by kernel_rfl) (r_assign H rfl) hcE101 rfl fun a H => ?_
        refine d_done (by kernel_rfl) (then_normal (hK90 _ _ ?_))
        replace H := H.k6 0 1 4 5 6 9 rfl rfl rfl rfl rfl rfl
        refine wp_ret (then_ret (in_ret (in_ret (then_ret (?_)))))
        refine ret2 (by rfl) H rfl rfl hr97 ?_
        rw [show Z = none from by rw [← HZ1.out, nextB_msg3 (by omega) (by omega), msg_nil true hbk]]
        exact ⟨⟨_, _, rfl⟩, ⟨_, _, _, hd99, hp1, hs100⟩⟩
       ·refine y_eql (b := false) H rfl rfl (ieq_f (by omega)) rfl fun a H => y_assign H rfl rfl fun a H => wpList_nil (then_normal (hK86 _ _ ?_))
        replace H := H.k8 0 1 4 5 6 9 89 113 rfl rfl rfl rfl rfl rfl rfl rfl
        refine y_iff H rfl ?_
        refine y_seq fun K102 hK102 => ?_
        refine y_reg ?_
        refine y_eql (b := true) H rfl rfl (ieq_t (by omega)) rfl fun a H => y_assign H rfl rfl fun a H => wpList_nil (then_normal (hK102 _ _ ?_))
        replace H := H.k6 0 1 4 5 6 155 rfl rfl rfl rfl rfl rfl
        refine y_ift H rfl ?_
        refine y_seq fun K103 hK103 => ?_
        refine y_seq fun K104 hK104 => ?_
        refine y_reg ?_
        refine y_move H rfl rfl fun a H => wpList_nil (then_normal (hK104 _ _ ?_))
        replace H := H.k6 0 1 4 5 6 157 rfl rfl rfl rfl rfl rfl
        refine y_ift H rfl ?_
        refine y_seq fun K105 hK105 => ?_
        obtain ⟨tE, xE, hcE⟩ := (DW.glob hd68).eof
        refine d_begin (fun w' => w'.cell? ⟨0, 0, none⟩ = some (.iface tE xE)) 4 mixedP rfl ?_
        have hbd106 : Below w65.heap.size w65 w65.drew := (Below.refl _ _).drew
        generalize w65.drew = wd106 at hbd106 ⊢
        have hz107 := Below.size hbd106
        have hr108 := RowAt.below hr67 (by omega) hbd106
        have hd109 := DW.below hd68 hbd106
        have hs110 := DStep.trans hs69 (DStep.of_below hbd106)
        have hcE111 := (Below.cell hbd106 (World.block_lt_of_cell? _ _ hcE)).trans hcE
        refine d_take 0 H rfl (by kernel_rfl) (by kernel_rfl) (by kernel_rfl) (r_bld built_tok0 H rfl) hcE111 rfl fun a H => d_take 1 H rfl (by kernel_rfl) (by kernel_rfl) (by kernel_rfl) (r_load oneErr H rfl (fun _ h => h)) hcE111 rfl fun a H => ?_
        refine d_one 2 (by kernel_rfl) rfl rfl ?_
        refine y_storeRow (vs := [_, _, _, _, _, _]) H rfl rfl hr108 rfl (tok_size' _ _ _ _ _ _) (by simp [Value.oneCell']) fun w112 hr112 hg112 => ?_
        have hz113 := World.grownBy.size hg112
        have hd114 := DW.grownOther hd109 hg112 (by omega) (by omega) hov (by omega)
        have hs115 := DStep.thenRow hs110 hg112 (by omega)
        have hcE116 := grown_cell hg112 hcE111 (by show 0 ≠ _; omega)
        refine wpList_nil ⟨hcE116, ?_⟩
        refine d_take 3 H rfl (by kernel_rfl) (by kernel_rfl) (by kernel_rfl) (r_assign H rfl) hcE116 rfl fun a H => ?_
        refine d_done (by kernel_rfl) (then_normal (hK105 _ _ ?_))
        replace H := H.k5 0 1 4 5 6 rfl rfl rfl rfl rfl
        refine wp_ret (then_ret (in_ret (in_ret (then_ret (?_)))))
        refine ret2 (by rfl) H rfl rfl hr112 ?_
        rw [show Z = none from by rw [← HZ1.out, nextB_list3 (by omega) (by omega), list_nil hbk]]
        exact ⟨⟨_, _, rfl⟩, ⟨_, _, _, hd114, hp1, hs115⟩⟩
     ·refine y_eql (b := false) H rfl rfl (ieq_f (by omega)) rfl fun a H => y_assign H rfl rfl fun a H => wpList_nil (then_normal (hK62 _ _ ?_))
      replace H := H.k7 0 1 4 5 6 37 82 rfl rfl rfl rfl rfl rfl rfl
      refine y_iff H rfl ?_
      refine y_seq fun K117 hK117 => ?_
      refine y_reg ?_
      by_cases q118 : (((last : Nat) : Int)) = ((4 : Int))
      ·refine y_eql (b := true) H rfl rfl (ieq_t (by omega)) rfl fun a H => y_assign H rfl rfl fun a H => wpList_nil (then_normal (hK117 _ _ ?_))
       replace H := H.k7 0 1 4 5 6 37 183 rfl rfl rfl rfl rfl rfl rfl
       refine y_ift H rfl ?_
       refine y_seq fun K119 hK119 => ?_
       refine y_seq fun K120 hK120 => ?_
       refine y_reg ?_
       refine y_move H rfl rfl fun a H => wpList_nil (then_normal (hK120 _ _ ?_))
       replace H := H.k6 0 1 4 5 6 185 rfl rfl rfl rfl rfl rfl
       refine y_ift H rfl ?_
       refine y_seq fun K121 hK121 => ?_
       obtain ⟨tE, xE, hcE⟩ := (DW.glob hd7).eof
       refine d_begin (fun w' => w'.cell? ⟨0, 0, none⟩ = some (.iface tE xE)) 4 mixedP rfl ?_
       have hbd122 : Below w7.heap.size w7 w7.drew := (Below.refl _ _).drew
       generalize w7.drew = wd122 at hbd122 ⊢
       have hz123 := Below.size hbd122
       have hr124 := RowAt.below hr9 (by omega) hbd122
       have hd125 := DW.below hd7 hbd122
       have hs126 := DStep.trans hs10 (DStep.of_below hbd122)
       have hcE127 := (Below.cell hbd122 (World.block_lt_of_cell? _ _ hcE)).trans hcE
       refine d_take 0 H rfl (by kernel_rfl) (by kernel_rfl) (by kernel_rfl) (r_bld built_tok0 H rfl) hcE127 rfl fun a H => d_take 1 H rfl (by kernel_rfl) (by kernel_rfl) (by kernel_rfl) (r_load oneErr H rfl (fun _ h => h)) hcE127 rfl fun a H => ?_
       refine d_one 2 (by kernel_rfl) rfl rfl ?_
       refine y_storeRow (vs := [_, _, _, _, _, _]) H rfl rfl hr124 rfl (tok_size' _ _ _ _ _ _) (by simp [Value.oneCell']) fun w128 hr128 hg128 => ?_
       have hz129 := World.grownBy.size hg128
       have hd130 := DW.grownOther hd125 hg128 (by omega) (by omega) hov (by omega)
       have hs131 := DStep.thenRow hs126 hg128 (by omega)
       have hcE132 := grown_cell hg128 hcE127 (by show 0 ≠ _; omega)
       refine wpList_nil ⟨hcE132, ?_⟩
       refine d_take 3 H rfl (by kernel_rfl) (by kernel_rfl) (by kernel_rfl) (r_assign H rfl) hcE132 rfl fun a H => ?_
       refine d_done (by kernel_rfl) (then_normal (hK121 _ _ ?_))
       replace H := H.k5 0 1 4 5 6 rfl rfl rfl rfl rfl
       refine wp_ret (then_ret (in_ret (then_ret (?_))))
       refine ret2 (by rfl) H rfl rfl hr128 ?_
       rw [show Z = none from by rw [← HZ1.out, nextB_msg4 (by omega), msg_nil false hbk]]
       exact ⟨⟨_, _, rfl⟩, ⟨_, _, _, hd130, hp1, hs131⟩⟩
      ·refine y_eql (b := false) H rfl rfl (ieq_f (by omega)) rfl fun a H => y_assign H rfl rfl fun a H => wpList_nil (then_normal (hK117 _ _ ?_))
       replace H := H.k7 0 1 4 5 6 37 183 rfl rfl rfl rfl rfl rfl rfl
       refine y_iff H rfl ?_
       refine y_seq fun K133 hK133 => ?_
       refine y_reg ?_
       by_cases q134 : (((last : Nat) : Int)) = ((5 : Int))
       ·refine y_eql (b := true) H rfl rfl (ieq_t (by omega)) rfl fun a H => y_assign H rfl rfl fun a H => wpList_nil (then_normal (hK133 _ _ ?_))
        replace H := H.k7 0 1 4 5 6 37 222 rfl rfl rfl rfl rfl rfl rfl
        refine y_ift H rfl ?_
        refine y_seq fun K135 hK135 => ?_
        refine y_reg ?_
        refine y_move H rfl rfl fun a H => y_call pf_okind H rfl rfl (Calls.mono (openKind_any hd7 hok1 hlen1) ?_)
        rintro e w136 ⟨rfl, hb136⟩
        refine ⟨_, rfl, fun a H => ?_⟩
        have hz137 := Below.size hb136
        have hr138 := RowAt.below hr9 (by omega) hb136
        have hd139 := DW.below hd7 hb136
        have hs140 := DStep.trans hs10 (DStep.of_below hb136)
        refine y_move H rfl rfl fun a H => y_extract H rfl rfl rfl fun a H => y_extract H rfl rfl rfl fun a H => y_assign H rfl rfl fun a H => y_assign H rfl rfl fun a H => wpList_nil (then_normal (hK135 _ _ ?_))
        replace H := H.k7 0 1 4 5 6 15 16 rfl rfl rfl rfl rfl rfl rfl
        refine y_seq fun K141 hK141 => ?_
        refine y_reg ?_
        refine y_move H rfl rfl fun a H => wpList_nil (then_normal (hK141 _ _ ?_))
        replace H := H.k7 0 1 4 5 6 16 229 rfl rfl rfl rfl rfl rfl rfl
        refine wp_block ?_
        refine y_seq fun K142 hK142 => ?_
        refine y_reg ?_
        by_cases q143 : (((openK s1.st : Nat) : Int)) = ((0 : Int))
        ·refine y_eql (b := true) H rfl rfl (ieq_t (by omega)) rfl fun a H => y_assign H rfl rfl fun a H => wpList_nil (then_normal (hK142 _ _ ?_))
         replace H := H.k8 0 1 4 5 6 16 229 230 rfl rfl rfl rfl rfl rfl rfl rfl
         refine y_ift H rfl ?_
         refine y_seq fun K144 hK144 => ?_
         refine y_seq fun K145 hK145 => ?_
         refine y_reg ?_
         refine y_move H rfl rfl fun a H => wpList_nil (then_normal (hK145 _ _ ?_))
         replace H := H.k6 0 1 4 5 6 232 rfl rfl rfl rfl rfl rfl
         refine y_ift H rfl ?_
         refine y_seq fun K146 hK146 => ?_
         refine y_reg ?_
         refine y_move H rfl rfl fun a H => y_call pf_ctoken H rfl rfl (Calls.mono (consumeToken_any _ 1 0 0 w136 hd139 (by show s1.k + _ ≤ bs.length; omega) (by omega)) ?_)
         rintro e w147 ⟨vt147, vi147, rfl, hvt147, hd147, hgc147⟩
         have Hs148 := H
         obtain ⟨ao147, n147, c147, rfl⟩ := View.slice3 hvt147
         have H := Hs148
         refine ⟨_, rfl, fun a H => ?_⟩
         have hz149 := World.grownBy.size hgc147
         have hr150 := RowAt.grown hr138 hgc147 (by omega) (by omega)
         have hs151 := DStep.trans hs140 (DStep.of_grown hgc147)
         refine y_storeRow (vs := [_, _, _, _, _, _]) H rfl rfl hr150 rfl (tok_size' _ _ _ _ _ _) (by simp [Value.oneCell']) fun w152 hr152 hg152 => ?_
         have hz153 := World.grownBy.size hg152
         have hv154 := View.kept hvt147 (World.grownBy.block hg152 g (by omega) (fun e => by injection e with e; omega))
         have hd155 := DW.grownOther hd147 hg152 (by omega) (by omega) hov (by omega)
         have hs156 := DStep.thenRow hs151 hg152 (by omega)
         refine y_assign H rfl rfl fun a H => wpList_nil (then_normal (hK146 _ _ ?_))
         replace H := H.k5 0 1 4 5 6 rfl rfl rfl rfl rfl
         refine wp_ret (then_ret (in_ret (in_ret (then_ret (?_)))))
         refine ret2 (by rfl) H rfl rfl hr152 ?_
         rw [show Z = some ((tokT bs s1.k 1 0 0).1, s1.st, (tokT bs s1.k 1 0 0).2) from by rw [← HZ1.out, nextB_top3 (by omega) (by omega), top_nil true hbk]; rfl]
         exact ⟨_, _, _, _, rfl, hv154, hd155, by first | (rw [← hs1]; rfl) | rw [← hs1], hs156⟩
        ·refine y_eql (b := false) H rfl rfl (ieq_f (by omega)) rfl fun a H => y_assign H rfl rfl fun a H => wpList_nil (then_normal (hK142 _ _ ?_))
         replace H := H.k8 0 1 4 5 6 16 229 230 rfl rfl rfl rfl rfl rfl rfl rfl
         refine y_iff H rfl ?_
         refine y_seq fun K157 hK157 => ?_
         refine y_reg ?_
         by_cases q158 : (((openK s1.st : Nat) : Int)) = ((4 : Int))
         ·refine y_eql (b := true) H rfl rfl (ieq_t (by omega)) rfl fun a H => y_assign H rfl rfl fun a H => wpList_nil (then_normal (hK157 _ _ ?_))
          replace H := H.k8 0 1 4 5 6 16 229 254 rfl rfl rfl rfl rfl rfl rfl rfl
          refine y_ift H rfl ?_
          refine y_seq fun K159 hK159 => ?_
          refine y_seq fun K160 hK160 => ?_
          refine y_reg ?_
          refine y_move H rfl rfl fun a H => wpList_nil (then_normal (hK160 _ _ ?_))
          replace H := H.k7 0 1 4 5 6 16 256 rfl rfl rfl rfl rfl rfl rfl
          refine y_ift H rfl ?_
          refine y_seq fun K161 hK161 => ?_
          obtain ⟨tE, xE, hcE⟩ := (DW.glob hd139).eof
          refine d_begin (fun w' => w'.cell? ⟨0, 0, none⟩ = some (.iface tE xE)) 4 mixedP rfl ?_
          have hbd162 : Below w136.heap.size w136 w136.drew := (Below.refl _ _).drew
          generalize w136.drew = wd162 at hbd162 ⊢
          have hz163 := Below.size hbd162
          have hr164 := RowAt.below hr138 (by omega) hbd162
          have hd165 := DW.below hd139 hbd162
          have hs166 := DStep.trans hs140 (DStep.of_below hbd162)
          have hcE167 := (Below.cell hbd162 (World.block_lt_of_cell? _ _ hcE)).trans hcE
          refine d_take 0 H rfl (by kernel_rfl) (by kernel_rfl) (by kernel_rfl) (r_bld built_tok0 H rfl) hcE167 rfl fun a H => d_take 1 H rfl (by kernel_rfl) (by kernel_rfl) (by kernel_rfl) (r_load oneErr H rfl (fun _ h => h)) hcE167 rfl fun a H => ?_
          refine d_one 2 (by kernel_rfl) rfl rfl ?_
          refine y_storeRow (vs := [_, _, _, _, _, _]) H rfl rfl hr164 rfl (tok_size' _ _ _ _ _ _) (by simp [Value.oneCell']) fun w168 hr168 hg168 => ?_
          have hz169 := World.grownBy.size hg168
          have hd170 := DW.grownOther hd165 hg168 (by omega) (by omega) hov (by omega)
          have hs171 := DStep.thenRow hs166 hg168 (by omega)
          have hcE172 := grown_cell hg168 hcE167 (by show 0 ≠ _; omega)
          refine wpList_nil ⟨hcE172, ?_⟩
          refine d_take 3 H rfl (by kernel_rfl) (by kernel_rfl) (by kernel_rfl) (r_assign H rfl) hcE172 rfl fun a H => ?_
          refine d_done (by kernel_rfl) (then_normal (hK161 _ _ ?_))
          replace H := H.k6 0 1 4 5 6 16 rfl rfl rfl rfl rfl rfl
          refine wp_ret (then_ret (in_ret (in_ret (then_ret (?_)))))
          refine ret2 (by rfl) H rfl rfl hr168 ?_
          rw [show Z = none from by rw [← HZ1.out, nextB_msg3 (by omega) (by omega), msg_nil true hbk]]
          exact ⟨⟨_, _, rfl⟩, ⟨_, _, _, hd170, hp1, hs171⟩⟩
         ·refine y_eql (b := false) H rfl rfl (ieq_f (by omega)) rfl fun a H => y_assign H rfl rfl fun a H => wpList_nil (then_normal (hK157 _ _ ?_))
          replace H := H.k8 0 1 4 5 6 16 229 254 rfl rfl rfl rfl rfl rfl rfl rfl
          refine y_iff H rfl ?_
          refine y_seq fun K173 hK173 => ?_
          refine y_reg ?_
          refine y_eql (b := true) H rfl rfl (ieq_t (by omega)) rfl fun a H => y_assign H rfl rfl fun a H => wpList_nil (then_normal (hK173 _ _ ?_))
          replace H := H.k7 0 1 4 5 6 16 296 rfl rfl rfl rfl rfl rfl rfl
          refine y_ift H rfl ?_
          refine y_seq fun K174 hK174 => ?_
          refine y_seq fun K175 hK175 => ?_
          refine y_reg ?_
          refine y_move H rfl rfl fun a H => wpList_nil (then_normal (hK175 _ _ ?_))
          replace H := H.k7 0 1 4 5 6 16 298 rfl rfl rfl rfl rfl rfl rfl
          refine y_ift H rfl ?_
          refine y_seq fun K176 hK176 => ?_
          obtain ⟨tE, xE, hcE⟩ := (DW.glob hd139).eof
          refine d_begin (fun w' => w'.cell? ⟨0, 0, none⟩ = some (.iface tE xE)) 4 mixedP rfl ?_
          have hbd177 : Below w136.heap.size w136 w136.drew := (Below.refl _ _).drew
          generalize w136.drew = wd177 at hbd177 ⊢
          have hz178 := Below.size hbd177
          have hr179 := RowAt.below hr138 (by omega) hbd177
          have hd180 := DW.below hd139 hbd177
          have hs181 := DStep.trans hs140 (DStep.of_below hbd177)
          have hcE182 := (Below.cell hbd177 (World.block_lt_of_cell? _ _ hcE)).trans hcE
          refine d_take 0 H rfl (by kernel_rfl) (by kernel_rfl) (by kernel_rfl) (r_bld built_tok0 H rfl) hcE182 rfl fun a H => d_take 1 H rfl (by kernel_rfl) (by kernel_rfl) (by kernel_rfl) (r_load oneErr H rfl (fun _ h => h)) hcE182 rfl fun a H => ?_
          refine d_one 2 (by kernel_rfl) rfl rfl ?_
          refine y_storeRow (vs := [_, _, _, _, _, _]) H rfl rfl hr179 rfl (tok_size' _ _ _ _ _ _) (by simp [Value.oneCell']) fun w183 hr183 hg183 => ?_
          have hz184 := World.grownBy.size hg183
          have hd185 := DW.grownOther hd180 hg183 (by omega) (by omega) hov (by omega)
          have hs186 := DStep.thenRow hs181 hg183 (by omega)
          have hcE187 := grown_cell hg183 hcE182 (by show 0 ≠ _; omega)
          refine wpList_nil ⟨hcE187, ?_⟩
          refine d_take 3 H rfl (by kernel_rfl) (by kernel_rfl) (by kernel_rfl) (r_assign H rfl) hcE187 rfl fun a H => ?_
          refine d_done (by kernel_rfl) (then_normal (hK176 _ _ ?_))
          replace H := H.k6 0 1 4 5 6 16 rfl rfl rfl rfl rfl rfl
          refine wp_ret (then_ret (in_ret (in_ret (then_ret (?_)))))
          refine ret2 (by rfl) H rfl rfl hr183 ?_
          rw [show Z = none from by rw [← HZ1.out, nextB_list3 (by omega) (by omega), list_nil hbk]]
          exact ⟨⟨_, _, rfl⟩, ⟨_, _, _, hd185, hp1, hs186⟩⟩
       ·refine y_eql (b := false) H rfl rfl (ieq_f (by omega)) rfl fun a H => y_assign H rfl rfl fun a H => wpList_nil (then_normal (hK133 _ _ ?_))
        replace H := H.k7 0 1 4 5 6 37 222 rfl rfl rfl rfl rfl rfl rfl
        refine y_iff H rfl ?_
        refine y_seq fun K188 hK188 => ?_
        refine y_reg ?_
        by_cases q189 : (((last : Nat) : Int)) = ((6 : Int))
        ·refine y_eql (b := true) H rfl rfl (ieq_t (by omega)) rfl fun a H => y_assign H rfl rfl fun a H => wpList_nil (then_normal (hK188 _ _ ?_))
         replace H := H.k7 0 1 4 5 6 37 325 rfl rfl rfl rfl rfl rfl rfl
         refine y_ift H rfl ?_
         refine y_seq fun K190 hK190 => ?_
         refine y_seq fun K191 hK191 => ?_
         refine y_reg ?_
         refine y_move H rfl rfl fun a H => wpList_nil (then_normal (hK191 _ _ ?_))
         replace H := H.k6 0 1 4 5 6 327 rfl rfl rfl rfl rfl rfl
         refine y_ift H rfl ?_
         refine y_seq fun K192 hK192 => ?_
         obtain ⟨tE, xE, hcE⟩ := (DW.glob hd7).eof
         refine d_begin (fun w' => w'.cell? ⟨0, 0, none⟩ = some (.iface tE xE)) 4 mixedP rfl ?_
         have hbd193 : Below w7.heap.size w7 w7.drew := (Below.refl _ _).drew
         generalize w7.drew = wd193 at hbd193 ⊢
         have hz194 := Below.size hbd193
         have hr195 := RowAt.below hr9 (by omega) hbd193
         have hd196 := DW.below hd7 hbd193
         have hs197 := DStep.trans hs10 (DStep.of_below hbd193)
         have hcE198 := (Below.cell hbd193 (World.block_lt_of_cell? _ _ hcE)).trans hcE
         refine d_take 0 H rfl (by kernel_rfl) (by kernel_rfl) (by kernel_rfl) (r_bld built_tok0 H rfl) hcE198 rfl fun a H => d_take 1 H rfl (by kernel_rfl) (by kernel_rfl) (by kernel_rfl) (r_load oneErr H rfl (fun _ h => h)) hcE198 rfl fun a H => ?_
         refine d_one 2 (by kernel_rfl) rfl rfl ?_
         refine y_storeRow (vs := [_, _, _, _, _, _]) H rfl rfl hr195 rfl (tok_size' _ _ _ _ _ _) (by simp [Value.oneCell']) fun w199 hr199 hg199 => ?_
         have hz200 := World.grownBy.size hg199
         have hd201 := DW.grownOther hd196 hg199 (by omega) (by omega) hov (by omega)
         have hs202 := DStep.thenRow hs197 hg199 (by omega)
         have hcE203 := grown_cell hg199 hcE198 (by show 0 ≠ _; omega)
         refine wpList_nil ⟨hcE203, ?_⟩
         refine d_take 3 H rfl (by kernel_rfl) (by kernel_rfl) (by kernel_rfl) (r_assign H rfl) hcE203 rfl fun a H => ?_
         refine d_done (by kernel_rfl) (then_normal (hK192 _ _ ?_))
         replace H := H.k5 0 1 4 5 6 rfl rfl rfl rfl rfl
         refine wp_ret (then_ret (in_ret (then_ret (?_))))
         refine ret2 (by rfl) H rfl rfl hr199 ?_
         rw [show Z = none from by rw [← HZ1.out, nextB_val6 (by omega), val_nil false true hbk]]
         exact ⟨⟨_, _, rfl⟩, ⟨_, _, _, hd201, hp1, hs202⟩⟩
        ·refine y_eql (b := false) H rfl rfl (ieq_f (by omega)) rfl fun a H => y_assign H rfl rfl fun a H => wpList_nil (then_normal (hK188 _ _ ?_))
         replace H := H.k7 0 1 4 5 6 37 325 rfl rfl rfl rfl rfl rfl rfl
         refine y_iff H rfl ?_
         refine y_seq fun K204 hK204 => ?_
         refine y_reg ?_
         by_cases q205 : (((last : Nat) : Int)) = ((7 : Int))
         ·refine y_eql (b := true) H rfl rfl (ieq_t (by omega)) rfl fun a H => y_assign H rfl rfl fun a H => wpList_nil (then_normal (hK204 _ _ ?_))
          replace H := H.k7 0 1 4 5 6 37 355 rfl rfl rfl rfl rfl rfl rfl
          refine y_ift H rfl ?_
          refine y_seq fun K206 hK206 => ?_
          refine y_reg ?_
          refine y_move H rfl rfl fun a H => y_call pf_okind H rfl rfl (Calls.mono (openKind_any hd7 hok1 hlen1) ?_)
          rintro e w207 ⟨rfl, hb207⟩
          refine ⟨_, rfl, fun a H => ?_⟩
          have hz208 := Below.size hb207
          have hr209 := RowAt.below hr9 (by omega) hb207
          have hd210 := DW.below hd7 hb207
          have hs211 := DStep.trans hs10 (DStep.of_below hb207)
          refine y_move H rfl rfl fun a H => y_extract H rfl rfl rfl fun a H => y_extract H rfl rfl rfl fun a H => y_assign H rfl rfl fun a H => y_assign H rfl rfl fun a H => wpList_nil (then_normal (hK206 _ _ ?_))
          replace H := H.k7 0 1 4 5 6 21 22 rfl rfl rfl rfl rfl rfl rfl
          refine y_seq fun K212 hK212 => ?_
          refine y_reg ?_
          refine y_move H rfl rfl fun a H => wpList_nil (then_normal (hK212 _ _ ?_))
          replace H := H.k7 0 1 4 5 6 22 362 rfl rfl rfl rfl rfl rfl rfl
          refine wp_block ?_
          refine y_seq fun K213 hK213 => ?_
          refine y_reg ?_
          by_cases q214 : (((openK s1.st : Nat) : Int)) = ((0 : Int))
          ·refine y_eql (b := true) H rfl rfl (ieq_t (by omega)) rfl fun a H => y_assign H rfl rfl fun a H => wpList_nil (then_normal (hK213 _ _ ?_))
           replace H := H.k8 0 1 4 5 6 22 362 363 rfl rfl rfl rfl rfl rfl rfl rfl
           refine y_ift H rfl ?_
           refine y_seq fun K215 hK215 => ?_
           refine y_seq fun K216 hK216 => ?_
           refine y_reg ?_
           refine y_move H rfl rfl fun a H => wpList_nil (then_normal (hK216 _ _ ?_))
           replace H := H.k6 0 1 4 5 6 365 rfl rfl rfl rfl rfl rfl
           refine y_ift H rfl ?_
           refine y_seq fun K217 hK217 => ?_
           refine y_reg ?_
           refine y_move H rfl rfl fun a H => y_call pf_ctoken H rfl rfl (Calls.mono (consumeToken_any _ 1 0 0 w207 hd210 (by show s1.k + _ ≤ bs.length; omega) (by omega)) ?_)
           rintro e w218 ⟨vt218, vi218, rfl, hvt218, hd218, hgc218⟩
           have Hs219 := H
           obtain ⟨ao218, n218, c218, rfl⟩ := View.slice3 hvt218
           have H := Hs219
           refine ⟨_, rfl, fun a H => ?_⟩
           have hz220 := World.grownBy.size hgc218
           have hr221 := RowAt.grown hr209 hgc218 (by omega) (by omega)
           have hs222 := DStep.trans hs211 (DStep.of_grown hgc218)
           refine y_storeRow (vs := [_, _, _, _, _, _]) H rfl rfl hr221 rfl (tok_size' _ _ _ _ _ _) (by simp [Value.oneCell']) fun w223 hr223 hg223 => ?_
           have hz224 := World.grownBy.size hg223
           have hv225 := View.kept hvt218 (World.grownBy.block hg223 g (by omega) (fun e => by injection e with e; omega))
           have hd226 := DW.grownOther hd218 hg223 (by omega) (by omega) hov (by omega)
           have hs227 := DStep.thenRow hs222 hg223 (by omega)
           refine y_assign H rfl rfl fun a H => wpList_nil (then_normal (hK217 _ _ ?_))
           replace H := H.k5 0 1 4 5 6 rfl rfl rfl rfl rfl
           refine wp_ret (then_ret (in_ret (in_ret (then_ret (?_)))))
           refine ret2 (by rfl) H rfl rfl hr223 ?_
           rw [show Z = some ((tokT bs s1.k 1 0 0).1, s1.st, (tokT bs s1.k 1 0 0).2) from by rw [← HZ1.out, nextB_top3 (by omega) (by omega), top_nil true hbk]; rfl]
           exact ⟨_, _, _, _, rfl, hv225, hd226, by first | (rw [← hs1]; rfl) | rw [← hs1], hs227⟩
          ·refine y_eql (b := false) H rfl rfl (ieq_f (by omega)) rfl fun a H => y_assign H rfl rfl fun a H => wpList_nil (then_normal (hK213 _ _ ?_))
           replace H := H.k8 0 1 4 5 6 22 362 363 rfl rfl rfl rfl rfl rfl rfl rfl
           refine y_iff H rfl ?_
           refine y_seq fun K228 hK228 => ?_
           refine y_reg ?_
           by_cases q229 : (((openK s1.st : Nat) : Int)) = ((4 : Int))
           ·refine y_eql (b := true) H rfl rfl (ieq_t (by omega)) rfl fun a H => y_assign H rfl rfl fun a H => wpList_nil (then_normal (hK228 _ _ ?_))
            replace H := H.k7 0 1 4 5 6 22 387 rfl rfl rfl rfl rfl rfl rfl
            refine y_ift H rfl ?_
            refine y_seq fun K230 hK230 => ?_
            refine y_seq fun K231 hK231 => ?_
            refine y_reg ?_
            refine y_move H rfl rfl fun a H => wpList_nil (then_normal (hK231 _ _ ?_))
            replace H := H.k7 0 1 4 5 6 22 389 rfl rfl rfl rfl rfl rfl rfl
            refine y_ift H rfl ?_
            refine y_seq fun K232 hK232 => ?_
            obtain ⟨tE, xE, hcE⟩ := (DW.glob hd210).eof
            refine d_begin (fun w' => w'.cell? ⟨0, 0, none⟩ = some (.iface tE xE)) 4 mixedP rfl ?_
            have hbd233 : Below w207.heap.size w207 w207.drew := (Below.refl _ _).drew
            generalize w207.drew = wd233 at hbd233 ⊢
            have hz234 := Below.size hbd233
            have hr235 := RowAt.below hr209 (by omega) hbd233
            have hd236 := DW.below hd210 hbd233
            have hs237 := DStep.trans hs211 (DStep.of_below hbd233)
            have hcE238 := (Below.cell hbd233 (World.block_lt_of_cell? _ _ hcE)).trans hcE
            refine d_take 0 H rfl (by kernel_rfl) (by kernel_rfl) (by kernel_rfl) (r_bld built_tok0 H rfl) hcE238 rfl fun a H => d_take 1 H rfl (by kernel_rfl) (by kernel_rfl) (by kernel_rfl) (r_load oneErr H rfl (fun _ h => h)) hcE238 rfl fun a H => ?_
            refine d_one 2 (by kernel_rfl) rfl rfl ?_
            refine y_storeRow (vs := [_, _, _, _, _, _]) H rfl rfl hr235 rfl (tok_size' _ _ _ _ _ _) (by simp [Value.oneCell']) fun w239 hr239 hg239 => ?_
            have hz240 := World.grownBy.size hg239
            have hd241 := DW.grownOther hd236 hg239 (by omega) (by omega) hov (by omega)
            have hs242 := DStep.thenRow hs237 hg239 (by omega)
            have hcE243 := grown_cell hg239 hcE238 (by show 0 ≠ _; omega)
            refine wpList_nil ⟨hcE243, ?_⟩
            refine d_take 3 H rfl (by kernel_rfl) (by kernel_rfl) (by kernel_rfl) (r_assign H rfl) hcE243 rfl fun a H => ?_
            refine d_done (by kernel_rfl) (then_normal (hK232 _ _ ?_))
            replace H := H.k6 0 1 4 5 6 22 rfl rfl rfl rfl rfl rfl
            refine wp_ret (then_ret (in_ret (in_ret (then_ret (?_)))))
            refine ret2 (by rfl) H rfl rfl hr239 ?_
            rw [show Z = none from by rw [← HZ1.out, nextB_msg3 (by omega) (by omega), msg_nil true hbk]]
            exact ⟨⟨_, _, rfl⟩, ⟨_, _, _, hd241, hp1, hs242⟩⟩
           ·refine y_eql (b := false) H rfl rfl (ieq_f (by omega)) rfl fun a H => y_assign H rfl rfl fun a H => wpList_nil (then_normal (hK228 _ _ ?_))
            replace H := H.k7 0 1 4 5 6 22 387 rfl rfl rfl rfl rfl rfl rfl
            refine y_iff H rfl ?_
            refine wp_skip (in_normal (in_normal (then_normal (hK16 _ _ ?_))))
            replace H := H.k5 0 1 4 5 6 rfl rfl rfl rfl rfl
            omega
         ·refine y_eql (b := false) H rfl rfl (ieq_f (by omega)) rfl fun a H => y_assign H rfl rfl fun a H => wpList_nil (then_normal (hK204 _ _ ?_))
          replace H := H.k7 0 1 4 5 6 37 355 rfl rfl rfl rfl rfl rfl rfl
          refine y_iff H rfl ?_
          refine y_seq fun K244 hK244 => ?_
          refine y_seq fun K245 hK245 => ?_
          refine y_reg ?_
          by_cases q246 : (((last : Nat) : Int)) = ((8 : Int))
          ·refine y_eql (b := true) H rfl rfl (ieq_t (by omega)) rfl fun a H => y_assign H rfl rfl fun a H => wpList_nil (then_normal (hK245 _ _ ?_))
           replace H := H.k7 0 1 4 5 6 37 429 rfl rfl rfl rfl rfl rfl rfl
           refine y_ift H rfl ?_
           refine wp_skip (then_normal (hK244 _ _ ?_))
           replace H := H.k6 0 1 4 5 6 429 rfl rfl rfl rfl rfl rfl
           refine y_ift H rfl ?_
           refine y_seq fun K247 hK247 => ?_
           refine y_reg ?_
           refine y_move H rfl rfl fun a H => y_call pf_okind H rfl rfl (Calls.mono (openKind_any hd7 hok1 hlen1) ?_)
           rintro e w248 ⟨rfl, hb248⟩
           refine ⟨_, rfl, fun a H => ?_⟩
           have hz249 := Below.size hb248
           have hr250 := RowAt.below hr9 (by omega) hb248
           have hd251 := DW.below hd7 hb248
           have hs252 := DStep.trans hs10 (DStep.of_below hb248)
           refine y_move H rfl rfl fun a H => y_extract H rfl rfl rfl fun a H => y_extract H rfl rfl rfl fun a H => y_assign H rfl rfl fun a H => y_assign H rfl rfl fun a H => wpList_nil (then_normal (hK247 _ _ ?_))
           replace H := H.k7 0 1 4 5 6 25 26 rfl rfl rfl rfl rfl rfl rfl
           refine y_seq fun K253 hK253 => ?_
           refine y_reg ?_
           refine y_move H rfl rfl fun a H => wpList_nil (then_normal (hK253 _ _ ?_))
           replace H := H.k7 0 1 4 5 6 26 437 rfl rfl rfl rfl rfl rfl rfl
           refine wp_block ?_
           refine y_seq fun K254 hK254 => ?_
           refine y_reg ?_
           by_cases q255 : (((openK s1.st : Nat) : Int)) = ((0 : Int))
           ·refine y_eql (b := true) H rfl rfl (ieq_t (by omega)) rfl fun a H => y_assign H rfl rfl fun a H => wpList_nil (then_normal (hK254 _ _ ?_))
            replace H := H.k8 0 1 4 5 6 26 437 438 rfl rfl rfl rfl rfl rfl rfl rfl
            refine y_ift H rfl ?_
            refine y_seq fun K256 hK256 => ?_
            refine y_seq fun K257 hK257 => ?_
            refine y_reg ?_
            refine y_move H rfl rfl fun a H => wpList_nil (then_normal (hK257 _ _ ?_))
            replace H := H.k6 0 1 4 5 6 440 rfl rfl rfl rfl rfl rfl
            refine y_ift H rfl ?_
            refine y_seq fun K258 hK258 => ?_
            refine y_reg ?_
            refine y_move H rfl rfl fun a H => y_call pf_ctoken H rfl rfl (Calls.mono (consumeToken_any _ 1 0 0 w248 hd251 (by show s1.k + _ ≤ bs.length; omega) (by omega)) ?_)
            rintro e w259 ⟨vt259, vi259, rfl, hvt259, hd259, hgc259⟩
            have Hs260 := H
            obtain ⟨ao259, n259, c259, rfl⟩ := View.slice3 hvt259
            have H := Hs260
            refine ⟨_, rfl, fun a H => ?_⟩
            have hz261 := World.grownBy.size hgc259
            have hr262 := RowAt.grown hr250 hgc259 (by omega) (by omega)
            have hs263 := DStep.trans hs252 (DStep.of_grown hgc259)
            refine y_storeRow (vs := [_, _, _, _, _, _]) H rfl rfl hr262 rfl (tok_size' _ _ _ _ _ _) (by simp [Value.oneCell']) fun w264 hr264 hg264 => ?_
            have hz265 := World.grownBy.size hg264
            have hv266 := View.kept hvt259 (World.grownBy.block hg264 g (by omega) (fun e => by injection e with e; omega))
            have hd267 := DW.grownOther hd259 hg264 (by omega) (by omega) hov (by omega)
            have hs268 := DStep.thenRow hs263 hg264 (by omega)
            refine y_assign H rfl rfl fun a H => wpList_nil (then_normal (hK258 _ _ ?_))
            replace H := H.k5 0 1 4 5 6 rfl rfl rfl rfl rfl
            refine wp_ret (then_ret (in_ret (in_ret (then_ret (?_)))))
            refine ret2 (by rfl) H rfl rfl hr264 ?_
            rw [show Z = some ((tokT bs s1.k 1 0 0).1, s1.st, (tokT bs s1.k 1 0 0).2) from by rw [← HZ1.out, nextB_top8 (by omega) (by omega), top_nil false hbk]; rfl]
            exact ⟨_, _, _, _, rfl, hv266, hd267, by first | (rw [← hs1]; rfl) | rw [← hs1], hs268⟩
           ·refine y_eql (b := false) H rfl rfl (ieq_f (by omega)) rfl fun a H => y_assign H rfl rfl fun a H => wpList_nil (then_normal (hK254 _ _ ?_))
            replace H := H.k8 0 1 4 5 6 26 437 438 rfl rfl rfl rfl rfl rfl rfl rfl
            refine y_iff H rfl ?_
            refine y_seq fun K269 hK269 => ?_
            refine y_reg ?_
            by_cases q270 : (((openK s1.st : Nat) : Int)) = ((4 : Int))
            ·refine y_eql (b := true) H rfl rfl (ieq_t (by omega)) rfl fun a H => y_assign H rfl rfl fun a H => wpList_nil (then_normal (hK269 _ _ ?_))
             replace H := H.k8 0 1 4 5 6 26 437 447 rfl rfl rfl rfl rfl rfl rfl rfl
             refine y_ift H rfl ?_
             refine y_seq fun K271 hK271 => ?_
             refine y_seq fun K272 hK272 => ?_
             refine y_reg ?_
             refine y_move H rfl rfl fun a H => wpList_nil (then_normal (hK272 _ _ ?_))
             replace H := H.k7 0 1 4 5 6 26 449 rfl rfl rfl rfl rfl rfl rfl
             refine y_ift H rfl ?_
             refine y_seq fun K273 hK273 => ?_
             obtain ⟨tE, xE, hcE⟩ := (DW.glob hd251).eof
             refine d_begin (fun w' => w'.cell? ⟨0, 0, none⟩ = some (.iface tE xE)) 4 mixedP rfl ?_
             have hbd274 : Below w248.heap.size w248 w248.drew := (Below.refl _ _).drew
             generalize w248.drew = wd274 at hbd274 ⊢
             have hz275 := Below.size hbd274
             have hr276 := RowAt.below hr250 (by omega) hbd274
             have hd277 := DW.below hd251 hbd274
             have hs278 := DStep.trans hs252 (DStep.of_below hbd274)
             have hcE279 := (Below.cell hbd274 (World.block_lt_of_cell? _ _ hcE)).trans hcE
             refine d_take 0 H rfl (by kernel_rfl) (by kernel_rfl) (by kernel_rfl) (r_bld built_tok0 H rfl) hcE279 rfl fun a H => d_take 1 H rfl (by kernel_rfl) (by kernel_rfl) (by kernel_rfl) (r_load oneErr H rfl (fun _ h => h)) hcE279 rfl fun a H => ?_
             refine d_one 2 (by kernel_rfl) rfl rfl ?_
             refine y_storeRow (vs := [_, _, _, _, _, _]) H rfl rfl hr276 rfl (tok_size' _ _ _ _ _ _) (by simp [Value.oneCell']) fun w280 hr280 hg280 => ?_
             have hz281 := World.grownBy.size hg280
             have hd282 := DW.grownOther hd277 hg280 (by omega) (by omega) hov (by omega)
             have hs283 := DStep.thenRow hs278 hg280 (by omega)
             have hcE284 := grown_cell hg280 hcE279 (by show 0 ≠ _; omega)
             refine wpList_nil ⟨hcE284, ?_⟩
             refine d_take 3 H rfl (by kernel_rfl) (by kernel_rfl) (by kernel_rfl) (r_assign H rfl) hcE284 rfl fun a H => ?_
             refine d_done (by kernel_rfl) (then_normal (hK273 _ _ ?_))
             replace H := H.k6 0 1 4 5 6 26 rfl rfl rfl rfl rfl rfl
             refine wp_ret (then_ret (in_ret (in_ret (then_ret (?_)))))
             refine ret2 (by rfl) H rfl rfl hr280 ?_
             rw [show Z = none from by rw [← HZ1.out, nextB_msg8 (by omega) (by omega), msg_nil false hbk]]
             exact ⟨⟨_, _, rfl⟩, ⟨_, _, _, hd282, hp1, hs283⟩⟩
            ·refine y_eql (b := false) H rfl rfl (ieq_f (by omega)) rfl fun a H => y_assign H rfl rfl fun a H => wpList_nil (then_normal (hK269 _ _ ?_))
             replace H := H.k8 0 1 4 5 6 26 437 447 rfl rfl rfl rfl rfl rfl rfl rfl
             refine y_iff H rfl ?_
             refine y_seq fun K285 hK285 => ?_
             refine y_reg ?_
             refine y_eql (b := true) H rfl rfl (ieq_t (by omega)) rfl fun a H => y_assign H rfl rfl fun a H => wpList_nil (then_normal (hK285 _ _ ?_))
             replace H := H.k6 0 1 4 5 6 481 rfl rfl rfl rfl rfl rfl
             refine y_ift H rfl ?_
             refine y_seq fun K286 hK286 => ?_
             refine y_seq fun K287 hK287 => ?_
             refine y_reg ?_
             refine y_move H rfl rfl fun a H => y_eql (b := false) H rfl rfl (ieq_f (by omega)) rfl fun a H => wpList_nil (then_normal (hK287 _ _ ?_))
             replace H := H.k6 0 1 4 5 6 484 rfl rfl rfl rfl rfl rfl
             refine y_iff H rfl ?_
             refine wp_skip (then_normal (hK286 _ _ ?_))
             replace H := H.k5 0 1 4 5 6 rfl rfl rfl rfl rfl
             refine y_seq fun K288 hK288 => ?_
             refine y_seq fun K289 hK289 => ?_
             refine y_reg ?_
             refine y_move H rfl rfl fun a H => wpList_nil (then_normal (hK289 _ _ ?_))
             replace H := H.k6 0 1 4 5 6 485 rfl rfl rfl rfl rfl rfl
             refine y_ift H rfl ?_
             refine y_seq fun K290 hK290 => ?_
             obtain ⟨tE, xE, hcE⟩ := (DW.glob hd251).eof
             refine d_begin (fun w' => w'.cell? ⟨0, 0, none⟩ = some (.iface tE xE)) 4 mixedP rfl ?_
             have hbd291 : Below w248.heap.size w248 w248.drew := (Below.refl _ _).drew
             generalize w248.drew = wd291 at hbd291 ⊢
             have hz292 := Below.size hbd291
             have hr293 := RowAt.below hr250 (by omega) hbd291
             have hd294 := DW.below hd251 hbd291
             have hs295 := DStep.trans hs252 (DStep.of_below hbd291)
             have hcE296 := (Below.cell hbd291 (World.block_lt_of_cell? _ _ hcE)).trans hcE
             refine d_take 0 H rfl (by kernel_rfl) (by kernel_rfl) (by kernel_rfl) (r_bld built_tok0 H rfl) hcE296 rfl fun a H => d_take 1 H rfl (by kernel_rfl) (by kernel_rfl) (by kernel_rfl) (r_load oneErr H rfl (fun _ h => h)) hcE296 rfl fun a H => ?_
             refine d_one 2 (by kernel_rfl) rfl rfl ?_
             refine y_storeRow (vs := [_, _, _, _, _, _]) H rfl rfl hr293 rfl (tok_size' _ _ _ _ _ _) (by simp [Value.oneCell']) fun w297 hr297 hg297 => ?_
             have hz298 := World.grownBy.size hg297
             have hd299 := DW.grownOther hd294 hg297 (by omega) (by omega) hov (by omega)
             have hs300 := DStep.thenRow hs295 hg297 (by omega)
             have hcE301 := grown_cell hg297 hcE296 (by show 0 ≠ _; omega)
             refine wpList_nil ⟨hcE301, ?_⟩
             refine d_take 3 H rfl (by kernel_rfl) (by kernel_rfl) (by kernel_rfl) (r_assign H rfl) hcE301 rfl fun a H => ?_
             refine d_done (by kernel_rfl) (then_normal (hK290 _ _ ?_))
             replace H := H.k5 0 1 4 5 6 rfl rfl rfl rfl rfl
             refine wp_ret (then_ret (in_ret (in_ret (then_ret (?_)))))
             refine ret2 (by rfl) H rfl rfl hr297 ?_
             rw [show Z = none from by rw [← HZ1.out, nextB_val8 (by omega) (by omega), val_nil false false hbk]]
             exact ⟨⟨_, _, rfl⟩, ⟨_, _, _, hd299, hp1, hs300⟩⟩
          ·refine y_eql (b := false) H rfl rfl (ieq_f (by omega)) rfl fun a H => y_assign H rfl rfl fun a H => wpList_nil (then_normal (hK245 _ _ ?_))
           replace H := H.k7 0 1 4 5 6 37 429 rfl rfl rfl rfl rfl rfl rfl
           refine y_iff H rfl ?_
           refine y_reg ?_
           refine y_eql (b := true) H rfl rfl (ieq_t (by omega)) rfl fun a H => y_assign H rfl rfl fun a H => wpList_nil (then_normal (hK244 _ _ ?_))
           replace H := H.k6 0 1 4 5 6 429 rfl rfl rfl rfl rfl rfl
           refine y_ift H rfl ?_
           refine y_seq fun K302 hK302 => ?_
           refine y_reg ?_
           refine y_move H rfl rfl fun a H => y_call pf_okind H rfl rfl (Calls.mono (openKind_any hd7 hok1 hlen1) ?_)
           rintro e w303 ⟨rfl, hb303⟩
           refine ⟨_, rfl, fun a H => ?_⟩
           have hz304 := Below.size hb303
           have hr305 := RowAt.below hr9 (by omega) hb303
           have hd306 := DW.below hd7 hb303
           have hs307 := DStep.trans hs10 (DStep.of_below hb303)
           refine y_move H rfl rfl fun a H => y_extract H rfl rfl rfl fun a H => y_extract H rfl rfl rfl fun a H => y_assign H rfl rfl fun a H => y_assign H rfl rfl fun a H => wpList_nil (then_normal (hK302 _ _ ?_))
           replace H := H.k7 0 1 4 5 6 25 26 rfl rfl rfl rfl rfl rfl rfl
           refine y_seq fun K308 hK308 => ?_
           refine y_reg ?_
           refine y_move H rfl rfl fun a H => wpList_nil (then_normal (hK308 _ _ ?_))
           replace H := H.k7 0 1 4 5 6 26 437 rfl rfl rfl rfl rfl rfl rfl
           refine wp_block ?_
           refine y_seq fun K309 hK309 => ?_
           refine y_reg ?_
           by_cases q310 : (((openK s1.st : Nat) : Int)) = ((0 : Int))
           ·refine y_eql (b := true) H rfl rfl (ieq_t (by omega)) rfl fun a H => y_assign H rfl rfl fun a H => wpList_nil (then_normal (hK309 _ _ ?_))
            replace H := H.k8 0 1 4 5 6 26 437 438 rfl rfl rfl rfl rfl rfl rfl rfl
            refine y_ift H rfl ?_
            refine y_seq fun K311 hK311 => ?_
            refine y_seq fun K312 hK312 => ?_
            refine y_reg ?_
            refine y_move H rfl rfl fun a H => wpList_nil (then_normal (hK312 _ _ ?_))
            replace H := H.k6 0 1 4 5 6 440 rfl rfl rfl rfl rfl rfl
            refine y_ift H rfl ?_
            refine y_seq fun K313 hK313 => ?_
            refine y_reg ?_
            refine y_move H rfl rfl fun a H => y_call pf_ctoken H rfl rfl (Calls.mono (consumeToken_any _ 1 0 0 w303 hd306 (by show s1.k + _ ≤ bs.length; omega) (by omega)) ?_)
            rintro e w314 ⟨vt314, vi314, rfl, hvt314, hd314, hgc314⟩
            have Hs315 := H
            obtain ⟨ao314, n314, c314, rfl⟩ := View.slice3 hvt314
            have H := Hs315
            refine ⟨_, rfl, fun a H => ?_⟩
            have hz316 := World.grownBy.size hgc314
            have hr317 := RowAt.grown hr305 hgc314 (by omega) (by omega)
            have hs318 := DStep.trans hs307 (DStep.of_grown hgc314)
            refine y_storeRow (vs := [_, _, _, _, _, _]) H rfl rfl hr317 rfl (tok_size' _ _ _ _ _ _) (by simp [Value.oneCell']) fun w319 hr319 hg319 => ?_
            have hz320 := World.grownBy.size hg319
            have hv321 := View.kept hvt314 (World.grownBy.block hg319 g (by omega) (fun e => by injection e with e; omega))
            have hd322 := DW.grownOther hd314 hg319 (by omega) (by omega) hov (by omega)
            have hs323 := DStep.thenRow hs318 hg319 (by omega)
            refine y_assign H rfl rfl fun a H => wpList_nil (then_normal (hK313 _ _ ?_))
            replace H := H.k5 0 1 4 5 6 rfl rfl rfl rfl rfl
            refine wp_ret (then_ret (in_ret (in_ret (then_ret (?_)))))
            refine ret2 (by rfl) H rfl rfl hr319 ?_
            rw [show Z = some ((tokT bs s1.k 1 0 0).1, s1.st, (tokT bs s1.k 1 0 0).2) from by rw [← HZ1.out, nextB_top8 (by omega) (by omega), top_nil false hbk]; rfl]
            exact ⟨_, _, _, _, rfl, hv321, hd322, by first | (rw [← hs1]; rfl) | rw [← hs1], hs323⟩
           ·refine y_eql (b := false) H rfl rfl (ieq_f (by omega)) rfl fun a H => y_assign H rfl rfl fun a H => wpList_nil (then_normal (hK309 _ _ ?_))
            replace H := H.k8 0 1 4 5 6 26 437 438 rfl rfl rfl rfl rfl rfl rfl rfl
            refine y_iff H rfl ?_
            refine y_seq fun K324 hK324 => ?_
            refine y_reg ?_
            by_cases q325 : (((openK s1.st : Nat) : Int)) = ((4 : Int))
            ·refine y_eql (b := true) H rfl rfl (ieq_t (by omega)) rfl fun a H => y_assign H rfl rfl fun a H => wpList_nil (then_normal (hK324 _ _ ?_))
             replace H := H.k8 0 1 4 5 6 26 437 447 rfl rfl rfl rfl rfl rfl rfl rfl
             refine y_ift H rfl ?_
             refine y_seq fun K326 hK326 => ?_
             refine y_seq fun K327 hK327 => ?_
             refine y_reg ?_
             refine y_move H rfl rfl fun a H => wpList_nil (then_normal (hK327 _ _ ?_))
             replace H := H.k7 0 1 4 5 6 26 449 rfl rfl rfl rfl rfl rfl rfl
             refine y_ift H rfl ?_
             refine y_seq fun K328 hK328 => ?_
             obtain ⟨tE, xE, hcE⟩ := (DW.glob hd306).eof
             refine d_begin (fun w' => w'.cell? ⟨0, 0, none⟩ = some (.iface tE xE)) 4 mixedP rfl ?_
             have hbd329 : Below w303.heap.size w303 w303.drew := (Below.refl _ _).drew
             generalize w303.drew = wd329 at hbd329 ⊢
             have hz330 := Below.size hbd329
             have hr331 := RowAt.below hr305 (by omega) hbd329
             have hd332 := DW.below hd306 hbd329
             have hs333 := DStep.trans hs307 (DStep.of_below hbd329)
             have hcE334 := (Below.cell hbd329 (World.block_lt_of_cell? _ _ hcE)).trans hcE
             refine d_take 0 H rfl (by kernel_rfl) (by kernel_rfl) (by kernel_rfl) (r_bld built_tok0 H rfl) hcE334 rfl fun a H => d_take 1 H rfl (by kernel_rfl) (by kernel_rfl) (by kernel_rfl) (r_load oneErr H rfl (fun _ h => h)) hcE334 rfl fun a H => ?_
             refine d_one 2 (by kernel_rfl) rfl rfl ?_
             refine y_storeRow (vs := [_, _, _, _, _, _]) H rfl rfl hr331 rfl (tok_size' _ _ _ _ _ _) (by simp [Value.oneCell']) fun w335 hr335 hg335 => ?_
             have hz336 := World.grownBy.size hg335
             have hd337 := DW.grownOther hd332 hg335 (by omega) (by omega) hov (by omega)
             have hs338 := DStep.thenRow hs333 hg335 (by omega)
             have hcE339 := grown_cell hg335 hcE334 (by show 0 ≠ _; omega)
             refine wpList_nil ⟨hcE339, ?_⟩
             refine d_take 3 H rfl (by kernel_rfl) (by kernel_rfl) (by kernel_rfl) (r_assign H rfl) hcE339 rfl fun a H => ?_
             refine d_done (by kernel_rfl) (then_normal (hK328 _ _ ?_))
             replace H := H.k6 0 1 4 5 6 26 rfl rfl rfl rfl rfl rfl
             refine wp_ret (then_ret (in_ret (in_ret (then_ret (?_)))))
             refine ret2 (by rfl) H rfl rfl hr335 ?_
             rw [show Z = none from by rw [← HZ1.out, nextB_msg8 (by omega) (by omega), msg_nil false hbk]]
             exact ⟨⟨_, _, rfl⟩, ⟨_, _, _, hd337, hp1, hs338⟩⟩
            ·refine y_eql (b := false) H rfl rfl (ieq_f (by omega)) rfl fun a H => y_assign H rfl rfl fun a H => wpList_nil (then_normal (hK324 _ _ ?_))
             replace H := H.k8 0 1 4 5 6 26 437 447 rfl rfl rfl rfl rfl rfl rfl rfl
             refine y_iff H rfl ?_
             refine y_seq fun K340 hK340 => ?_
             refine y_reg ?_
             refine y_eql (b := true) H rfl rfl (ieq_t (by omega)) rfl fun a H => y_assign H rfl rfl fun a H => wpList_nil (then_normal (hK340 _ _ ?_))
             replace H := H.k6 0 1 4 5 6 481 rfl rfl rfl rfl rfl rfl
             refine y_ift H rfl ?_
             refine y_seq fun K341 hK341 => ?_
             refine y_seq fun K342 hK342 => ?_
             refine y_reg ?_
             refine y_move H rfl rfl fun a H => y_eql (b := true) H rfl rfl (ieq_t (by omega)) rfl fun a H => wpList_nil (then_normal (hK342 _ _ ?_))
             replace H := H.k6 0 1 4 5 6 484 rfl rfl rfl rfl rfl rfl
             refine y_ift H rfl ?_
             refine wp_exit (then_exit (in_exit (in_normal (then_normal (hK16 _ _ ?_)))))
             replace H := H.k5 0 1 4 5 6 rfl rfl rfl rfl rfl
             omega
 ·have H := Hs14
  have hlI : (c :: r).length = r.length + 1 := rfl
  have hlcr : s1.k + (r.length + 1) = bs.length := by have := congrArg List.length hbk; simp at this; omega
  have bc := byte_bd c
  refine y_reg ?_
  refine y_move H rfl rfl fun a H => y_nilCheck H rfl rfl fun a H => y_field fld_in H rfl rfl fun a H => ?_
  have hvI343 : View w7 g _ (c :: r) := (DW.inn hd7).eq hbk
  refine y_load one22 H rfl (DW.c10 hd7).1 rfl fun a H => y_len Tryz.underlying22 H rfl hvI343 rfl fun a H => y_eql (b := false) H rfl rfl (ieq_f (by omega)) rfl fun a H => wpList_nil (then_normal (hK13 _ _ ?_))
  replace H := H.k6 0 1 4 5 6 36 rfl rfl rfl rfl rfl rfl
  refine y_iff H rfl ?_
  refine wp_skip (then_normal (hK12 _ _ ?_))
  replace H := H.k5 0 1 4 5 6 rfl rfl rfl rfl rfl
  refine y_seq fun K344 hK344 => ?_
  refine y_seq fun K345 hK345 => ?_
  refine y_reg ?_
  refine y_move H rfl rfl fun a H => wpList_nil (then_normal (hK345 _ _ ?_))
  replace H := H.k6 0 1 4 5 6 37 rfl rfl rfl rfl rfl rfl
  refine wp_block ?_
  refine y_seq fun K346 hK346 => ?_
  refine y_reg ?_
  by_cases q347 : (((last : Nat) : Int)) = ((1 : Int))
  ·refine y_eql (b := true) H rfl rfl (ieq_t (by omega)) rfl fun a H => y_assign H rfl rfl fun a H => wpList_nil (then_normal (hK346 _ _ ?_))
   replace H := H.k7 0 1 4 5 6 37 38 rfl rfl rfl rfl rfl rfl rfl
   refine y_ift H rfl ?_
   refine y_seq fun K348 hK348 => ?_
   refine y_reg ?_
   refine y_move H rfl rfl fun a H => y_call pf_ctoken H rfl rfl (Calls.mono (consumeToken_any _ 1 0 0 w7 hd7 (by show s1.k + _ ≤ bs.length; omega) (by omega)) ?_)
   rintro e w349 ⟨vt349, vi349, rfl, hvt349, hd349, hgc349⟩
   have Hs350 := H
   obtain ⟨ao349, n349, c349, rfl⟩ := View.slice3 hvt349
   have H := Hs350
   refine ⟨_, rfl, fun a H => ?_⟩
   have hz351 := World.grownBy.size hgc349
   have hr352 := RowAt.grown hr9 hgc349 (by omega) (by omega)
   have hs353 := DStep.trans hs10 (DStep.of_grown hgc349)
   refine y_storeRow (vs := [_, _, _, _, _, _]) H rfl rfl hr352 rfl (tok_size' _ _ _ _ _ _) (by simp [Value.oneCell']) fun w354 hr354 hg354 => ?_
   have hz355 := World.grownBy.size hg354
   have hv356 := View.kept hvt349 (World.grownBy.block hg354 g (by omega) (fun e => by injection e with e; omega))
   have hd357 := DW.grownOther hd349 hg354 (by omega) (by omega) hov (by omega)
   have hs358 := DStep.thenRow hs353 hg354 (by omega)
   refine y_assign H rfl rfl fun a H => wpList_nil (then_normal (hK348 _ _ ?_))
   replace H := H.k5 0 1 4 5 6 rfl rfl rfl rfl rfl
   refine wp_ret (in_ret (then_ret (?_)))
   refine ret2 (by rfl) H rfl rfl hr354 ?_
   rw [show Z = some ((tokT bs s1.k 1 0 0).1, s1.st, (tokT bs s1.k 1 0 0).2) from by rw [← HZ1.out, nextB_eof (by omega)]; rfl]
   exact ⟨_, _, _, _, rfl, hv356, hd357, by first | (rw [← hs1]; rfl) | rw [← hs1], hs358⟩
  ·refine y_eql (b := false) H rfl rfl (ieq_f (by omega)) rfl fun a H => y_assign H rfl rfl fun a H => wpList_nil (then_normal (hK346 _ _ ?_))
   replace H := H.k7 0 1 4 5 6 37 38 rfl rfl rfl rfl rfl rfl rfl
   refine y_iff H rfl ?_
   refine y_seq fun K359 hK359 => ?_
   refine y_reg ?_
   by_cases q360 : (((last : Nat) : Int)) = ((0 : Int))
   ·refine y_eql (b := true) H rfl rfl (ieq_t (by omega)) rfl fun a H => y_assign H rfl rfl fun a H => wpList_nil (then_normal (hK359 _ _ ?_))
    replace H := H.k7 0 1 4 5 6 37 42 rfl rfl rfl rfl rfl rfl rfl
    refine y_ift H rfl ?_
    refine y_seq fun K361 hK361 => ?_
    refine y_seq fun K362 hK362 => ?_
    refine y_reg ?_
    refine y_move H rfl rfl fun a H => wpList_nil (then_normal (hK362 _ _ ?_))
    replace H := H.k6 0 1 4 5 6 44 rfl rfl rfl rfl rfl rfl
    refine y_iff H rfl ?_
    refine wp_skip (then_normal (hK361 _ _ ?_))
    replace H := H.k5 0 1 4 5 6 rfl rfl rfl rfl rfl
    refine y_seq fun K363 hK363 => ?_
    refine y_reg ?_
    refine y_move H rfl rfl fun a H => ?_
    have HP364 := parseField_any hd7 hm c r hbk
    have Hs365 := H
    rcases hS364 : fieldT bs s1.k with _ | ⟨t364, k364⟩
    ·have H := Hs365
     rw [hS364] at HP364
     refine y_call pf_field H rfl rfl (Calls.mono HP364 ?_)
     rintro e w364 ⟨⟨te, xe, rfl⟩, ⟨vi364, k364, hd364⟩, hgc364⟩
     refine ⟨_, rfl, fun a H => ?_⟩
     have hz366 := World.grownBy.size hgc364
     have hr367 := RowAt.grown hr9 hgc364 (by omega) (by omega)
     have hs368 := DStep.trans hs10 (DStep.of_grown hgc364)
     refine y_extract H rfl rfl rfl fun a H => y_extract H rfl rfl rfl fun a H => y_storeRow (vs := [_, _, _, _, _, _]) H rfl rfl hr367 rfl (tok_size' _ _ _ _ _ _) (by simp [Value.oneCell']) fun w369 hr369 hg369 => ?_
     have hz370 := World.grownBy.size hg369
     have hd371 := DW.grownOther hd364 hg369 (by omega) (by omega) hov (by omega)
     have hs372 := DStep.thenRow hs368 hg369 (by omega)
     refine y_assign H rfl rfl fun a H => wpList_nil (then_normal (hK363 _ _ ?_))
     replace H := H.k5 0 1 4 5 6 rfl rfl rfl rfl rfl
     refine wp_ret (in_ret (then_ret (?_)))
     refine ret2 (by rfl) H rfl rfl hr369 ?_
     rw [show Z = none from by rw [← HZ1.out, nextB_top0 (by omega), top_field false hbk (.inl rfl), hS364]; rfl]
     exact ⟨⟨_, _, rfl⟩, ⟨_, _, _, hd371, hp1, hs372⟩⟩
    ·have H := Hs365
     rw [hS364] at HP364
     refine y_call pf_field H rfl rfl (Calls.mono HP364 ?_)
     rintro e w364 ⟨vt364, vi364, rfl, hvt364, hd364, hgc364⟩
     have Hs373 := H
     obtain ⟨ao364, n364, c364, rfl⟩ := View.slice3 hvt364
     have H := Hs373
     refine ⟨_, rfl, fun a H => ?_⟩
     have hz374 := World.grownBy.size hgc364
     have hr375 := RowAt.grown hr9 hgc364 (by omega) (by omega)
     have hs376 := DStep.trans hs10 (DStep.of_grown hgc364)
     refine y_extract H rfl rfl rfl fun a H => y_extract H rfl rfl rfl fun a H => y_storeRow (vs := [_, _, _, _, _, _]) H rfl rfl hr375 rfl (tok_size' _ _ _ _ _ _) (by simp [Value.oneCell']) fun w377 hr377 hg377 => ?_
     have hz378 := World.grownBy.size hg377
     have hv379 := View.kept hvt364 (World.grownBy.block hg377 g (by omega) (fun e => by injection e with e; omega))
     have hd380 := DW.grownOther hd364 hg377 (by omega) (by omega) hov (by omega)
     have hs381 := DStep.thenRow hs376 hg377 (by omega)
     refine y_assign H rfl rfl fun a H => wpList_nil (then_normal (hK363 _ _ ?_))
     replace H := H.k5 0 1 4 5 6 rfl rfl rfl rfl rfl
     refine wp_ret (in_ret (then_ret (?_)))
     refine ret2 (by rfl) H rfl rfl hr377 ?_
     rw [show Z = some (t364, s1.st, k364) from by rw [← HZ1.out, nextB_top0 (by omega), top_field false hbk (.inl rfl), hS364]; rfl]
     exact ⟨_, _, _, _, rfl, hv379, hd380, by first | (rw [← hs1]; rfl) | rw [← hs1], hs381⟩
   ·refine y_eql (b := false) H rfl rfl (ieq_f (by omega)) rfl fun a H => y_assign H rfl rfl fun a H => wpList_nil (then_normal (hK359 _ _ ?_))
    replace H := H.k7 0 1 4 5 6 37 42 rfl rfl rfl rfl rfl rfl rfl
    refine y_iff H rfl ?_
    refine y_seq fun K382 hK382 => ?_
    refine y_reg ?_
    by_cases q383 : (((last : Nat) : Int)) = ((2 : Int))
    ·refine y_eql (b := true) H rfl rfl (ieq_t (by omega)) rfl fun a H => y_assign H rfl rfl fun a H => wpList_nil (then_normal (hK382 _ _ ?_))
     replace H := H.k7 0 1 4 5 6 37 51 rfl rfl rfl rfl rfl rfl rfl
     refine y_ift H rfl ?_
     refine y_seq fun K384 hK384 => ?_
     refine y_seq fun K385 hK385 => ?_
     refine y_reg ?_
     refine y_move H rfl rfl fun a H => wpList_nil (then_normal (hK385 _ _ ?_))
     replace H := H.k6 0 1 4 5 6 53 rfl rfl rfl rfl rfl rfl
     refine y_iff H rfl ?_
     refine wp_skip (then_normal (hK384 _ _ ?_))
     replace H := H.k5 0 1 4 5 6 rfl rfl rfl rfl rfl
     refine y_seq fun K386 hK386 => ?_
     refine y_reg ?_
     refine y_move H rfl rfl fun a H => y_nilCheck H rfl rfl fun a H => y_field fld_in H rfl rfl fun a H => ?_
     have hvI387 : View w7 g _ (c :: r) := (DW.inn hd7).eq hbk
     refine y_load one22 H rfl (DW.c10 hd7).1 rfl fun a H => y_idx Tryz.underlying22 info5u H rfl rfl hvI387 (by decide) rfl rfl fun a ad H hc388 => ?_
     refine y_load one5 H rfl hc388 rfl fun a H => y_assign H rfl rfl fun a H => wpList_nil (then_normal (hK386 _ _ ?_))
     replace H := H.k6 0 1 4 5 6 7 rfl rfl rfl rfl rfl rfl
     refine y_seq fun K389 hK389 => ?_
     refine y_reg ?_
     refine y_move H rfl rfl fun a H => wpList_nil (then_normal (hK389 _ _ ?_))
     replace H := H.k7 0 1 4 5 6 7 62 rfl rfl rfl rfl rfl rfl rfl
     refine wp_block ?_
     refine y_seq fun K390 hK390 => ?_
     refine y_seq fun K391 hK391 => ?_
     refine y_reg ?_
     by_cases q392 : ((c.toNat : Int)) = ((123 : Int))
     ·refine y_eql (b := true) H rfl rfl (ieq_t (by omega)) rfl fun a H => y_assign H rfl rfl fun a H => wpList_nil (then_normal (hK391 _ _ ?_))
      replace H := H.k8 0 1 4 5 6 7 62 67 rfl rfl rfl rfl rfl rfl rfl rfl
      refine y_ift H rfl ?_
      refine wp_skip (then_normal (hK390 _ _ ?_))
      replace H := H.k8 0 1 4 5 6 7 62 67 rfl rfl rfl rfl rfl rfl rfl rfl
      refine y_ift H rfl ?_
      refine y_seq fun K393 hK393 => ?_
      refine y_reg ?_
      refine y_move H rfl rfl fun a H => y_move H rfl rfl fun a H => y_call pf_push H rfl rfl (Calls.mono (push_any c hd7 hlen1) ?_)
      rintro e w394 ⟨rfl, vst394, hd394, hds394⟩
      refine ⟨_, rfl, fun a H => ?_⟩
      have hz395 := DStep.size hds394
      have hr396 := RowAt.kept hr9 (DStep.block hds394 _ (by omega) (by omega) hov)
      have hov397 := (fun e => by rcases DStep.lies hds394 _ e with e | e; exact hov e; omega : _ ≠ some q2)
      have hs398 := DStep.trans hs10 hds394
      refine wpList_nil (then_normal (hK393 _ _ ?_))
      replace H := H.k5 0 1 4 5 6 rfl rfl rfl rfl rfl
      refine y_seq fun K399 hK399 => ?_
      refine y_reg ?_
      refine y_move H rfl rfl fun a H => y_call pf_ctoken H rfl rfl (Calls.mono (consumeToken_any _ 4 0 1 w394 hd394 (by show s1.k + _ ≤ bs.length; omega) (by omega)) ?_)
      rintro e w400 ⟨vt400, vi400, rfl, hvt400, hd400, hgc400⟩
      have Hs401 := H
      obtain ⟨ao400, n400, c400, rfl⟩ := View.slice3 hvt400
      have H := Hs401
      refine ⟨_, rfl, fun a H => ?_⟩
      have hz402 := World.grownBy.size hgc400
      have hr403 := RowAt.grown hr396 hgc400 (by omega) (by omega)
      have hs404 := DStep.trans hs398 (DStep.of_grown hgc400)
      refine y_storeRow (vs := [_, _, _, _, _, _]) H rfl rfl hr403 rfl (tok_size' _ _ _ _ _ _) (by simp [Value.oneCell']) fun w405 hr405 hg405 => ?_
      have hz406 := World.grownBy.size hg405
      have hv407 := View.kept hvt400 (World.grownBy.block hg405 g (by omega) (fun e => by injection e with e; omega))
      have hd408 := DW.grownOther hd400 hg405 (by omega) (by omega) hov397 (by omega)
      have hs409 := DStep.thenRow hs404 hg405 (by omega)
      refine y_assign H rfl rfl fun a H => wpList_nil (then_normal (hK399 _ _ ?_))
      replace H := H.k5 0 1 4 5 6 rfl rfl rfl rfl rfl
      refine wp_ret (in_ret (in_ret (then_ret (?_))))
      refine ret2 (by rfl) H rfl rfl hr405 ?_
      rw [show Z = some ((tokT bs s1.k 4 1 0).1, s1.st ++ [c], (tokT bs s1.k 4 1 0).2) from by rw [← HZ1.out, nextB_val2 (by omega), val_open true false hbk (by omega)]; rfl]
      exact ⟨_, _, _, _, rfl, hv407, hd408, by first | (rw [← hs1]; rfl) | rw [← hs1], hs409⟩
     ·refine y_eql (b := false) H rfl rfl (ieq_f (by omega)) rfl fun a H => y_assign H rfl rfl fun a H => wpList_nil (then_normal (hK391 _ _ ?_))
      replace H := H.k8 0 1 4 5 6 7 62 67 rfl rfl rfl rfl rfl rfl rfl rfl
      refine y_iff H rfl ?_
      refine y_reg ?_
      by_cases q410 : ((c.toNat : Int)) = ((60 : Int))
      ·refine y_eql (b := true) H rfl rfl (ieq_t (by omega)) rfl fun a H => y_assign H rfl rfl fun a H => wpList_nil (then_normal (hK390 _ _ ?_))
       replace H := H.k8 0 1 4 5 6 7 62 67 rfl rfl rfl rfl rfl rfl rfl rfl
       refine y_ift H rfl ?_
       refine y_seq fun K411 hK411 => ?_
       refine y_reg ?_
       refine y_move H rfl rfl fun a H => y_move H rfl rfl fun a H => y_call pf_push H rfl rfl (Calls.mono (push_any c hd7 hlen1) ?_)
       rintro e w412 ⟨rfl, vst412, hd412, hds412⟩
       refine ⟨_, rfl, fun a H => ?_⟩
       have hz413 := DStep.size hds412
       have hr414 := RowAt.kept hr9 (DStep.block hds412 _ (by omega) (by omega) hov)
       have hov415 := (fun e => by rcases DStep.lies hds412 _ e with e | e; exact hov e; omega : _ ≠ some q2)
       have hs416 := DStep.trans hs10 hds412
       refine wpList_nil (then_normal (hK411 _ _ ?_))
       replace H := H.k5 0 1 4 5 6 rfl rfl rfl rfl rfl
       refine y_seq fun K417 hK417 => ?_
       refine y_reg ?_
       refine y_move H rfl rfl fun a H => y_call pf_ctoken H rfl rfl (Calls.mono (consumeToken_any _ 4 0 1 w412 hd412 (by show s1.k + _ ≤ bs.length; omega) (by omega)) ?_)
       rintro e w418 ⟨vt418, vi418, rfl, hvt418, hd418, hgc418⟩
       have Hs419 := H
       obtain ⟨ao418, n418, c418, rfl⟩ := View.slice3 hvt418
       have H := Hs419
       refine ⟨_, rfl, fun a H => ?_⟩
       have hz420 := World.grownBy.size hgc418
       have hr421 := RowAt.grown hr414 hgc418 (by omega) (by omega)
       have hs422 := DStep.trans hs416 (DStep.of_grown hgc418)
       refine y_storeRow (vs := [_, _, _, _, _, _]) H rfl rfl hr421 rfl (tok_size' _ _ _ _ _ _) (by simp [Value.oneCell']) fun w423 hr423 hg423 => ?_
       have hz424 := World.grownBy.size hg423
       have hv425 := View.kept hvt418 (World.grownBy.block hg423 g (by omega) (fun e => by injection e with e; omega))
       have hd426 := DW.grownOther hd418 hg423 (by omega) (by omega) hov415 (by omega)
       have hs427 := DStep.thenRow hs422 hg423 (by omega)
       refine y_assign H rfl rfl fun a H => wpList_nil (then_normal (hK417 _ _ ?_))
       replace H := H.k5 0 1 4 5 6 rfl rfl rfl rfl rfl
       refine wp_ret (in_ret (in_ret (then_ret (?_))))
       refine ret2 (by rfl) H rfl rfl hr423 ?_
       rw [show Z = some ((tokT bs s1.k 4 1 0).1, s1.st ++ [c], (tokT bs s1.k 4 1 0).2) from by rw [← HZ1.out, nextB_val2 (by omega), val_open true false hbk (by omega)]; rfl]
       exact ⟨_, _, _, _, rfl, hv425, hd426, by first | (rw [← hs1]; rfl) | rw [← hs1], hs427⟩
      ·refine y_eql (b := false) H rfl rfl (ieq_f (by omega)) rfl fun a H => y_assign H rfl rfl fun a H => wpList_nil (then_normal (hK390 _ _ ?_))
       replace H := H.k8 0 1 4 5 6 7 62 67 rfl rfl rfl rfl rfl rfl rfl rfl
       refine y_iff H rfl ?_
       refine y_seq fun K428 hK428 => ?_
       refine y_reg ?_
       by_cases q429 : ((c.toNat : Int)) = ((91 : Int))
       ·refine y_eql (b := true) H rfl rfl (ieq_t (by omega)) rfl fun a H => y_assign H rfl rfl fun a H => wpList_nil (then_normal (hK428 _ _ ?_))
        replace H := H.k7 0 1 4 5 6 7 75 rfl rfl rfl rfl rfl rfl rfl
        refine y_ift H rfl ?_
        refine y_seq fun K430 hK430 => ?_
        refine y_reg ?_
        refine y_move H rfl rfl fun a H => y_move H rfl rfl fun a H => y_call pf_push H rfl rfl (Calls.mono (push_any c hd7 hlen1) ?_)
        rintro e w431 ⟨rfl, vst431, hd431, hds431⟩
        refine ⟨_, rfl, fun a H => ?_⟩
        have hz432 := DStep.size hds431
        have hr433 := RowAt.kept hr9 (DStep.block hds431 _ (by omega) (by omega) hov)
        have hov434 := (fun e => by rcases DStep.lies hds431 _ e with e | e; exact hov e; omega : _ ≠ some q2)
        have hs435 := DStep.trans hs10 hds431
        refine wpList_nil (then_normal (hK430 _ _ ?_))
        replace H := H.k5 0 1 4 5 6 rfl rfl rfl rfl rfl
        refine y_seq fun K436 hK436 => ?_
        refine y_reg ?_
        refine y_move H rfl rfl fun a H => y_call pf_ctoken H rfl rfl (Calls.mono (consumeToken_any _ 6 0 1 w431 hd431 (by show s1.k + _ ≤ bs.length; omega) (by omega)) ?_)
        rintro e w437 ⟨vt437, vi437, rfl, hvt437, hd437, hgc437⟩
        have Hs438 := H
        obtain ⟨ao437, n437, c437, rfl⟩ := View.slice3 hvt437
        have H := Hs438
        refine ⟨_, rfl, fun a H => ?_⟩
        have hz439 := World.grownBy.size hgc437
        have hr440 := RowAt.grown hr433 hgc437 (by omega) (by omega)
        have hs441 := DStep.trans hs435 (DStep.of_grown hgc437)
        refine y_storeRow (vs := [_, _, _, _, _, _]) H rfl rfl hr440 rfl (tok_size' _ _ _ _ _ _) (by simp [Value.oneCell']) fun w442 hr442 hg442 => ?_
        have hz443 := World.grownBy.size hg442
        have hv444 := View.kept hvt437 (World.grownBy.block hg442 g (by omega) (fun e => by injection e with e; omega))
        have hd445 := DW.grownOther hd437 hg442 (by omega) (by omega) hov434 (by omega)
        have hs446 := DStep.thenRow hs441 hg442 (by omega)
        refine y_assign H rfl rfl fun a H => wpList_nil (then_normal (hK436 _ _ ?_))
        replace H := H.k5 0 1 4 5 6 rfl rfl rfl rfl rfl
        refine wp_ret (in_ret (in_ret (then_ret (?_))))
        refine ret2 (by rfl) H rfl rfl hr442 ?_
        rw [show Z = some ((tokT bs s1.k 6 1 0).1, s1.st ++ [c], (tokT bs s1.k 6 1 0).2) from by rw [← HZ1.out, nextB_val2 (by omega), val_list false hbk (by omega)]; rfl]
        exact ⟨_, _, _, _, rfl, hv444, hd445, by first | (rw [← hs1]; rfl) | rw [← hs1], hs446⟩
       ·refine y_eql (b := false) H rfl rfl (ieq_f (by omega)) rfl fun a H => y_assign H rfl rfl fun a H => wpList_nil (then_normal (hK428 _ _ ?_))
        replace H := H.k7 0 1 4 5 6 7 75 rfl rfl rfl rfl rfl rfl rfl
        refine y_iff H rfl ?_
        refine y_seq fun K447 hK447 => ?_
        refine y_reg ?_
        refine y_move H rfl rfl fun a H => ?_
        have HP448 := parseScalar_any hd7 hm c r hbk
        have Hs449 := H
        rcases hS448 : scalarT bs s1.k with _ | ⟨t448, k448⟩
        ·have H := Hs449
         rw [hS448] at HP448
         refine y_call pf_scalar H rfl rfl (Calls.mono HP448 ?_)
         rintro e w448 ⟨⟨te, xe, rfl⟩, ⟨vi448, k448, hd448⟩, hgc448⟩
         refine ⟨_, rfl, fun a H => ?_⟩
         have hz450 := World.grownBy.size hgc448
         have hr451 := RowAt.grown hr9 hgc448 (by omega) (by omega)
         have hs452 := DStep.trans hs10 (DStep.of_grown hgc448)
         refine y_extract H rfl rfl rfl fun a H => y_extract H rfl rfl rfl fun a H => y_storeRow (vs := [_, _, _, _, _, _]) H rfl rfl hr451 rfl (tok_size' _ _ _ _ _ _) (by simp [Value.oneCell']) fun w453 hr453 hg453 => ?_
         have hz454 := World.grownBy.size hg453
         have hd455 := DW.grownOther hd448 hg453 (by omega) (by omega) hov (by omega)
         have hs456 := DStep.thenRow hs452 hg453 (by omega)
         refine y_assign H rfl rfl fun a H => wpList_nil (then_normal (hK447 _ _ ?_))
         replace H := H.k5 0 1 4 5 6 rfl rfl rfl rfl rfl
         refine wp_ret (in_ret (in_ret (then_ret (?_))))
         refine ret2 (by rfl) H rfl rfl hr453 ?_
         rw [show Z = none from by rw [← HZ1.out, nextB_val2 (by omega), val_scalar true false hbk (by omega) (.inr (by omega)) (.inl rfl), hS448]; rfl]
         exact ⟨⟨_, _, rfl⟩, ⟨_, _, _, hd455, hp1, hs456⟩⟩
        ·have H := Hs449
         rw [hS448] at HP448
         refine y_call pf_scalar H rfl rfl (Calls.mono HP448 ?_)
         rintro e w448 ⟨vt448, vi448, rfl, hvt448, hd448, hgc448⟩
         have Hs457 := H
         obtain ⟨ao448, n448, c448, rfl⟩ := View.slice3 hvt448
         have H := Hs457
         refine ⟨_, rfl, fun a H => ?_⟩
         have hz458 := World.grownBy.size hgc448
         have hr459 := RowAt.grown hr9 hgc448 (by omega) (by omega)
         have hs460 := DStep.trans hs10 (DStep.of_grown hgc448)
         refine y_extract H rfl rfl rfl fun a H => y_extract H rfl rfl rfl fun a H => y_storeRow (vs := [_, _, _, _, _, _]) H rfl rfl hr459 rfl (tok_size' _ _ _ _ _ _) (by simp [Value.oneCell']) fun w461 hr461 hg461 => ?_
         have hz462 := World.grownBy.size hg461
         have hv463 := View.kept hvt448 (World.grownBy.block hg461 g (by omega) (fun e => by injection e with e; omega))
         have hd464 := DW.grownOther hd448 hg461 (by omega) (by omega) hov (by omega)
         have hs465 := DStep.thenRow hs460 hg461 (by omega)
         refine y_assign H rfl rfl fun a H => wpList_nil (then_normal (hK447 _ _ ?_))
         replace H := H.k5 0 1 4 5 6 rfl rfl rfl rfl rfl
         refine wp_ret (in_ret (in_ret (then_ret (?_))))
         refine ret2 (by rfl) H rfl rfl hr461 ?_
         rw [show Z = some (t448, s1.st, k448) from by rw [← HZ1.out, nextB_val2 (by omega), val_scalar true false hbk (by omega) (.inr (by omega)) (.inl rfl), hS448]; rfl]
         exact ⟨_, _, _, _, rfl, hv463, hd464, by first | (rw [← hs1]; rfl) | rw [← hs1], hs465⟩
    ·refine y_eql (b := false) H rfl rfl (ieq_f (by omega)) rfl fun a H => y_assign H rfl rfl fun a H => wpList_nil (then_normal (hK382 _ _ ?_))
     replace H := H.k7 0 1 4 5 6 37 51 rfl rfl rfl rfl rfl rfl rfl
     refine y_iff H rfl ?_
     refine y_seq fun K466 hK466 => ?_
     refine y_reg ?_
     by_cases q467 : (((last : Nat) : Int)) = ((3 : Int))
     ·refine y_eql (b := true) H rfl rfl (ieq_t (by omega)) rfl fun a H => y_assign H rfl rfl fun a H => wpList_nil (then_normal (hK466 _ _ ?_))
      replace H := H.k7 0 1 4 5 6 37 82 rfl rfl rfl rfl rfl rfl rfl
      refine y_ift H rfl ?_
      refine y_seq fun K468 hK468 => ?_
      refine y_reg ?_
      refine y_move H rfl rfl fun a H => y_call pf_okind H rfl rfl (Calls.mono (openKind_any hd7 hok1 hlen1) ?_)
      rintro e w469 ⟨rfl, hb469⟩
      refine ⟨_, rfl, fun a H => ?_⟩
      have hz470 := Below.size hb469
      have hr471 := RowAt.below hr9 (by omega) hb469
      have hd472 := DW.below hd7 hb469
      have hs473 := DStep.trans hs10 (DStep.of_below hb469)
      refine y_move H rfl rfl fun a H => y_extract H rfl rfl rfl fun a H => y_extract H rfl rfl rfl fun a H => y_assign H rfl rfl fun a H => y_assign H rfl rfl fun a H => wpList_nil (then_normal (hK468 _ _ ?_))
      replace H := H.k7 0 1 4 5 6 8 9 rfl rfl rfl rfl rfl rfl rfl
      refine y_seq fun K474 hK474 => ?_
      refine y_reg ?_
      refine y_move H rfl rfl fun a H => wpList_nil (then_normal (hK474 _ _ ?_))
      replace H := H.k7 0 1 4 5 6 9 89 rfl rfl rfl rfl rfl rfl rfl
      refine wp_block ?_
      refine y_seq fun K475 hK475 => ?_
      refine y_reg ?_
      by_cases q476 : (((openK s1.st : Nat) : Int)) = ((0 : Int))
      ·refine y_eql (b := true) H rfl rfl (ieq_t (by omega)) rfl fun a H => y_assign H rfl rfl fun a H => wpList_nil (then_normal (hK475 _ _ ?_))
       replace H := H.k8 0 1 4 5 6 9 89 90 rfl rfl rfl rfl rfl rfl rfl rfl
       refine y_ift H rfl ?_
       refine y_seq fun K477 hK477 => ?_
       refine y_seq fun K478 hK478 => ?_
       refine y_reg ?_
       refine y_move H rfl rfl fun a H => wpList_nil (then_normal (hK478 _ _ ?_))
       replace H := H.k6 0 1 4 5 6 92 rfl rfl rfl rfl rfl rfl
       refine y_iff H rfl ?_
       refine wp_skip (then_normal (hK477 _ _ ?_))
       replace H := H.k5 0 1 4 5 6 rfl rfl rfl rfl rfl
       refine y_seq fun K479 hK479 => ?_
       refine y_reg ?_
       refine y_move H rfl rfl fun a H => y_nilCheck H rfl rfl fun a H => y_field fld_in H rfl rfl fun a H => ?_
       have hvI480 : View w469 g _ (c :: r) := (DW.inn hd472).eq hbk
       refine y_load one22 H rfl (DW.c10 hd472).1 rfl fun a H => y_idx Tryz.underlying22 info5u H rfl rfl hvI480 (by decide) rfl rfl fun a ad H hc481 => ?_
       refine y_load one5 H rfl hc481 rfl fun a H => wpList_nil (then_normal (hK479 _ _ ?_))
       replace H := H.k6 0 1 4 5 6 100 rfl rfl rfl rfl rfl rfl
       refine wp_block ?_
       refine y_seq fun K482 hK482 => ?_
       refine y_reg ?_
       by_cases q483 : ((c.toNat : Int)) = ((44 : Int))
       ·refine y_eql (b := true) H rfl rfl (ieq_t (by omega)) rfl fun a H => y_assign H rfl rfl fun a H => wpList_nil (then_normal (hK482 _ _ ?_))
        replace H := H.k7 0 1 4 5 6 100 105 rfl rfl rfl rfl rfl rfl rfl
        refine y_ift H rfl ?_
        refine y_seq fun K484 hK484 => ?_
        refine y_reg ?_
        refine y_move H rfl rfl fun a H => y_call pf_ctoken H rfl rfl (Calls.mono (consumeToken_any _ 8 0 1 w469 hd472 (by show s1.k + _ ≤ bs.length; omega) (by omega)) ?_)
        rintro e w485 ⟨vt485, vi485, rfl, hvt485, hd485, hgc485⟩
        have Hs486 := H
        obtain ⟨ao485, n485, c485, rfl⟩ := View.slice3 hvt485
        have H := Hs486
        refine ⟨_, rfl, fun a H => ?_⟩
        have hz487 := World.grownBy.size hgc485
        have hr488 := RowAt.grown hr471 hgc485 (by omega) (by omega)
        have hs489 := DStep.trans hs473 (DStep.of_grown hgc485)
        refine y_storeRow (vs := [_, _, _, _, _, _]) H rfl rfl hr488 rfl (tok_size' _ _ _ _ _ _) (by simp [Value.oneCell']) fun w490 hr490 hg490 => ?_
        have hz491 := World.grownBy.size hg490
        have hv492 := View.kept hvt485 (World.grownBy.block hg490 g (by omega) (fun e => by injection e with e; omega))
        have hd493 := DW.grownOther hd485 hg490 (by omega) (by omega) hov (by omega)
        have hs494 := DStep.thenRow hs489 hg490 (by omega)
        refine y_assign H rfl rfl fun a H => wpList_nil (then_normal (hK484 _ _ ?_))
        replace H := H.k5 0 1 4 5 6 rfl rfl rfl rfl rfl
        refine wp_ret (in_ret (in_ret (in_ret (then_ret (?_)))))
        refine ret2 (by rfl) H rfl rfl hr490 ?_
        rw [show Z = some ((tokT bs s1.k 8 1 0).1, s1.st, (tokT bs s1.k 8 1 0).2) from by rw [← HZ1.out, nextB_top3 (by omega) (by omega), top_comma hbk (by omega)]; rfl]
        exact ⟨_, _, _, _, rfl, hv492, hd493, by first | (rw [← hs1]; rfl) | rw [← hs1], hs494⟩
       ·refine y_eql (b := false) H rfl rfl (ieq_f (by omega)) rfl fun a H => y_assign H rfl rfl fun a H => wpList_nil (then_normal (hK482 _ _ ?_))
        replace H := H.k7 0 1 4 5 6 100 105 rfl rfl rfl rfl rfl rfl rfl
        refine y_iff H rfl ?_
        refine y_seq fun K495 hK495 => ?_
        refine y_reg ?_
        by_cases q496 : ((c.toNat : Int)) = ((59 : Int))
        ·refine y_eql (b := true) H rfl rfl (ieq_t (by omega)) rfl fun a H => y_assign H rfl rfl fun a H => wpList_nil (then_normal (hK495 _ _ ?_))
         replace H := H.k6 0 1 4 5 6 109 rfl rfl rfl rfl rfl rfl
         refine y_ift H rfl ?_
         refine y_seq fun K497 hK497 => ?_
         refine y_reg ?_
         refine y_move H rfl rfl fun a H => y_call pf_ctoken H rfl rfl (Calls.mono (consumeToken_any _ 9 0 1 w469 hd472 (by show s1.k + _ ≤ bs.length; omega) (by omega)) ?_)
         rintro e w498 ⟨vt498, vi498, rfl, hvt498, hd498, hgc498⟩
         have Hs499 := H
         obtain ⟨ao498, n498, c498, rfl⟩ := View.slice3 hvt498
         have H := Hs499
         refine ⟨_, rfl, fun a H => ?_⟩
         have hz500 := World.grownBy.size hgc498
         have hr501 := RowAt.grown hr471 hgc498 (by omega) (by omega)
         have hs502 := DStep.trans hs473 (DStep.of_grown hgc498)
         refine y_storeRow (vs := [_, _, _, _, _, _]) H rfl rfl hr501 rfl (tok_size' _ _ _ _ _ _) (by simp [Value.oneCell']) fun w503 hr503 hg503 => ?_
         have hz504 := World.grownBy.size hg503
         have hv505 := View.kept hvt498 (World.grownBy.block hg503 g (by omega) (fun e => by injection e with e; omega))
         have hd506 := DW.grownOther hd498 hg503 (by omega) (by omega) hov (by omega)
         have hs507 := DStep.thenRow hs502 hg503 (by omega)
         refine y_assign H rfl rfl fun a H => wpList_nil (then_normal (hK497 _ _ ?_))
         replace H := H.k5 0 1 4 5 6 rfl rfl rfl rfl rfl
         refine wp_ret (in_ret (in_ret (in_ret (then_ret (?_)))))
         refine ret2 (by rfl) H rfl rfl hr503 ?_
         rw [show Z = some ((tokT bs s1.k 9 1 0).1, s1.st, (tokT bs s1.k 9 1 0).2) from by rw [← HZ1.out, nextB_top3 (by omega) (by omega), top_semi hbk (by omega)]; rfl]
         exact ⟨_, _, _, _, rfl, hv505, hd506, by first | (rw [← hs1]; rfl) | rw [← hs1], hs507⟩
        ·refine y_eql (b := false) H rfl rfl (ieq_f (by omega)) rfl fun a H => y_assign H rfl rfl fun a H => wpList_nil (then_normal (hK495 _ _ ?_))
         replace H := H.k6 0 1 4 5 6 109 rfl rfl rfl rfl rfl rfl
         refine y_iff H rfl ?_
         refine y_seq fun K508 hK508 => ?_
         refine y_reg ?_
         refine y_move H rfl rfl fun a H => ?_
         have HP509 := parseField_any hd472 hm c r hbk
         have Hs510 := H
         rcases hS509 : fieldT bs s1.k with _ | ⟨t509, k509⟩
         ·have H := Hs510
          rw [hS509] at HP509
          refine y_call pf_field H rfl rfl (Calls.mono HP509 ?_)
          rintro e w509 ⟨⟨te, xe, rfl⟩, ⟨vi509, k509, hd509⟩, hgc509⟩
          refine ⟨_, rfl, fun a H => ?_⟩
          have hz511 := World.grownBy.size hgc509
          have hr512 := RowAt.grown hr471 hgc509 (by omega) (by omega)
          have hs513 := DStep.trans hs473 (DStep.of_grown hgc509)
          refine y_extract H rfl rfl rfl fun a H => y_extract H rfl rfl rfl fun a H => y_storeRow (vs := [_, _, _, _, _, _]) H rfl rfl hr512 rfl (tok_size' _ _ _ _ _ _) (by simp [Value.oneCell']) fun w514 hr514 hg514 => ?_
          have hz515 := World.grownBy.size hg514
          have hd516 := DW.grownOther hd509 hg514 (by omega) (by omega) hov (by omega)
          have hs517 := DStep.thenRow hs513 hg514 (by omega)
          refine y_assign H rfl rfl fun a H => wpList_nil (then_normal (hK508 _ _ ?_))
          replace H := H.k5 0 1 4 5 6 rfl rfl rfl rfl rfl
          refine wp_ret (in_ret (in_ret (in_ret (then_ret (?_)))))
          refine ret2 (by rfl) H rfl rfl hr514 ?_
          rw [show Z = none from by rw [← HZ1.out, nextB_top3 (by omega) (by omega), top_field true hbk (.inr (by omega)), hS509]; rfl]
          exact ⟨⟨_, _, rfl⟩, ⟨_, _, _, hd516, hp1, hs517⟩⟩
         ·have H := Hs510
          rw [hS509] at HP509
          refine y_call pf_field H rfl rfl (Calls.mono HP509 ?_)
          rintro e w509 ⟨vt509, vi509, rfl, hvt509, hd509, hgc509⟩
          have Hs518 := H
          obtain ⟨ao509, n509, c509, rfl⟩ := View.slice3 hvt509
          have H := Hs518
          refine ⟨_, rfl, fun a H => ?_⟩
          have hz519 := World.grownBy.size hgc509
          have hr520 := RowAt.grown hr471 hgc509 (by omega) (by omega)
          have hs521 := DStep.trans hs473 (DStep.of_grown hgc509)
          refine y_extract H rfl rfl rfl fun a H => y_extract H rfl rfl rfl fun a H => y_storeRow (vs := [_, _, _, _, _, _]) H rfl rfl hr520 rfl (tok_size' _ _ _ _ _ _) (by simp [Value.oneCell']) fun w522 hr522 hg522 => ?_
          have hz523 := World.grownBy.size hg522
          have hv524 := View.kept hvt509 (World.grownBy.block hg522 g (by omega) (fun e => by injection e with e; omega))
          have hd525 := DW.grownOther hd509 hg522 (by omega) (by omega) hov (by omega)
          have hs526 := DStep.thenRow hs521 hg522 (by omega)
          refine y_assign H rfl rfl fun a H => wpList_nil (then_normal (hK508 _ _ ?_))
          replace H := H.k5 0 1 4 5 6 rfl rfl rfl rfl rfl
          refine wp_ret (in_ret (in_ret (in_ret (then_ret (?_)))))
          refine ret2 (by rfl) H rfl rfl hr522 ?_
          rw [show Z = some (t509, s1.st, k509) from by rw [← HZ1.out, nextB_top3 (by omega) (by omega), top_field true hbk (.inr (by omega)), hS509]; rfl]
          exact ⟨_, _, _, _, rfl, hv524, hd525, by first | (rw [← hs1]; rfl) | rw [← hs1], hs526⟩
      ·refine y_eql (b := false) H rfl rfl (ieq_f (by omega)) rfl fun a H => y_assign H rfl rfl fun a H => wpList_nil (then_normal (hK475 _ _ ?_))
       replace H := H.k8 0 1 4 5 6 9 89 90 rfl rfl rfl rfl rfl rfl rfl rfl
       refine y_iff H rfl ?_
       refine y_seq fun K527 hK527 => ?_
       refine y_reg ?_
       by_cases q528 : (((openK s1.st : Nat) : Int)) = ((4 : Int))
       ·refine y_eql (b := true) H rfl rfl (ieq_t (by omega)) rfl fun a H => y_assign H rfl rfl fun a H => wpList_nil (then_normal (hK527 _ _ ?_))
        replace H := H.k8 0 1 4 5 6 9 89 113 rfl rfl rfl rfl rfl rfl rfl rfl
        refine y_ift H rfl ?_
        refine y_seq fun K529 hK529 => ?_
        refine y_seq fun K530 hK530 => ?_
        refine y_reg ?_
        refine y_move H rfl rfl fun a H => wpList_nil (then_normal (hK530 _ _ ?_))
        replace H := H.k7 0 1 4 5 6 9 115 rfl rfl rfl rfl rfl rfl rfl
        refine y_iff H rfl ?_
        refine wp_skip (then_normal (hK529 _ _ ?_))
        replace H := H.k6 0 1 4 5 6 9 rfl rfl rfl rfl rfl rfl
        refine y_seq fun K531 hK531 => ?_
        refine y_reg ?_
        refine y_move H rfl rfl fun a H => y_nilCheck H rfl rfl fun a H => y_field fld_in H rfl rfl fun a H => ?_
        have hvI532 : View w469 g _ (c :: r) := (DW.inn hd472).eq hbk
        refine y_load one22 H rfl (DW.c10 hd472).1 rfl fun a H => y_idx Tryz.underlying22 info5u H rfl rfl hvI532 (by decide) rfl rfl fun a ad H hc533 => ?_
        refine y_load one5 H rfl hc533 rfl fun a H => y_assign H rfl rfl fun a H => wpList_nil (then_normal (hK531 _ _ ?_))
        replace H := H.k7 0 1 4 5 6 9 10 rfl rfl rfl rfl rfl rfl rfl
        refine y_seq fun K534 hK534 => ?_
        refine y_reg ?_
        refine y_move H rfl rfl fun a H => wpList_nil (then_normal (hK534 _ _ ?_))
        replace H := H.k8 0 1 4 5 6 9 10 124 rfl rfl rfl rfl rfl rfl rfl rfl
        refine wp_block ?_
        refine y_seq fun K535 hK535 => ?_
        refine y_reg ?_
        refine y_move H rfl rfl fun a H => ?_
        by_cases q536 : ((c.toNat : Int)) = (((closeT s1.st : Nat) : Int))
        ·refine y_eql (b := true) H rfl rfl (ieq_t (by omega)) rfl fun a H => y_assign H rfl rfl fun a H => wpList_nil (then_normal (hK535 _ _ ?_))
         replace H := H.k9 0 1 4 5 6 9 10 124 129 rfl rfl rfl rfl rfl rfl rfl rfl rfl
         refine y_ift H rfl ?_
         refine y_seq fun K537 hK537 => ?_
         refine y_reg ?_
         refine y_move H rfl rfl fun a H => y_call pf_pop H rfl rfl (Calls.mono (pop_any hd472 (open_ne (by omega)) hlen1) ?_)
         rintro e w538 ⟨rfl, vst538, hd538, hds538⟩
         refine ⟨_, rfl, fun a H => ?_⟩
         have hz539 := DStep.size hds538
         have hr540 := RowAt.kept hr471 (DStep.block hds538 _ (by omega) (by omega) hov)
         have hov541 := (fun e => by rcases DStep.lies hds538 _ e with e | e; exact hov e; omega : _ ≠ some q2)
         have hs542 := DStep.trans hs473 hds538
         refine wpList_nil (then_normal (hK537 _ _ ?_))
         replace H := H.k5 0 1 4 5 6 rfl rfl rfl rfl rfl
         refine y_seq fun K543 hK543 => ?_
         refine y_reg ?_
         refine y_move H rfl rfl fun a H => y_call pf_ctoken H rfl rfl (Calls.mono (consumeToken_any _ 5 0 1 w538 hd538 (by show s1.k + _ ≤ bs.length; omega) (by omega)) ?_)
         rintro e w544 ⟨vt544, vi544, rfl, hvt544, hd544, hgc544⟩
         have Hs545 := H
         obtain ⟨ao544, n544, c544, rfl⟩ := View.slice3 hvt544
         have H := Hs545
         refine ⟨_, rfl, fun a H => ?_⟩
         have hz546 := World.grownBy.size hgc544
         have hr547 := RowAt.grown hr540 hgc544 (by omega) (by omega)
         have hs548 := DStep.trans hs542 (DStep.of_grown hgc544)
         refine y_storeRow (vs := [_, _, _, _, _, _]) H rfl rfl hr547 rfl (tok_size' _ _ _ _ _ _) (by simp [Value.oneCell']) fun w549 hr549 hg549 => ?_
         have hz550 := World.grownBy.size hg549
         have hv551 := View.kept hvt544 (World.grownBy.block hg549 g (by omega) (fun e => by injection e with e; omega))
         have hd552 := DW.grownOther hd544 hg549 (by omega) (by omega) hov541 (by omega)
         have hs553 := DStep.thenRow hs548 hg549 (by omega)
         refine y_assign H rfl rfl fun a H => wpList_nil (then_normal (hK543 _ _ ?_))
         replace H := H.k5 0 1 4 5 6 rfl rfl rfl rfl rfl
         refine wp_ret (in_ret (in_ret (in_ret (then_ret (?_)))))
         refine ret2 (by rfl) H rfl rfl hr549 ?_
         rw [show Z = some ((tokT bs s1.k 5 1 0).1, s1.st.dropLast, (tokT bs s1.k 5 1 0).2) from by rw [← HZ1.out, nextB_msg3 (by omega) (by omega), msg_close true hbk (by omega)]; rfl]
         exact ⟨_, _, _, _, rfl, hv551, hd552, by first | (rw [← hs1]; rfl) | rw [← hs1], hs553⟩
        ·refine y_eql (b := false) H rfl rfl (ieq_f (by omega)) rfl fun a H => y_assign H rfl rfl fun a H => wpList_nil (then_normal (hK535 _ _ ?_))
         replace H := H.k9 0 1 4 5 6 9 10 124 129 rfl rfl rfl rfl rfl rfl rfl rfl rfl
         refine y_iff H rfl ?_
         refine y_seq fun K554 hK554 => ?_
         refine y_reg ?_
         refine y_call pf_other H rfl rfl (Calls.mono (other_any w469) ?_)
         rintro e w555 ⟨b555, rfl, hlk555, hb555⟩
         refine ⟨_, rfl, fun a H => ?_⟩
         have hz556 := Below.size hb555
         have hr557 := RowAt.below hr471 (by omega) hb555
         have hd558 := DW.below hd472 hb555
         have hs559 := DStep.trans hs473 (DStep.of_below hb555)
         refine y_move H rfl rfl fun a H => y_lookup (k := closeT s1.st) H rfl rfl (hlk555 _ (by omega)) rfl fun a H => ?_
         by_cases q560 : ((c.toNat : Int)) = (((otherT (closeT s1.st) : Nat) : Int))
         ·refine y_eql (b := true) H rfl rfl (ieq_t (by omega)) rfl fun a H => y_assign H rfl rfl fun a H => wpList_nil (then_normal (hK554 _ _ ?_))
          replace H := H.k8 0 1 4 5 6 10 124 136 rfl rfl rfl rfl rfl rfl rfl rfl
          refine y_ift H rfl ?_
          refine y_seq fun K561 hK561 => ?_
          refine y_reg ?_
          refine y_bld built_tok0 H rfl rfl fun a H => y_move H rfl rfl fun a H => y_move H rfl rfl fun a H => y_mkIface Tryz.underlying5 rfl H rfl rfl fun a H => y_any1 H rfl rfl fun w562 u562 hb562 a H => ?_
          have hz563 := Below.size hb562
          have hr564 := RowAt.below hr557 (by omega) hb562
          have hd565 := DW.below hd558 hb562
          have hs566 := DStep.trans hs559 (DStep.of_below hb562)
          refine y_call pf_newerr H rfl rfl (Calls.mono (newError_any _ _ _ w562 (by decide)) ?_)
          rintro e w567 ⟨⟨xe, rfl⟩, hb567⟩
          refine ⟨_, rfl, fun a H => ?_⟩
          have hz568 := Below.size hb567
          have hr569 := RowAt.below hr564 (by omega) hb567
          have hd570 := DW.below hd565 hb567
          have hs571 := DStep.trans hs566 (DStep.of_below hb567)
          refine y_storeRow (vs := [_, _, _, _, _, _]) H rfl rfl hr569 rfl (tok_size' _ _ _ _ _ _) (by simp [Value.oneCell']) fun w572 hr572 hg572 => ?_
          have hz573 := World.grownBy.size hg572
          have hd574 := DW.grownOther hd570 hg572 (by omega) (by omega) hov (by omega)
          have hs575 := DStep.thenRow hs571 hg572 (by omega)
          refine y_assign H rfl rfl fun a H => wpList_nil (then_normal (hK561 _ _ ?_))
          replace H := H.k5 0 1 4 5 6 rfl rfl rfl rfl rfl
          refine wp_ret (in_ret (in_ret (in_ret (then_ret (?_)))))
          refine ret2 (by rfl) H rfl rfl hr572 ?_
          rw [show Z = none from by rw [← HZ1.out, nextB_msg3 (by omega) (by omega), msg_other true hbk (by omega) (by omega)]]
          exact ⟨⟨_, _, rfl⟩, ⟨_, _, _, hd574, hp1, hs575⟩⟩
         ·refine y_eql (b := false) H rfl rfl (ieq_f (by omega)) rfl fun a H => y_assign H rfl rfl fun a H => wpList_nil (then_normal (hK554 _ _ ?_))
          replace H := H.k8 0 1 4 5 6 10 124 136 rfl rfl rfl rfl rfl rfl rfl rfl
          refine y_iff H rfl ?_
          refine y_seq fun K576 hK576 => ?_
          refine y_reg ?_
          by_cases q577 : ((c.toNat : Int)) = ((44 : Int))
          ·refine y_eql (b := true) H rfl rfl (ieq_t (by omega)) rfl fun a H => y_assign H rfl rfl fun a H => wpList_nil (then_normal (hK576 _ _ ?_))
           replace H := H.k7 0 1 4 5 6 124 147 rfl rfl rfl rfl rfl rfl rfl
           refine y_ift H rfl ?_
           refine y_seq fun K578 hK578 => ?_
           refine y_reg ?_
           refine y_move H rfl rfl fun a H => y_call pf_ctoken H rfl rfl (Calls.mono (consumeToken_any _ 8 0 1 w555 hd558 (by show s1.k + _ ≤ bs.length; omega) (by omega)) ?_)
           rintro e w579 ⟨vt579, vi579, rfl, hvt579, hd579, hgc579⟩
           have Hs580 := H
           obtain ⟨ao579, n579, c579, rfl⟩ := View.slice3 hvt579
           have H := Hs580
           refine ⟨_, rfl, fun a H => ?_⟩
           have hz581 := World.grownBy.size hgc579
           have hr582 := RowAt.grown hr557 hgc579 (by omega) (by omega)
           have hs583 := DStep.trans hs559 (DStep.of_grown hgc579)
           refine y_storeRow (vs := [_, _, _, _, _, _]) H rfl rfl hr582 rfl (tok_size' _ _ _ _ _ _) (by simp [Value.oneCell']) fun w584 hr584 hg584 => ?_
           have hz585 := World.grownBy.size hg584
           have hv586 := View.kept hvt579 (World.grownBy.block hg584 g (by omega) (fun e => by injection e with e; omega))
           have hd587 := DW.grownOther hd579 hg584 (by omega) (by omega) hov (by omega)
           have hs588 := DStep.thenRow hs583 hg584 (by omega)
           refine y_assign H rfl rfl fun a H => wpList_nil (then_normal (hK578 _ _ ?_))
           replace H := H.k5 0 1 4 5 6 rfl rfl rfl rfl rfl
           refine wp_ret (in_ret (in_ret (in_ret (then_ret (?_)))))
           refine ret2 (by rfl) H rfl rfl hr584 ?_
           rw [show Z = some ((tokT bs s1.k 8 1 0).1, s1.st, (tokT bs s1.k 8 1 0).2) from by rw [← HZ1.out, nextB_msg3 (by omega) (by omega), msg_comma hbk (by omega) (by omega) (by omega)]; rfl]
           exact ⟨_, _, _, _, rfl, hv586, hd587, by first | (rw [← hs1]; rfl) | rw [← hs1], hs588⟩
          ·refine y_eql (b := false) H rfl rfl (ieq_f (by omega)) rfl fun a H => y_assign H rfl rfl fun a H => wpList_nil (then_normal (hK576 _ _ ?_))
           replace H := H.k7 0 1 4 5 6 124 147 rfl rfl rfl rfl rfl rfl rfl
           refine y_iff H rfl ?_
           refine y_seq fun K589 hK589 => ?_
           refine y_reg ?_
           by_cases q590 : ((c.toNat : Int)) = ((59 : Int))
           ·refine y_eql (b := true) H rfl rfl (ieq_t (by omega)) rfl fun a H => y_assign H rfl rfl fun a H => wpList_nil (then_normal (hK589 _ _ ?_))
            replace H := H.k6 0 1 4 5 6 151 rfl rfl rfl rfl rfl rfl
            refine y_ift H rfl ?_
            refine y_seq fun K591 hK591 => ?_
            refine y_reg ?_
            refine y_move H rfl rfl fun a H => y_call pf_ctoken H rfl rfl (Calls.mono (consumeToken_any _ 9 0 1 w555 hd558 (by show s1.k + _ ≤ bs.length; omega) (by omega)) ?_)
            rintro e w592 ⟨vt592, vi592, rfl, hvt592, hd592, hgc592⟩
            have Hs593 := H
            obtain ⟨ao592, n592, c592, rfl⟩ := View.slice3 hvt592
            have H := Hs593
            refine ⟨_, rfl, fun a H => ?_⟩
            have hz594 := World.grownBy.size hgc592
            have hr595 := RowAt.grown hr557 hgc592 (by omega) (by omega)
            have hs596 := DStep.trans hs559 (DStep.of_grown hgc592)
            refine y_storeRow (vs := [_, _, _, _, _, _]) H rfl rfl hr595 rfl (tok_size' _ _ _ _ _ _) (by simp [Value.oneCell']) fun w597 hr597 hg597 => ?_
            have hz598 := World.grownBy.size hg597
            have hv599 := View.kept hvt592 (World.grownBy.block hg597 g (by omega) (fun e => by injection e with e; omega))
            have hd600 := DW.grownOther hd592 hg597 (by omega) (by omega) hov (by omega)
            have hs601 := DStep.thenRow hs596 hg597 (by omega)
            refine y_assign H rfl rfl fun a H => wpList_nil (then_normal (hK591 _ _ ?_))
            replace H := H.k5 0 1 4 5 6 rfl rfl rfl rfl rfl
            refine wp_ret (in_ret (in_ret (in_ret (then_ret (?_)))))
            refine ret2 (by rfl) H rfl rfl hr597 ?_
            rw [show Z = some ((tokT bs s1.k 9 1 0).1, s1.st, (tokT bs s1.k 9 1 0).2) from by rw [← HZ1.out, nextB_msg3 (by omega) (by omega), msg_semi hbk (by omega) (by omega) (by omega)]; rfl]
            exact ⟨_, _, _, _, rfl, hv599, hd600, by first | (rw [← hs1]; rfl) | rw [← hs1], hs601⟩
           ·refine y_eql (b := false) H rfl rfl (ieq_f (by omega)) rfl fun a H => y_assign H rfl rfl fun a H => wpList_nil (then_normal (hK589 _ _ ?_))
            replace H := H.k6 0 1 4 5 6 151 rfl rfl rfl rfl rfl rfl
            refine y_iff H rfl ?_
            refine y_seq fun K602 hK602 => ?_
            refine y_reg ?_
            refine y_move H rfl rfl fun a H => ?_
            have HP603 := parseField_any hd558 hm c r hbk
            have Hs604 := H
            rcases hS603 : fieldT bs s1.k with _ | ⟨t603, k603⟩
            ·have H := Hs604
             rw [hS603] at HP603
             refine y_call pf_field H rfl rfl (Calls.mono HP603 ?_)
             rintro e w603 ⟨⟨te, xe, rfl⟩, ⟨vi603, k603, hd603⟩, hgc603⟩
             refine ⟨_, rfl, fun a H => ?_⟩
             have hz605 := World.grownBy.size hgc603
             have hr606 := RowAt.grown hr557 hgc603 (by omega) (by omega)
             have hs607 := DStep.trans hs559 (DStep.of_grown hgc603)
             refine y_extract H rfl rfl rfl fun a H => y_extract H rfl rfl rfl fun a H => y_storeRow (vs := [_, _, _, _, _, _]) H rfl rfl hr606 rfl (tok_size' _ _ _ _ _ _) (by simp [Value.oneCell']) fun w608 hr608 hg608 => ?_
             have hz609 := World.grownBy.size hg608
             have hd610 := DW.grownOther hd603 hg608 (by omega) (by omega) hov (by omega)
             have hs611 := DStep.thenRow hs607 hg608 (by omega)
             refine y_assign H rfl rfl fun a H => wpList_nil (then_normal (hK602 _ _ ?_))
             replace H := H.k5 0 1 4 5 6 rfl rfl rfl rfl rfl
             refine wp_ret (in_ret (in_ret (in_ret (then_ret (?_)))))
             refine ret2 (by rfl) H rfl rfl hr608 ?_
             rw [show Z = none from by rw [← HZ1.out, nextB_msg3 (by omega) (by omega), msg_field true hbk (by omega) (by omega) (.inr (by omega)), hS603]; rfl]
             exact ⟨⟨_, _, rfl⟩, ⟨_, _, _, hd610, hp1, hs611⟩⟩
            ·have H := Hs604
             rw [hS603] at HP603
             refine y_call pf_field H rfl rfl (Calls.mono HP603 ?_)
             rintro e w603 ⟨vt603, vi603, rfl, hvt603, hd603, hgc603⟩
             have Hs612 := H
             obtain ⟨ao603, n603, c603, rfl⟩ := View.slice3 hvt603
             have H := Hs612
             refine ⟨_, rfl, fun a H => ?_⟩
             have hz613 := World.grownBy.size hgc603
             have hr614 := RowAt.grown hr557 hgc603 (by omega) (by omega)
             have hs615 := DStep.trans hs559 (DStep.of_grown hgc603)
             refine y_extract H rfl rfl rfl fun a H => y_extract H rfl rfl rfl fun a H => y_storeRow (vs := [_, _, _, _, _, _]) H rfl rfl hr614 rfl (tok_size' _ _ _ _ _ _) (by simp [Value.oneCell']) fun w616 hr616 hg616 => ?_
             have hz617 := World.grownBy.size hg616
             have hv618 := View.kept hvt603 (World.grownBy.block hg616 g (by omega) (fun e => by injection e with e; omega))
             have hd619 := DW.grownOther hd603 hg616 (by omega) (by omega) hov (by omega)
             have hs620 := DStep.thenRow hs615 hg616 (by omega)
             refine y_assign H rfl rfl fun a H => wpList_nil (then_normal (hK602 _ _ ?_))
             replace H := H.k5 0 1 4 5 6 rfl rfl rfl rfl rfl
             refine wp_ret (in_ret (in_ret (in_ret (then_ret (?_)))))
             refine ret2 (by rfl) H rfl rfl hr616 ?_
             rw [show Z = some (t603, s1.st, k603) from by rw [← HZ1.out, nextB_msg3 (by omega) (by omega), msg_field true hbk (by omega) (by omega) (.inr (by omega)), hS603]; rfl]
             exact ⟨_, _, _, _, rfl, hv618, hd619, by first | (rw [← hs1]; rfl) | rw [← hs1], hs620⟩
       ·refine y_eql (b := false) H rfl rfl (ieq_f (by omega)) rfl fun a H => y_assign H rfl rfl fun a H => wpList_nil (then_normal (hK527 _ _ ?_))
        replace H := H.k8 0 1 4 5 6 9 89 113 rfl rfl rfl rfl rfl rfl rfl rfl
        refine y_iff H rfl ?_
        refine y_seq fun K621 hK621 => ?_
        refine y_reg ?_
        refine y_eql (b := true) H rfl rfl (ieq_t (by omega)) rfl fun a H => y_assign H rfl rfl fun a H => wpList_nil (then_normal (hK621 _ _ ?_))
        replace H := H.k6 0 1 4 5 6 155 rfl rfl rfl rfl rfl rfl
        refine y_ift H rfl ?_
        refine y_seq fun K622 hK622 => ?_
        refine y_seq fun K623 hK623 => ?_
        refine y_reg ?_
        refine y_move H rfl rfl fun a H => wpList_nil (then_normal (hK623 _ _ ?_))
        replace H := H.k6 0 1 4 5 6 157 rfl rfl rfl rfl rfl rfl
        refine y_iff H rfl ?_
        refine wp_skip (then_normal (hK622 _ _ ?_))
        replace H := H.k5 0 1 4 5 6 rfl rfl rfl rfl rfl
        refine y_seq fun K624 hK624 => ?_
        refine y_reg ?_
        refine y_move H rfl rfl fun a H => y_nilCheck H rfl rfl fun a H => y_field fld_in H rfl rfl fun a H => ?_
        have hvI625 : View w469 g _ (c :: r) := (DW.inn hd472).eq hbk
        refine y_load one22 H rfl (DW.c10 hd472).1 rfl fun a H => y_idx Tryz.underlying22 info5u H rfl rfl hvI625 (by decide) rfl rfl fun a ad H hc626 => ?_
        refine y_load one5 H rfl hc626 rfl fun a H => y_assign H rfl rfl fun a H => wpList_nil (then_normal (hK624 _ _ ?_))
        replace H := H.k6 0 1 4 5 6 11 rfl rfl rfl rfl rfl rfl
        refine y_seq fun K627 hK627 => ?_
        refine y_reg ?_
        refine y_move H rfl rfl fun a H => wpList_nil (then_normal (hK627 _ _ ?_))
        replace H := H.k7 0 1 4 5 6 11 166 rfl rfl rfl rfl rfl rfl rfl
        refine wp_block ?_
        refine y_seq fun K628 hK628 => ?_
        refine y_reg ?_
        by_cases q629 : ((c.toNat : Int)) = ((93 : Int))
        ·refine y_eql (b := true) H rfl rfl (ieq_t (by omega)) rfl fun a H => y_assign H rfl rfl fun a H => wpList_nil (then_normal (hK628 _ _ ?_))
         replace H := H.k8 0 1 4 5 6 11 166 173 rfl rfl rfl rfl rfl rfl rfl rfl
         refine y_ift H rfl ?_
         refine y_seq fun K630 hK630 => ?_
         refine y_reg ?_
         refine y_move H rfl rfl fun a H => y_call pf_pop H rfl rfl (Calls.mono (pop_any hd472 (open_ne (by omega)) hlen1) ?_)
         rintro e w631 ⟨rfl, vst631, hd631, hds631⟩
         refine ⟨_, rfl, fun a H => ?_⟩
         have hz632 := DStep.size hds631
         have hr633 := RowAt.kept hr471 (DStep.block hds631 _ (by omega) (by omega) hov)
         have hov634 := (fun e => by rcases DStep.lies hds631 _ e with e | e; exact hov e; omega : _ ≠ some q2)
         have hs635 := DStep.trans hs473 hds631
         refine wpList_nil (then_normal (hK630 _ _ ?_))
         replace H := H.k5 0 1 4 5 6 rfl rfl rfl rfl rfl
         refine y_seq fun K636 hK636 => ?_
         refine y_reg ?_
         refine y_move H rfl rfl fun a H => y_call pf_ctoken H rfl rfl (Calls.mono (consumeToken_any _ 7 0 1 w631 hd631 (by show s1.k + _ ≤ bs.length; omega) (by omega)) ?_)
         rintro e w637 ⟨vt637, vi637, rfl, hvt637, hd637, hgc637⟩
         have Hs638 := H
         obtain ⟨ao637, n637, c637, rfl⟩ := View.slice3 hvt637
         have H := Hs638
         refine ⟨_, rfl, fun a H => ?_⟩
         have hz639 := World.grownBy.size hgc637
         have hr640 := RowAt.grown hr633 hgc637 (by omega) (by omega)
         have hs641 := DStep.trans hs635 (DStep.of_grown hgc637)
         refine y_storeRow (vs := [_, _, _, _, _, _]) H rfl rfl hr640 rfl (tok_size' _ _ _ _ _ _) (by simp [Value.oneCell']) fun w642 hr642 hg642 => ?_
         have hz643 := World.grownBy.size hg642
         have hv644 := View.kept hvt637 (World.grownBy.block hg642 g (by omega) (fun e => by injection e with e; omega))
         have hd645 := DW.grownOther hd637 hg642 (by omega) (by omega) hov634 (by omega)
         have hs646 := DStep.thenRow hs641 hg642 (by omega)
         refine y_assign H rfl rfl fun a H => wpList_nil (then_normal (hK636 _ _ ?_))
         replace H := H.k5 0 1 4 5 6 rfl rfl rfl rfl rfl
         refine wp_ret (in_ret (in_ret (in_ret (then_ret (?_)))))
         refine ret2 (by rfl) H rfl rfl hr642 ?_
         rw [show Z = some ((tokT bs s1.k 7 1 0).1, s1.st.dropLast, (tokT bs s1.k 7 1 0).2) from by rw [← HZ1.out, nextB_list3 (by omega) (by omega), list_close hbk (by omega)]; rfl]
         exact ⟨_, _, _, _, rfl, hv644, hd645, by first | (rw [← hs1]; rfl) | rw [← hs1], hs646⟩
        ·refine y_eql (b := false) H rfl rfl (ieq_f (by omega)) rfl fun a H => y_assign H rfl rfl fun a H => wpList_nil (then_normal (hK628 _ _ ?_))
         replace H := H.k8 0 1 4 5 6 11 166 173 rfl rfl rfl rfl rfl rfl rfl rfl
         refine y_iff H rfl ?_
         refine y_seq fun K647 hK647 => ?_
         refine y_reg ?_
         by_cases q648 : ((c.toNat : Int)) = ((44 : Int))
         ·refine y_eql (b := true) H rfl rfl (ieq_t (by omega)) rfl fun a H => y_assign H rfl rfl fun a H => wpList_nil (then_normal (hK647 _ _ ?_))
          replace H := H.k7 0 1 4 5 6 11 179 rfl rfl rfl rfl rfl rfl rfl
          refine y_ift H rfl ?_
          refine y_seq fun K649 hK649 => ?_
          refine y_reg ?_
          refine y_move H rfl rfl fun a H => y_call pf_ctoken H rfl rfl (Calls.mono (consumeToken_any _ 8 0 1 w469 hd472 (by show s1.k + _ ≤ bs.length; omega) (by omega)) ?_)
          rintro e w650 ⟨vt650, vi650, rfl, hvt650, hd650, hgc650⟩
          have Hs651 := H
          obtain ⟨ao650, n650, c650, rfl⟩ := View.slice3 hvt650
          have H := Hs651
          refine ⟨_, rfl, fun a H => ?_⟩
          have hz652 := World.grownBy.size hgc650
          have hr653 := RowAt.grown hr471 hgc650 (by omega) (by omega)
          have hs654 := DStep.trans hs473 (DStep.of_grown hgc650)
          refine y_storeRow (vs := [_, _, _, _, _, _]) H rfl rfl hr653 rfl (tok_size' _ _ _ _ _ _) (by simp [Value.oneCell']) fun w655 hr655 hg655 => ?_
          have hz656 := World.grownBy.size hg655
          have hv657 := View.kept hvt650 (World.grownBy.block hg655 g (by omega) (fun e => by injection e with e; omega))
          have hd658 := DW.grownOther hd650 hg655 (by omega) (by omega) hov (by omega)
          have hs659 := DStep.thenRow hs654 hg655 (by omega)
          refine y_assign H rfl rfl fun a H => wpList_nil (then_normal (hK649 _ _ ?_))
          replace H := H.k5 0 1 4 5 6 rfl rfl rfl rfl rfl
          refine wp_ret (in_ret (in_ret (in_ret (then_ret (?_)))))
          refine ret2 (by rfl) H rfl rfl hr655 ?_
          rw [show Z = some ((tokT bs s1.k 8 1 0).1, s1.st, (tokT bs s1.k 8 1 0).2) from by rw [← HZ1.out, nextB_list3 (by omega) (by omega), list_comma hbk (by omega)]; rfl]
          exact ⟨_, _, _, _, rfl, hv657, hd658, by first | (rw [← hs1]; rfl) | rw [← hs1], hs659⟩
         ·refine y_eql (b := false) H rfl rfl (ieq_f (by omega)) rfl fun a H => y_assign H rfl rfl fun a H => wpList_nil (then_normal (hK647 _ _ ?_))
          replace H := H.k7 0 1 4 5 6 11 179 rfl rfl rfl rfl rfl rfl rfl
          refine y_iff H rfl ?_
          refine y_seq fun K660 hK660 => ?_
          refine y_reg ?_
          refine y_bld built_tok0 H rfl rfl fun a H => y_move H rfl rfl fun a H => y_move H rfl rfl fun a H => y_mkIface Tryz.underlying5 rfl H rfl rfl fun a H => y_any1 H rfl rfl fun w661 u661 hb661 a H => ?_
          have hz662 := Below.size hb661
          have hr663 := RowAt.below hr471 (by omega) hb661
          have hd664 := DW.below hd472 hb661
          have hs665 := DStep.trans hs473 (DStep.of_below hb661)
          refine y_call pf_newerr H rfl rfl (Calls.mono (newError_any _ _ _ w661 (by decide)) ?_)
          rintro e w666 ⟨⟨xe, rfl⟩, hb666⟩
          refine ⟨_, rfl, fun a H => ?_⟩
          have hz667 := Below.size hb666
          have hr668 := RowAt.below hr663 (by omega) hb666
          have hd669 := DW.below hd664 hb666
          have hs670 := DStep.trans hs665 (DStep.of_below hb666)
          refine y_storeRow (vs := [_, _, _, _, _, _]) H rfl rfl hr668 rfl (tok_size' _ _ _ _ _ _) (by simp [Value.oneCell']) fun w671 hr671 hg671 => ?_
          have hz672 := World.grownBy.size hg671
          have hd673 := DW.grownOther hd669 hg671 (by omega) (by omega) hov (by omega)
          have hs674 := DStep.thenRow hs670 hg671 (by omega)
          refine y_assign H rfl rfl fun a H => wpList_nil (then_normal (hK660 _ _ ?_))
          replace H := H.k5 0 1 4 5 6 rfl rfl rfl rfl rfl
          refine wp_ret (in_ret (in_ret (in_ret (then_ret (?_)))))
          refine ret2 (by rfl) H rfl rfl hr671 ?_
          rw [show Z = none from by rw [← HZ1.out, nextB_list3 (by omega) (by omega), list_bad hbk (by omega) (by omega)]]
          exact ⟨⟨_, _, rfl⟩, ⟨_, _, _, hd673, hp1, hs674⟩⟩
     ·refine y_eql (b := false) H rfl rfl (ieq_f (by omega)) rfl fun a H => y_assign H rfl rfl fun a H => wpList_nil (then_normal (hK466 _ _ ?_))
      replace H := H.k7 0 1 4 5 6 37 82 rfl rfl rfl rfl rfl rfl rfl
      refine y_iff H rfl ?_
      refine y_seq fun K675 hK675 => ?_
      refine y_reg ?_
      by_cases q676 : (((last : Nat) : Int)) = ((4 : Int))
      ·refine y_eql (b := true) H rfl rfl (ieq_t (by omega)) rfl fun a H => y_assign H rfl rfl fun a H => wpList_nil (then_normal (hK675 _ _ ?_))
       replace H := H.k7 0 1 4 5 6 37 183 rfl rfl rfl rfl rfl rfl rfl
       refine y_ift H rfl ?_
       refine y_seq fun K677 hK677 => ?_
       refine y_seq fun K678 hK678 => ?_
       refine y_reg ?_
       refine y_move H rfl rfl fun a H => wpList_nil (then_normal (hK678 _ _ ?_))
       replace H := H.k6 0 1 4 5 6 185 rfl rfl rfl rfl rfl rfl
       refine y_iff H rfl ?_
       refine wp_skip (then_normal (hK677 _ _ ?_))
       replace H := H.k5 0 1 4 5 6 rfl rfl rfl rfl rfl
       refine y_seq fun K679 hK679 => ?_
       refine y_reg ?_
       refine y_move H rfl rfl fun a H => y_call pf_okind H rfl rfl (Calls.mono (openKind_any hd7 hok1 hlen1) ?_)
       rintro e w680 ⟨rfl, hb680⟩
       refine ⟨_, rfl, fun a H => ?_⟩
       have hz681 := Below.size hb680
       have hr682 := RowAt.below hr9 (by omega) hb680
       have hd683 := DW.below hd7 hb680
       have hs684 := DStep.trans hs10 (DStep.of_below hb680)
       refine y_move H rfl rfl fun a H => y_extract H rfl rfl rfl fun a H => y_extract H rfl rfl rfl fun a H => y_assign H rfl rfl fun a H => y_assign H rfl rfl fun a H => wpList_nil (then_normal (hK679 _ _ ?_))
       replace H := H.k6 0 1 4 5 6 13 rfl rfl rfl rfl rfl rfl
       refine y_seq fun K685 hK685 => ?_
       refine y_reg ?_
       refine y_move H rfl rfl fun a H => y_nilCheck H rfl rfl fun a H => y_field fld_in H rfl rfl fun a H => ?_
       have hvI686 : View w680 g _ (c :: r) := (DW.inn hd683).eq hbk
       refine y_load one22 H rfl (DW.c10 hd683).1 rfl fun a H => y_idx Tryz.underlying22 info5u H rfl rfl hvI686 (by decide) rfl rfl fun a ad H hc687 => ?_
       refine y_load one5 H rfl hc687 rfl fun a H => y_assign H rfl rfl fun a H => wpList_nil (then_normal (hK685 _ _ ?_))
       replace H := H.k7 0 1 4 5 6 13 14 rfl rfl rfl rfl rfl rfl rfl
       refine y_seq fun K688 hK688 => ?_
       refine y_reg ?_
       refine y_move H rfl rfl fun a H => wpList_nil (then_normal (hK688 _ _ ?_))
       replace H := H.k8 0 1 4 5 6 13 14 199 rfl rfl rfl rfl rfl rfl rfl rfl
       refine wp_block ?_
       refine y_seq fun K689 hK689 => ?_
       refine y_reg ?_
       refine y_move H rfl rfl fun a H => ?_
       by_cases q690 : ((c.toNat : Int)) = (((closeT s1.st : Nat) : Int))
       ·refine y_eql (b := true) H rfl rfl (ieq_t (by omega)) rfl fun a H => y_assign H rfl rfl fun a H => wpList_nil (then_normal (hK689 _ _ ?_))
        replace H := H.k9 0 1 4 5 6 13 14 199 204 rfl rfl rfl rfl rfl rfl rfl rfl rfl
        refine y_ift H rfl ?_
        refine y_seq fun K691 hK691 => ?_
        refine y_reg ?_
        refine y_move H rfl rfl fun a H => y_call pf_pop H rfl rfl (Calls.mono (pop_any hd683 (open_ne (by omega)) hlen1) ?_)
        rintro e w692 ⟨rfl, vst692, hd692, hds692⟩
        refine ⟨_, rfl, fun a H => ?_⟩
        have hz693 := DStep.size hds692
        have hr694 := RowAt.kept hr682 (DStep.block hds692 _ (by omega) (by omega) hov)
        have hov695 := (fun e => by rcases DStep.lies hds692 _ e with e | e; exact hov e; omega : _ ≠ some q2)
        have hs696 := DStep.trans hs684 hds692
        refine wpList_nil (then_normal (hK691 _ _ ?_))
        replace H := H.k5 0 1 4 5 6 rfl rfl rfl rfl rfl
        refine y_seq fun K697 hK697 => ?_
        refine y_reg ?_
        refine y_move H rfl rfl fun a H => y_call pf_ctoken H rfl rfl (Calls.mono (consumeToken_any _ 5 0 1 w692 hd692 (by show s1.k + _ ≤ bs.length; omega) (by omega)) ?_)
        rintro e w698 ⟨vt698, vi698, rfl, hvt698, hd698, hgc698⟩
        have Hs699 := H
        obtain ⟨ao698, n698, c698, rfl⟩ := View.slice3 hvt698
        have H := Hs699
        refine ⟨_, rfl, fun a H => ?_⟩
        have hz700 := World.grownBy.size hgc698
        have hr701 := RowAt.grown hr694 hgc698 (by omega) (by omega)
        have hs702 := DStep.trans hs696 (DStep.of_grown hgc698)
        refine y_storeRow (vs := [_, _, _, _, _, _]) H rfl rfl hr701 rfl (tok_size' _ _ _ _ _ _) (by simp [Value.oneCell']) fun w703 hr703 hg703 => ?_
        have hz704 := World.grownBy.size hg703
        have hv705 := View.kept hvt698 (World.grownBy.block hg703 g (by omega) (fun e => by injection e with e; omega))
        have hd706 := DW.grownOther hd698 hg703 (by omega) (by omega) hov695 (by omega)
        have hs707 := DStep.thenRow hs702 hg703 (by omega)
        refine y_assign H rfl rfl fun a H => wpList_nil (then_normal (hK697 _ _ ?_))
        replace H := H.k5 0 1 4 5 6 rfl rfl rfl rfl rfl
        refine wp_ret (in_ret (in_ret (then_ret (?_))))
        refine ret2 (by rfl) H rfl rfl hr703 ?_
        rw [show Z = some ((tokT bs s1.k 5 1 0).1, s1.st.dropLast, (tokT bs s1.k 5 1 0).2) from by rw [← HZ1.out, nextB_msg4 (by omega), msg_close false hbk (by omega)]; rfl]
        exact ⟨_, _, _, _, rfl, hv705, hd706, by first | (rw [← hs1]; rfl) | rw [← hs1], hs707⟩
       ·refine y_eql (b := false) H rfl rfl (ieq_f (by omega)) rfl fun a H => y_assign H rfl rfl fun a H => wpList_nil (then_normal (hK689 _ _ ?_))
        replace H := H.k9 0 1 4 5 6 13 14 199 204 rfl rfl rfl rfl rfl rfl rfl rfl rfl
        refine y_iff H rfl ?_
        refine y_seq fun K708 hK708 => ?_
        refine y_reg ?_
        refine y_call pf_other H rfl rfl (Calls.mono (other_any w680) ?_)
        rintro e w709 ⟨b709, rfl, hlk709, hb709⟩
        refine ⟨_, rfl, fun a H => ?_⟩
        have hz710 := Below.size hb709
        have hr711 := RowAt.below hr682 (by omega) hb709
        have hd712 := DW.below hd683 hb709
        have hs713 := DStep.trans hs684 (DStep.of_below hb709)
        refine y_move H rfl rfl fun a H => y_lookup (k := closeT s1.st) H rfl rfl (hlk709 _ (by omega)) rfl fun a H => ?_
        by_cases q714 : ((c.toNat : Int)) = (((otherT (closeT s1.st) : Nat) : Int))
        ·refine y_eql (b := true) H rfl rfl (ieq_t (by omega)) rfl fun a H => y_assign H rfl rfl fun a H => wpList_nil (then_normal (hK708 _ _ ?_))
         replace H := H.k7 0 1 4 5 6 14 211 rfl rfl rfl rfl rfl rfl rfl
         refine y_ift H rfl ?_
         refine y_seq fun K715 hK715 => ?_
         refine y_reg ?_
         refine y_bld built_tok0 H rfl rfl fun a H => y_move H rfl rfl fun a H => y_move H rfl rfl fun a H => y_mkIface Tryz.underlying5 rfl H rfl rfl fun a H => y_any1 H rfl rfl fun w716 u716 hb716 a H => ?_
         have hz717 := Below.size hb716
         have hr718 := RowAt.below hr711 (by omega) hb716
         have hd719 := DW.below hd712 hb716
         have hs720 := DStep.trans hs713 (DStep.of_below hb716)
         refine y_call pf_newerr H rfl rfl (Calls.mono (newError_any _ _ _ w716 (by decide)) ?_)
         rintro e w721 ⟨⟨xe, rfl⟩, hb721⟩
         refine ⟨_, rfl, fun a H => ?_⟩
         have hz722 := Below.size hb721
         have hr723 := RowAt.below hr718 (by omega) hb721
         have hd724 := DW.below hd719 hb721
         have hs725 := DStep.trans hs720 (DStep.of_below hb721)
         refine y_storeRow (vs := [_, _, _, _, _, _]) H rfl rfl hr723 rfl (tok_size' _ _ _ _ _ _) (by simp [Value.oneCell']) fun w726 hr726 hg726 => ?_
         have hz727 := World.grownBy.size hg726
         have hd728 := DW.grownOther hd724 hg726 (by omega) (by omega) hov (by omega)
         have hs729 := DStep.thenRow hs725 hg726 (by omega)
         refine y_assign H rfl rfl fun a H => wpList_nil (then_normal (hK715 _ _ ?_))
         replace H := H.k5 0 1 4 5 6 rfl rfl rfl rfl rfl
         refine wp_ret (in_ret (in_ret (then_ret (?_))))
         refine ret2 (by rfl) H rfl rfl hr726 ?_
         rw [show Z = none from by rw [← HZ1.out, nextB_msg4 (by omega), msg_other false hbk (by omega) (by omega)]]
         exact ⟨⟨_, _, rfl⟩, ⟨_, _, _, hd728, hp1, hs729⟩⟩
        ·refine y_eql (b := false) H rfl rfl (ieq_f (by omega)) rfl fun a H => y_assign H rfl rfl fun a H => wpList_nil (then_normal (hK708 _ _ ?_))
         replace H := H.k7 0 1 4 5 6 14 211 rfl rfl rfl rfl rfl rfl rfl
         refine y_iff H rfl ?_
         refine y_seq fun K730 hK730 => ?_
         refine y_reg ?_
         refine y_move H rfl rfl fun a H => ?_
         have HP731 := parseField_any hd712 hm c r hbk
         have Hs732 := H
         rcases hS731 : fieldT bs s1.k with _ | ⟨t731, k731⟩
         ·have H := Hs732
          rw [hS731] at HP731
          refine y_call pf_field H rfl rfl (Calls.mono HP731 ?_)
          rintro e w731 ⟨⟨te, xe, rfl⟩, ⟨vi731, k731, hd731⟩, hgc731⟩
          refine ⟨_, rfl, fun a H => ?_⟩
          have hz733 := World.grownBy.size hgc731
          have hr734 := RowAt.grown hr711 hgc731 (by omega) (by omega)
          have hs735 := DStep.trans hs713 (DStep.of_grown hgc731)
          refine y_extract H rfl rfl rfl fun a H => y_extract H rfl rfl rfl fun a H => y_storeRow (vs := [_, _, _, _, _, _]) H rfl rfl hr734 rfl (tok_size' _ _ _ _ _ _) (by simp [Value.oneCell']) fun w736 hr736 hg736 => ?_
          have hz737 := World.grownBy.size hg736
          have hd738 := DW.grownOther hd731 hg736 (by omega) (by omega) hov (by omega)
          have hs739 := DStep.thenRow hs735 hg736 (by omega)
          refine y_assign H rfl rfl fun a H => wpList_nil (then_normal (hK730 _ _ ?_))
          replace H := H.k5 0 1 4 5 6 rfl rfl rfl rfl rfl
          refine wp_ret (in_ret (in_ret (then_ret (?_))))
          refine ret2 (by rfl) H rfl rfl hr736 ?_
          rw [show Z = none from by rw [← HZ1.out, nextB_msg4 (by omega), msg_field false hbk (by omega) (by omega) (.inl rfl), hS731]; rfl]
          exact ⟨⟨_, _, rfl⟩, ⟨_, _, _, hd738, hp1, hs739⟩⟩
         ·have H := Hs732
          rw [hS731] at HP731
          refine y_call pf_field H rfl rfl (Calls.mono HP731 ?_)
          rintro e w731 ⟨vt731, vi731, rfl, hvt731, hd731, hgc731⟩
          have Hs740 := H
          obtain ⟨ao731, n731, c731, rfl⟩ := View.slice3 hvt731
          have H := Hs740
          refine ⟨_, rfl, fun a H => ?_⟩
          have hz741 := World.grownBy.size hgc731
          have hr742 := RowAt.grown hr711 hgc731 (by omega) (by omega)
          have hs743 := DStep.trans hs713 (DStep.of_grown hgc731)
          refine y_extract H rfl rfl rfl fun a H => y_extract H rfl rfl rfl fun a H => y_storeRow (vs := [_, _, _, _, _, _]) H rfl rfl hr742 rfl (tok_size' _ _ _ _ _ _) (by simp [Value.oneCell']) fun w744 hr744 hg744 => ?_
          have hz745 := World.grownBy.size hg744
          have hv746 := View.kept hvt731 (World.grownBy.block hg744 g (by omega) (fun e => by injection e with e; omega))
          have hd747 := DW.grownOther hd731 hg744 (by omega) (by omega) hov (by omega)
          have hs748 := DStep.thenRow hs743 hg744 (by omega)
          refine y_assign H rfl rfl fun a H => wpList_nil (then_normal (hK730 _ _ ?_))
          replace H := H.k5 0 1 4 5 6 rfl rfl rfl rfl rfl
          refine wp_ret (in_ret (in_ret (then_ret (?_))))
          refine ret2 (by rfl) H rfl rfl hr744 ?_
          rw [show Z = some (t731, s1.st, k731) from by rw [← HZ1.out, nextB_msg4 (by omega), msg_field false hbk (by omega) (by omega) (.inl rfl), hS731]; rfl]
          exact ⟨_, _, _, _, rfl, hv746, hd747, by first | (rw [← hs1]; rfl) | rw [← hs1], hs748⟩
      ·refine y_eql (b := false) H rfl rfl (ieq_f (by omega)) rfl fun a H => y_assign H rfl rfl fun a H => wpList_nil (then_normal (hK675 _ _ ?_))
       replace H := H.k7 0 1 4 5 6 37 183 rfl rfl rfl rfl rfl rfl rfl
       refine y_iff H rfl ?_
       refine y_seq fun K749 hK749 => ?_
       refine y_reg ?_
       by_cases q750 : (((last : Nat) : Int)) = ((5 : Int))
       ·refine y_eql (b := true) H rfl rfl (ieq_t (by omega)) rfl fun a H => y_assign H rfl rfl fun a H => wpList_nil (then_normal (hK749 _ _ ?_))
        replace H := H.k7 0 1 4 5 6 37 222 rfl rfl rfl rfl rfl rfl rfl
        refine y_ift H rfl ?_
        refine y_seq fun K751 hK751 => ?_
        refine y_reg ?_
        refine y_move H rfl rfl fun a H => y_call pf_okind H rfl rfl (Calls.mono (openKind_any hd7 hok1 hlen1) ?_)
        rintro e w752 ⟨rfl, hb752⟩
        refine ⟨_, rfl, fun a H => ?_⟩
        have hz753 := Below.size hb752
        have hr754 := RowAt.below hr9 (by omega) hb752
        have hd755 := DW.below hd7 hb752
        have hs756 := DStep.trans hs10 (DStep.of_below hb752)
        refine y_move H rfl rfl fun a H => y_extract H rfl rfl rfl fun a H => y_extract H rfl rfl rfl fun a H => y_assign H rfl rfl fun a H => y_assign H rfl rfl fun a H => wpList_nil (then_normal (hK751 _ _ ?_))
        replace H := H.k7 0 1 4 5 6 15 16 rfl rfl rfl rfl rfl rfl rfl
        refine y_seq fun K757 hK757 => ?_
        refine y_reg ?_
        refine y_move H rfl rfl fun a H => wpList_nil (then_normal (hK757 _ _ ?_))
        replace H := H.k7 0 1 4 5 6 16 229 rfl rfl rfl rfl rfl rfl rfl
        refine wp_block ?_
        refine y_seq fun K758 hK758 => ?_
        refine y_reg ?_
        by_cases q759 : (((openK s1.st : Nat) : Int)) = ((0 : Int))
        ·refine y_eql (b := true) H rfl rfl (ieq_t (by omega)) rfl fun a H => y_assign H rfl rfl fun a H => wpList_nil (then_normal (hK758 _ _ ?_))
         replace H := H.k8 0 1 4 5 6 16 229 230 rfl rfl rfl rfl rfl rfl rfl rfl
         refine y_ift H rfl ?_
         refine y_seq fun K760 hK760 => ?_
         refine y_seq fun K761 hK761 => ?_
         refine y_reg ?_
         refine y_move H rfl rfl fun a H => wpList_nil (then_normal (hK761 _ _ ?_))
         replace H := H.k6 0 1 4 5 6 232 rfl rfl rfl rfl rfl rfl
         refine y_iff H rfl ?_
         refine wp_skip (then_normal (hK760 _ _ ?_))
         replace H := H.k5 0 1 4 5 6 rfl rfl rfl rfl rfl
         refine y_seq fun K762 hK762 => ?_
         refine y_reg ?_
         refine y_move H rfl rfl fun a H => y_nilCheck H rfl rfl fun a H => y_field fld_in H rfl rfl fun a H => ?_
         have hvI763 : View w752 g _ (c :: r) := (DW.inn hd755).eq hbk
         refine y_load one22 H rfl (DW.c10 hd755).1 rfl fun a H => y_idx Tryz.underlying22 info5u H rfl rfl hvI763 (by decide) rfl rfl fun a ad H hc764 => ?_
         refine y_load one5 H rfl hc764 rfl fun a H => y_assign H rfl rfl fun a H => wpList_nil (then_normal (hK762 _ _ ?_))
         replace H := H.k6 0 1 4 5 6 17 rfl rfl rfl rfl rfl rfl
         refine y_seq fun K765 hK765 => ?_
         refine y_reg ?_
         refine y_move H rfl rfl fun a H => wpList_nil (then_normal (hK765 _ _ ?_))
         replace H := H.k6 0 1 4 5 6 241 rfl rfl rfl rfl rfl rfl
         refine wp_block ?_
         refine y_seq fun K766 hK766 => ?_
         refine y_reg ?_
         by_cases q767 : ((c.toNat : Int)) = ((44 : Int))
         ·refine y_eql (b := true) H rfl rfl (ieq_t (by omega)) rfl fun a H => y_assign H rfl rfl fun a H => wpList_nil (then_normal (hK766 _ _ ?_))
          replace H := H.k7 0 1 4 5 6 241 246 rfl rfl rfl rfl rfl rfl rfl
          refine y_ift H rfl ?_
          refine y_seq fun K768 hK768 => ?_
          refine y_reg ?_
          refine y_move H rfl rfl fun a H => y_call pf_ctoken H rfl rfl (Calls.mono (consumeToken_any _ 8 0 1 w752 hd755 (by show s1.k + _ ≤ bs.length; omega) (by omega)) ?_)
          rintro e w769 ⟨vt769, vi769, rfl, hvt769, hd769, hgc769⟩
          have Hs770 := H
          obtain ⟨ao769, n769, c769, rfl⟩ := View.slice3 hvt769
          have H := Hs770
          refine ⟨_, rfl, fun a H => ?_⟩
          have hz771 := World.grownBy.size hgc769
          have hr772 := RowAt.grown hr754 hgc769 (by omega) (by omega)
          have hs773 := DStep.trans hs756 (DStep.of_grown hgc769)
          refine y_storeRow (vs := [_, _, _, _, _, _]) H rfl rfl hr772 rfl (tok_size' _ _ _ _ _ _) (by simp [Value.oneCell']) fun w774 hr774 hg774 => ?_
          have hz775 := World.grownBy.size hg774
          have hv776 := View.kept hvt769 (World.grownBy.block hg774 g (by omega) (fun e => by injection e with e; omega))
          have hd777 := DW.grownOther hd769 hg774 (by omega) (by omega) hov (by omega)
          have hs778 := DStep.thenRow hs773 hg774 (by omega)
          refine y_assign H rfl rfl fun a H => wpList_nil (then_normal (hK768 _ _ ?_))
          replace H := H.k5 0 1 4 5 6 rfl rfl rfl rfl rfl
          refine wp_ret (in_ret (in_ret (in_ret (then_ret (?_)))))
          refine ret2 (by rfl) H rfl rfl hr774 ?_
          rw [show Z = some ((tokT bs s1.k 8 1 0).1, s1.st, (tokT bs s1.k 8 1 0).2) from by rw [← HZ1.out, nextB_top3 (by omega) (by omega), top_comma hbk (by omega)]; rfl]
          exact ⟨_, _, _, _, rfl, hv776, hd777, by first | (rw [← hs1]; rfl) | rw [← hs1], hs778⟩
         ·refine y_eql (b := false) H rfl rfl (ieq_f (by omega)) rfl fun a H => y_assign H rfl rfl fun a H => wpList_nil (then_normal (hK766 _ _ ?_))
          replace H := H.k7 0 1 4 5 6 241 246 rfl rfl rfl rfl rfl rfl rfl
          refine y_iff H rfl ?_
          refine y_seq fun K779 hK779 => ?_
          refine y_reg ?_
          by_cases q780 : ((c.toNat : Int)) = ((59 : Int))
          ·refine y_eql (b := true) H rfl rfl (ieq_t (by omega)) rfl fun a H => y_assign H rfl rfl fun a H => wpList_nil (then_normal (hK779 _ _ ?_))
           replace H := H.k6 0 1 4 5 6 250 rfl rfl rfl rfl rfl rfl
           refine y_ift H rfl ?_
           refine y_seq fun K781 hK781 => ?_
           refine y_reg ?_
           refine y_move H rfl rfl fun a H => y_call pf_ctoken H rfl rfl (Calls.mono (consumeToken_any _ 9 0 1 w752 hd755 (by show s1.k + _ ≤ bs.length; omega) (by omega)) ?_)
           rintro e w782 ⟨vt782, vi782, rfl, hvt782, hd782, hgc782⟩
           have Hs783 := H
           obtain ⟨ao782, n782, c782, rfl⟩ := View.slice3 hvt782
           have H := Hs783
           refine ⟨_, rfl, fun a H => ?_⟩
           have hz784 := World.grownBy.size hgc782
           have hr785 := RowAt.grown hr754 hgc782 (by omega) (by omega)
           have hs786 := DStep.trans hs756 (DStep.of_grown hgc782)
           refine y_storeRow (vs := [_, _, _, _, _, _]) H rfl rfl hr785 rfl (tok_size' _ _ _ _ _ _) (by simp [Value.oneCell']) fun w787 hr787 hg787 => ?_
           have hz788 := World.grownBy.size hg787
           have hv789 := View.kept hvt782 (World.grownBy.block hg787 g (by omega) (fun e => by injection e with e; omega))
           have hd790 := DW.grownOther hd782 hg787 (by omega) (by omega) hov (by omega)
           have hs791 := DStep.thenRow hs786 hg787 (by omega)
           refine y_assign H rfl rfl fun a H => wpList_nil (then_normal (hK781 _ _ ?_))
           replace H := H.k5 0 1 4 5 6 rfl rfl rfl rfl rfl
           refine wp_ret (in_ret (in_ret (in_ret (then_ret (?_)))))
           refine ret2 (by rfl) H rfl rfl hr787 ?_
           rw [show Z = some ((tokT bs s1.k 9 1 0).1, s1.st, (tokT bs s1.k 9 1 0).2) from by rw [← HZ1.out, nextB_top3 (by omega) (by omega), top_semi hbk (by omega)]; rfl]
           exact ⟨_, _, _, _, rfl, hv789, hd790, by first | (rw [← hs1]; rfl) | rw [← hs1], hs791⟩
          ·refine y_eql (b := false) H rfl rfl (ieq_f (by omega)) rfl fun a H => y_assign H rfl rfl fun a H => wpList_nil (then_normal (hK779 _ _ ?_))
           replace H := H.k6 0 1 4 5 6 250 rfl rfl rfl rfl rfl rfl
           refine y_iff H rfl ?_
           refine y_seq fun K792 hK792 => ?_
           refine y_reg ?_
           refine y_move H rfl rfl fun a H => ?_
           have HP793 := parseField_any hd755 hm c r hbk
           have Hs794 := H
           rcases hS793 : fieldT bs s1.k with _ | ⟨t793, k793⟩
           ·have H := Hs794
            rw [hS793] at HP793
            refine y_call pf_field H rfl rfl (Calls.mono HP793 ?_)
            rintro e w793 ⟨⟨te, xe, rfl⟩, ⟨vi793, k793, hd793⟩, hgc793⟩
            refine ⟨_, rfl, fun a H => ?_⟩
            have hz795 := World.grownBy.size hgc793
            have hr796 := RowAt.grown hr754 hgc793 (by omega) (by omega)
            have hs797 := DStep.trans hs756 (DStep.of_grown hgc793)
            refine y_extract H rfl rfl rfl fun a H => y_extract H rfl rfl rfl fun a H => y_storeRow (vs := [_, _, _, _, _, _]) H rfl rfl hr796 rfl (tok_size' _ _ _ _ _ _) (by simp [Value.oneCell']) fun w798 hr798 hg798 => ?_
            have hz799 := World.grownBy.size hg798
            have hd800 := DW.grownOther hd793 hg798 (by omega) (by omega) hov (by omega)
            have hs801 := DStep.thenRow hs797 hg798 (by omega)
            refine y_assign H rfl rfl fun a H => wpList_nil (then_normal (hK792 _ _ ?_))
            replace H := H.k5 0 1 4 5 6 rfl rfl rfl rfl rfl
            refine wp_ret (in_ret (in_ret (in_ret (then_ret (?_)))))
            refine ret2 (by rfl) H rfl rfl hr798 ?_
            rw [show Z = none from by rw [← HZ1.out, nextB_top3 (by omega) (by omega), top_field true hbk (.inr (by omega)), hS793]; rfl]
            exact ⟨⟨_, _, rfl⟩, ⟨_, _, _, hd800, hp1, hs801⟩⟩
           ·have H := Hs794
            rw [hS793] at HP793
            refine y_call pf_field H rfl rfl (Calls.mono HP793 ?_)
            rintro e w793 ⟨vt793, vi793, rfl, hvt793, hd793, hgc793⟩
            have Hs802 := H
            obtain ⟨ao793, n793, c793, rfl⟩ := View.slice3 hvt793
            have H := Hs802
            refine ⟨_, rfl, fun a H => ?_⟩
            have hz803 := World.grownBy.size hgc793
            have hr804 := RowAt.grown hr754 hgc793 (by omega) (by omega)
            have hs805 := DStep.trans hs756 (DStep.of_grown hgc793)
            refine y_extract H rfl rfl rfl fun a H => y_extract H rfl rfl rfl fun a H => y_storeRow (vs := [_, _, _, _, _, _]) H rfl rfl hr804 rfl (tok_size' _ _ _ _ _ _) (by simp [Value.oneCell']) fun w806 hr806 hg806 => ?_
            have hz807 := World.grownBy.size hg806
            have hv808 := View.kept hvt793 (World.grownBy.block hg806 g (by omega) (fun e => by injection e with e; omega))
            have hd809 := DW.grownOther hd793 hg806 (by omega) (by omega) hov (by omega)
            have hs810 := DStep.thenRow hs805 hg806 (by omega)
            refine y_assign H rfl rfl fun a H => wpList_nil (then_normal (hK792 _ _ ?_))
            replace H := H.k5 0 1 4 5 6 rfl rfl rfl rfl rfl
            refine wp_ret (in_ret (in_ret (in_ret (then_ret (?_)))))
            refine ret2 (by rfl) H rfl rfl hr806 ?_
            rw [show Z = some (t793, s1.st, k793) from by rw [← HZ1.out, nextB_top3 (by omega) (by omega), top_field true hbk (.inr (by omega)), hS793]; rfl]
            exact ⟨_, _, _, _, rfl, hv808, hd809, by first | (rw [← hs1]; rfl) | rw [← hs1], hs810⟩
        ·refine y_eql (b := false) H rfl rfl (ieq_f (by omega)) rfl fun a H => y_assign H rfl rfl fun a H => wpList_nil (then_normal (hK758 _ _ ?_))
         replace H := H.k8 0 1 4 5 6 16 229 230 rfl rfl rfl rfl rfl rfl rfl rfl
         refine y_iff H rfl ?_
         refine y_seq fun K811 hK811 => ?_
         refine y_reg ?_
         by_cases q812 : (((openK s1.st : Nat) : Int)) = ((4 : Int))
         ·refine y_eql (b := true) H rfl rfl (ieq_t (by omega)) rfl fun a H => y_assign H rfl rfl fun a H => wpList_nil (then_normal (hK811 _ _ ?_))
          replace H := H.k8 0 1 4 5 6 16 229 254 rfl rfl rfl rfl rfl rfl rfl rfl
          refine y_ift H rfl ?_
          refine y_seq fun K813 hK813 => ?_
          refine y_seq fun K814 hK814 => ?_
          refine y_reg ?_
          refine y_move H rfl rfl fun a H => wpList_nil (then_normal (hK814 _ _ ?_))
          replace H := H.k7 0 1 4 5 6 16 256 rfl rfl rfl rfl rfl rfl rfl
          refine y_iff H rfl ?_
          refine wp_skip (then_normal (hK813 _ _ ?_))
          replace H := H.k6 0 1 4 5 6 16 rfl rfl rfl rfl rfl rfl
          refine y_seq fun K815 hK815 => ?_
          refine y_reg ?_
          refine y_move H rfl rfl fun a H => y_nilCheck H rfl rfl fun a H => y_field fld_in H rfl rfl fun a H => ?_
          have hvI816 : View w752 g _ (c :: r) := (DW.inn hd755).eq hbk
          refine y_load one22 H rfl (DW.c10 hd755).1 rfl fun a H => y_idx Tryz.underlying22 info5u H rfl rfl hvI816 (by decide) rfl rfl fun a ad H hc817 => ?_
          refine y_load one5 H rfl hc817 rfl fun a H => y_assign H rfl rfl fun a H => wpList_nil (then_normal (hK815 _ _ ?_))
          replace H := H.k7 0 1 4 5 6 16 18 rfl rfl rfl rfl rfl rfl rfl
          refine y_seq fun K818 hK818 => ?_
          refine y_reg ?_
          refine y_move H rfl rfl fun a H => wpList_nil (then_normal (hK818 _ _ ?_))
          replace H := H.k8 0 1 4 5 6 16 18 265 rfl rfl rfl rfl rfl rfl rfl rfl
          refine wp_block ?_
          refine y_seq fun K819 hK819 => ?_
          refine y_reg ?_
          refine y_move H rfl rfl fun a H => ?_
          by_cases q820 : ((c.toNat : Int)) = (((closeT s1.st : Nat) : Int))
          ·refine y_eql (b := true) H rfl rfl (ieq_t (by omega)) rfl fun a H => y_assign H rfl rfl fun a H => wpList_nil (then_normal (hK819 _ _ ?_))
           replace H := H.k9 0 1 4 5 6 16 18 265 270 rfl rfl rfl rfl rfl rfl rfl rfl rfl
           refine y_ift H rfl ?_
           refine y_seq fun K821 hK821 => ?_
           refine y_reg ?_
           refine y_move H rfl rfl fun a H => y_call pf_pop H rfl rfl (Calls.mono (pop_any hd755 (open_ne (by omega)) hlen1) ?_)
           rintro e w822 ⟨rfl, vst822, hd822, hds822⟩
           refine ⟨_, rfl, fun a H => ?_⟩
           have hz823 := DStep.size hds822
           have hr824 := RowAt.kept hr754 (DStep.block hds822 _ (by omega) (by omega) hov)
           have hov825 := (fun e => by rcases DStep.lies hds822 _ e with e | e; exact hov e; omega : _ ≠ some q2)
           have hs826 := DStep.trans hs756 hds822
           refine wpList_nil (then_normal (hK821 _ _ ?_))
           replace H := H.k5 0 1 4 5 6 rfl rfl rfl rfl rfl
           refine y_seq fun K827 hK827 => ?_
           refine y_reg ?_
           refine y_move H rfl rfl fun a H => y_call pf_ctoken H rfl rfl (Calls.mono (consumeToken_any _ 5 0 1 w822 hd822 (by show s1.k + _ ≤ bs.length; omega) (by omega)) ?_)
           rintro e w828 ⟨vt828, vi828, rfl, hvt828, hd828, hgc828⟩
           have Hs829 := H
           obtain ⟨ao828, n828, c828, rfl⟩ := View.slice3 hvt828
           have H := Hs829
           refine ⟨_, rfl, fun a H => ?_⟩
           have hz830 := World.grownBy.size hgc828
           have hr831 := RowAt.grown hr824 hgc828 (by omega) (by omega)
           have hs832 := DStep.trans hs826 (DStep.of_grown hgc828)
           refine y_storeRow (vs := [_, _, _, _, _, _]) H rfl rfl hr831 rfl (tok_size' _ _ _ _ _ _) (by simp [Value.oneCell']) fun w833 hr833 hg833 => ?_
           have hz834 := World.grownBy.size hg833
           have hv835 := View.kept hvt828 (World.grownBy.block hg833 g (by omega) (fun e => by injection e with e; omega))
           have hd836 := DW.grownOther hd828 hg833 (by omega) (by omega) hov825 (by omega)
           have hs837 := DStep.thenRow hs832 hg833 (by omega)
           refine y_assign H rfl rfl fun a H => wpList_nil (then_normal (hK827 _ _ ?_))
           replace H := H.k5 0 1 4 5 6 rfl rfl rfl rfl rfl
           refine wp_ret (in_ret (in_ret (in_ret (then_ret (?_)))))
           refine ret2 (by rfl) H rfl rfl hr833 ?_
           rw [show Z = some ((tokT bs s1.k 5 1 0).1, s1.st.dropLast, (tokT bs s1.k 5 1 0).2) from by rw [← HZ1.out, nextB_msg3 (by omega) (by omega), msg_close true hbk (by omega)]; rfl]
           exact ⟨_, _, _, _, rfl, hv835, hd836, by first | (rw [← hs1]; rfl) | rw [← hs1], hs837⟩
          ·refine y_eql (b := false) H rfl rfl (ieq_f (by omega)) rfl fun a H => y_assign H rfl rfl fun a H => wpList_nil (then_normal (hK819 _ _ ?_))
           replace H := H.k9 0 1 4 5 6 16 18 265 270 rfl rfl rfl rfl rfl rfl rfl rfl rfl
           refine y_iff H rfl ?_
           refine y_seq fun K838 hK838 => ?_
           refine y_reg ?_
           refine y_call pf_other H rfl rfl (Calls.mono (other_any w752) ?_)
           rintro e w839 ⟨b839, rfl, hlk839, hb839⟩
           refine ⟨_, rfl, fun a H => ?_⟩
           have hz840 := Below.size hb839
           have hr841 := RowAt.below hr754 (by omega) hb839
           have hd842 := DW.below hd755 hb839
           have hs843 := DStep.trans hs756 (DStep.of_below hb839)
           refine y_move H rfl rfl fun a H => y_lookup (k := closeT s1.st) H rfl rfl (hlk839 _ (by omega)) rfl fun a H => ?_
           by_cases q844 : ((c.toNat : Int)) = (((otherT (closeT s1.st) : Nat) : Int))
           ·refine y_eql (b := true) H rfl rfl (ieq_t (by omega)) rfl fun a H => y_assign H rfl rfl fun a H => wpList_nil (then_normal (hK838 _ _ ?_))
            replace H := H.k8 0 1 4 5 6 18 265 277 rfl rfl rfl rfl rfl rfl rfl rfl
            refine y_ift H rfl ?_
            refine y_seq fun K845 hK845 => ?_
            refine y_reg ?_
            refine y_bld built_tok0 H rfl rfl fun a H => y_move H rfl rfl fun a H => y_move H rfl rfl fun a H => y_mkIface Tryz.underlying5 rfl H rfl rfl fun a H => y_any1 H rfl rfl fun w846 u846 hb846 a H => ?_
            have hz847 := Below.size hb846
            have hr848 := RowAt.below hr841 (by omega) hb846
            have hd849 := DW.below hd842 hb846
            have hs850 := DStep.trans hs843 (DStep.of_below hb846)
            refine y_call pf_newerr H rfl rfl (Calls.mono (newError_any _ _ _ w846 (by decide)) ?_)
            rintro e w851 ⟨⟨xe, rfl⟩, hb851⟩
            refine ⟨_, rfl, fun a H => ?_⟩
            have hz852 := Below.size hb851
            have hr853 := RowAt.below hr848 (by omega) hb851
            have hd854 := DW.below hd849 hb851
            have hs855 := DStep.trans hs850 (DStep.of_below hb851)
            refine y_storeRow (vs := [_, _, _, _, _, _]) H rfl rfl hr853 rfl (tok_size' _ _ _ _ _ _) (by simp [Value.oneCell']) fun w856 hr856 hg856 => ?_
            have hz857 := World.grownBy.size hg856
            have hd858 := DW.grownOther hd854 hg856 (by omega) (by omega) hov (by omega)
            have hs859 := DStep.thenRow hs855 hg856 (by omega)
            refine y_assign H rfl rfl fun a H => wpList_nil (then_normal (hK845 _ _ ?_))
            replace H := H.k5 0 1 4 5 6 rfl rfl rfl rfl rfl
            refine wp_ret (in_ret (in_ret (in_ret (then_ret (?_)))))
            refine ret2 (by rfl) H rfl rfl hr856 ?_
            rw [show Z = none from by rw [← HZ1.out, nextB_msg3 (by omega) (by omega), msg_other true hbk (by omega) (by omega)]]
            exact ⟨⟨_, _, rfl⟩, ⟨_, _, _, hd858, hp1, hs859⟩⟩
           ·refine y_eql (b := false) H rfl rfl (ieq_f (by omega)) rfl fun a H => y_assign H rfl rfl fun a H => wpList_nil (then_normal (hK838 _ _ ?_))
            replace H := H.k8 0 1 4 5 6 18 265 277 rfl rfl rfl rfl rfl rfl rfl rfl
            refine y_iff H rfl ?_
            refine y_seq fun K860 hK860 => ?_
            refine y_reg ?_
            by_cases q861 : ((c.toNat : Int)) = ((44 : Int))
            ·refine y_eql (b := true) H rfl rfl (ieq_t (by omega)) rfl fun a H => y_assign H rfl rfl fun a H => wpList_nil (then_normal (hK860 _ _ ?_))
             replace H := H.k7 0 1 4 5 6 265 288 rfl rfl rfl rfl rfl rfl rfl
             refine y_ift H rfl ?_
             refine y_seq fun K862 hK862 => ?_
             refine y_reg ?_
             refine y_move H rfl rfl fun a H => y_call pf_ctoken H rfl rfl (Calls.mono (consumeToken_any _ 8 0 1 w839 hd842 (by show s1.k + _ ≤ bs.length; omega) (by omega)) ?_)
             rintro e w863 ⟨vt863, vi863, rfl, hvt863, hd863, hgc863⟩
             have Hs864 := H
             obtain ⟨ao863, n863, c863, rfl⟩ := View.slice3 hvt863
             have H := Hs864
             refine ⟨_, rfl, fun a H => ?_⟩
             have hz865 := World.grownBy.size hgc863
             have hr866 := RowAt.grown hr841 hgc863 (by omega) (by omega)
             have hs867 := DStep.trans hs843 (DStep.of_grown hgc863)
             refine y_storeRow (vs := [_, _, _, _, _, _]) H rfl rfl hr866 rfl (tok_size' _ _ _ _ _ _) (by simp [Value.oneCell']) fun w868 hr868 hg868 => ?_
             have hz869 := World.grownBy.size hg868
             have hv870 := View.kept hvt863 (World.grownBy.block hg868 g (by omega) (fun e => by injection e with e; omega))
             have hd871 := DW.grownOther hd863 hg868 (by omega) (by omega) hov (by omega)
             have hs872 := DStep.thenRow hs867 hg868 (by omega)
             refine y_assign H rfl rfl fun a H => wpList_nil (then_normal (hK862 _ _ ?_))
             replace H := H.k5 0 1 4 5 6 rfl rfl rfl rfl rfl
             refine wp_ret (in_ret (in_ret (in_ret (then_ret (?_)))))
             refine ret2 (by rfl) H rfl rfl hr868 ?_
             rw [show Z = some ((tokT bs s1.k 8 1 0).1, s1.st, (tokT bs s1.k 8 1 0).2) from by rw [← HZ1.out, nextB_msg3 (by omega) (by omega), msg_comma hbk (by omega) (by omega) (by omega)]; rfl]
             exact ⟨_, _, _, _, rfl, hv870, hd871, by first | (rw [← hs1]; rfl) | rw [← hs1], hs872⟩
            ·refine y_eql (b := false) H rfl rfl (ieq_f (by omega)) rfl fun a H => y_assign H rfl rfl fun a H => wpList_nil (then_normal (hK860 _ _ ?_))
             replace H := H.k7 0 1 4 5 6 265 288 rfl rfl rfl rfl rfl rfl rfl
             refine y_iff H rfl ?_
             refine y_seq fun K873 hK873 => ?_
             refine y_reg ?_
             by_cases q874 : ((c.toNat : Int)) = ((59 : Int))
             ·refine y_eql (b := true) H rfl rfl (ieq_t (by omega)) rfl fun a H => y_assign H rfl rfl fun a H => wpList_nil (then_normal (hK873 _ _ ?_))
              replace H := H.k6 0 1 4 5 6 292 rfl rfl rfl rfl rfl rfl
              refine y_ift H rfl ?_
              refine y_seq fun K875 hK875 => ?_
              refine y_reg ?_
              refine y_move H rfl rfl fun a H => y_call pf_ctoken H rfl rfl (Calls.mono (consumeToken_any _ 9 0 1 w839 hd842 (by show s1.k + _ ≤ bs.length; omega) (by omega)) ?_)
              rintro e w876 ⟨vt876, vi876, rfl, hvt876, hd876, hgc876⟩
              have Hs877 := H
              obtain ⟨ao876, n876, c876, rfl⟩ := View.slice3 hvt876
              have H := Hs877
              refine ⟨_, rfl, fun a H => ?_⟩
              have hz878 := World.grownBy.size hgc876
              have hr879 := RowAt.grown hr841 hgc876 (by omega) (by omega)
              have hs880 := DStep.trans hs843 (DStep.of_grown hgc876)
              refine y_storeRow (vs := [_, _, _, _, _, _]) H rfl rfl hr879 rfl (tok_size' _ _ _ _ _ _) (by simp [Value.oneCell']) fun w881 hr881 hg881 => ?_
              have hz882 := World.grownBy.size hg881
              have hv883 := View.kept hvt876 (World.grownBy.block hg881 g (by omega) (fun e => by injection e with e; omega))
              have hd884 := DW.grownOther hd876 hg881 (by omega) (by omega) hov (by omega)
              have hs885 := DStep.thenRow hs880 hg881 (by omega)
              refine y_assign H rfl rfl fun a H => wpList_nil (then_normal (hK875 _ _ ?_))
              replace H := H.k5 0 1 4 5 6 rfl rfl rfl rfl rfl
              refine wp_ret (in_ret (in_ret (in_ret (then_ret (?_)))))
              refine ret2 (by rfl) H rfl rfl hr881 ?_
              rw [show Z = some ((tokT bs s1.k 9 1 0).1, s1.st, (tokT bs s1.k 9 1 0).2) from by rw [← HZ1.out, nextB_msg3 (by omega) (by omega), msg_semi hbk (by omega) (by omega) (by omega)]; rfl]
              exact ⟨_, _, _, _, rfl, hv883, hd884, by first | (rw [← hs1]; rfl) | rw [← hs1], hs885⟩
             ·refine y_eql (b := false) H rfl rfl (ieq_f (by omega)) rfl fun a H => y_assign H rfl rfl fun a H => wpList_nil (then_normal (hK873 _ _ ?_))
              replace H := H.k6 0 1 4 5 6 292 rfl rfl rfl rfl rfl rfl
              refine y_iff H rfl ?_
              refine y_seq fun K886 hK886 => ?_
              refine y_reg ?_
              refine y_move H rfl rfl fun a H => ?_
              have HP887 := parseField_any hd842 hm c r hbk
              have Hs888 := H
              rcases hS887 : fieldT bs s1.k with _ | ⟨t887, k887⟩
              ·have H := Hs888
               rw [hS887] at HP887
               refine y_call pf_field H rfl rfl (Calls.mono HP887 ?_)
               rintro e w887 ⟨⟨te, xe, rfl⟩, ⟨vi887, k887, hd887⟩, hgc887⟩
               refine ⟨_, rfl, fun a H => ?_⟩
               have hz889 := World.grownBy.size hgc887
               have hr890 := RowAt.grown hr841 hgc887 (by omega) (by omega)
               have hs891 := DStep.trans hs843 (DStep.of_grown hgc887)
               refine y_extract H rfl rfl rfl fun a H => y_extract H rfl rfl rfl fun a H => y_storeRow (vs := [_, _, _, _, _, _]) H rfl rfl hr890 rfl (tok_size' _ _ _ _ _ _) (by simp [Value.oneCell']) fun w892 hr892 hg892 => ?_
               have hz893 := World.grownBy.size hg892
               have hd894 := DW.grownOther hd887 hg892 (by omega) (by omega) hov (by omega)
               have hs895 := DStep.thenRow hs891 hg892 (by omega)
               refine y_assign H rfl rfl fun a H => wpList_nil (then_normal (hK886 _ _ ?_))
               replace H := H.k5 0 1 4 5 6 rfl rfl rfl rfl rfl
               refine wp_ret (in_ret (in_ret (in_ret (then_ret (?_)))))
               refine ret2 (by rfl) H rfl rfl hr892 ?_
               rw [show Z = none from by rw [← HZ1.out, nextB_msg3 (by omega) (by omega), msg_field true hbk (by omega) (by omega) (.inr (by omega)), hS887]; rfl]
               exact ⟨⟨_, _, rfl⟩, ⟨_, _, _, hd894, hp1, hs895⟩⟩
              ·have H := Hs888
               rw [hS887] at HP887
               refine y_call pf_field H rfl rfl (Calls.mono HP887 ?_)
               rintro e w887 ⟨vt887, vi887, rfl, hvt887, hd887, hgc887⟩
               have Hs896 := H
               obtain ⟨ao887, n887, c887, rfl⟩ := View.slice3 hvt887
               have H := Hs896
               refine ⟨_, rfl, fun a H => ?_⟩
               have hz897 := World.grownBy.size hgc887
               have hr898 := RowAt.grown hr841 hgc887 (by omega) (by omega)
               have hs899 := DStep.trans hs843 (DStep.of_grown hgc887)
               refine y_extract H rfl rfl rfl fun a H => y_extract H rfl rfl rfl fun a H => y_storeRow (vs := [_, _, _, _, _, _]) H rfl rfl hr898 rfl (tok_size' _ _ _ _ _ _) (by simp [Value.oneCell']) fun w900 hr900 hg900 => ?_
               have hz901 := World.grownBy.size hg900
               have hv902 := View.kept hvt887 (World.grownBy.block hg900 g (by omega) (fun e => by injection e with e; omega))
               have hd903 := DW.grownOther hd887 hg900 (by omega) (by omega) hov (by omega)
               have hs904 := DStep.thenRow hs899 hg900 (by omega)
               refine y_assign H rfl rfl fun a H => wpList_nil (then_normal (hK886 _ _ ?_))
               replace H := H.k5 0 1 4 5 6 rfl rfl rfl rfl rfl
               refine wp_ret (in_ret (in_ret (in_ret (then_ret (?_)))))
               refine ret2 (by rfl) H rfl rfl hr900 ?_
               rw [show Z = some (t887, s1.st, k887) from by rw [← HZ1.out, nextB_msg3 (by omega) (by omega), msg_field true hbk (by omega) (by omega) (.inr (by omega)), hS887]; rfl]
               exact ⟨_, _, _, _, rfl, hv902, hd903, by first | (rw [← hs1]; rfl) | rw [← hs1], hs904⟩
         ·refine y_eql (b := false) H rfl rfl (ieq_f (by omega)) rfl fun a H => y_assign H rfl rfl fun a H => wpList_nil (then_normal (hK811 _ _ ?_))
          replace H := H.k8 0 1 4 5 6 16 229 254 rfl rfl rfl rfl rfl rfl rfl rfl
          refine y_iff H rfl ?_
          refine y_seq fun K905 hK905 => ?_
          refine y_reg ?_
          refine y_eql (b := true) H rfl rfl (ieq_t (by omega)) rfl fun a H => y_assign H rfl rfl fun a H => wpList_nil (then_normal (hK905 _ _ ?_))
          replace H := H.k7 0 1 4 5 6 16 296 rfl rfl rfl rfl rfl rfl rfl
          refine y_ift H rfl ?_
          refine y_seq fun K906 hK906 => ?_
          refine y_seq fun K907 hK907 => ?_
          refine y_reg ?_
          refine y_move H rfl rfl fun a H => wpList_nil (then_normal (hK907 _ _ ?_))
          replace H := H.k7 0 1 4 5 6 16 298 rfl rfl rfl rfl rfl rfl rfl
          refine y_iff H rfl ?_
          refine wp_skip (then_normal (hK906 _ _ ?_))
          replace H := H.k6 0 1 4 5 6 16 rfl rfl rfl rfl rfl rfl
          refine y_seq fun K908 hK908 => ?_
          refine y_reg ?_
          refine y_move H rfl rfl fun a H => y_nilCheck H rfl rfl fun a H => y_field fld_in H rfl rfl fun a H => ?_
          have hvI909 : View w752 g _ (c :: r) := (DW.inn hd755).eq hbk
          refine y_load one22 H rfl (DW.c10 hd755).1 rfl fun a H => y_idx Tryz.underlying22 info5u H rfl rfl hvI909 (by decide) rfl rfl fun a ad H hc910 => ?_
          refine y_load one5 H rfl hc910 rfl fun a H => y_assign H rfl rfl fun a H => wpList_nil (then_normal (hK908 _ _ ?_))
          replace H := H.k7 0 1 4 5 6 16 19 rfl rfl rfl rfl rfl rfl rfl
          refine y_seq fun K911 hK911 => ?_
          refine y_reg ?_
          refine y_move H rfl rfl fun a H => wpList_nil (then_normal (hK911 _ _ ?_))
          replace H := H.k8 0 1 4 5 6 16 19 307 rfl rfl rfl rfl rfl rfl rfl rfl
          refine wp_block ?_
          refine y_seq fun K912 hK912 => ?_
          refine y_reg ?_
          refine y_move H rfl rfl fun a H => ?_
          by_cases q913 : ((c.toNat : Int)) = (((closeT s1.st : Nat) : Int))
          ·refine y_eql (b := true) H rfl rfl (ieq_t (by omega)) rfl fun a H => y_assign H rfl rfl fun a H => wpList_nil (then_normal (hK912 _ _ ?_))
           replace H := H.k8 0 1 4 5 6 19 307 314 rfl rfl rfl rfl rfl rfl rfl rfl
           refine y_ift H rfl ?_
           refine y_seq fun K914 hK914 => ?_
           refine y_reg ?_
           refine y_move H rfl rfl fun a H => y_call pf_pop H rfl rfl (Calls.mono (pop_any hd755 (open_ne (by omega)) hlen1) ?_)
           rintro e w915 ⟨rfl, vst915, hd915, hds915⟩
           refine ⟨_, rfl, fun a H => ?_⟩
           have hz916 := DStep.size hds915
           have hr917 := RowAt.kept hr754 (DStep.block hds915 _ (by omega) (by omega) hov)
           have hov918 := (fun e => by rcases DStep.lies hds915 _ e with e | e; exact hov e; omega : _ ≠ some q2)
           have hs919 := DStep.trans hs756 hds915
           refine wpList_nil (then_normal (hK914 _ _ ?_))
           replace H := H.k5 0 1 4 5 6 rfl rfl rfl rfl rfl
           refine y_seq fun K920 hK920 => ?_
           refine y_reg ?_
           refine y_move H rfl rfl fun a H => y_call pf_ctoken H rfl rfl (Calls.mono (consumeToken_any _ 7 0 1 w915 hd915 (by show s1.k + _ ≤ bs.length; omega) (by omega)) ?_)
           rintro e w921 ⟨vt921, vi921, rfl, hvt921, hd921, hgc921⟩
           have Hs922 := H
           obtain ⟨ao921, n921, c921, rfl⟩ := View.slice3 hvt921
           have H := Hs922
           refine ⟨_, rfl, fun a H => ?_⟩
           have hz923 := World.grownBy.size hgc921
           have hr924 := RowAt.grown hr917 hgc921 (by omega) (by omega)
           have hs925 := DStep.trans hs919 (DStep.of_grown hgc921)
           refine y_storeRow (vs := [_, _, _, _, _, _]) H rfl rfl hr924 rfl (tok_size' _ _ _ _ _ _) (by simp [Value.oneCell']) fun w926 hr926 hg926 => ?_
           have hz927 := World.grownBy.size hg926
           have hv928 := View.kept hvt921 (World.grownBy.block hg926 g (by omega) (fun e => by injection e with e; omega))
           have hd929 := DW.grownOther hd921 hg926 (by omega) (by omega) hov918 (by omega)
           have hs930 := DStep.thenRow hs925 hg926 (by omega)
           refine y_assign H rfl rfl fun a H => wpList_nil (then_normal (hK920 _ _ ?_))
           replace H := H.k5 0 1 4 5 6 rfl rfl rfl rfl rfl
           refine wp_ret (in_ret (in_ret (in_ret (then_ret (?_)))))
           refine ret2 (by rfl) H rfl rfl hr926 ?_
           rw [show Z = some ((tokT bs s1.k 7 1 0).1, s1.st.dropLast, (tokT bs s1.k 7 1 0).2) from by rw [← HZ1.out, nextB_list3 (by omega) (by omega), list_close hbk (by omega)]; rfl]
           exact ⟨_, _, _, _, rfl, hv928, hd929, by first | (rw [← hs1]; rfl) | rw [← hs1], hs930⟩
          ·refine y_eql (b := false) H rfl rfl (ieq_f (by omega)) rfl fun a H => y_assign H rfl rfl fun a H => wpList_nil (then_normal (hK912 _ _ ?_))
           replace H := H.k8 0 1 4 5 6 19 307 314 rfl rfl rfl rfl rfl rfl rfl rfl
           refine y_iff H rfl ?_
           refine y_seq fun K931 hK931 => ?_
           refine y_reg ?_
           by_cases q932 : ((c.toNat : Int)) = ((44 : Int))
           ·refine y_eql (b := true) H rfl rfl (ieq_t (by omega)) rfl fun a H => y_assign H rfl rfl fun a H => wpList_nil (then_normal (hK931 _ _ ?_))
            replace H := H.k7 0 1 4 5 6 19 321 rfl rfl rfl rfl rfl rfl rfl
            refine y_ift H rfl ?_
            refine y_seq fun K933 hK933 => ?_
            refine y_reg ?_
            refine y_move H rfl rfl fun a H => y_call pf_ctoken H rfl rfl (Calls.mono (consumeToken_any _ 8 0 1 w752 hd755 (by show s1.k + _ ≤ bs.length; omega) (by omega)) ?_)
            rintro e w934 ⟨vt934, vi934, rfl, hvt934, hd934, hgc934⟩
            have Hs935 := H
            obtain ⟨ao934, n934, c934, rfl⟩ := View.slice3 hvt934
            have H := Hs935
            refine ⟨_, rfl, fun a H => ?_⟩
            have hz936 := World.grownBy.size hgc934
            have hr937 := RowAt.grown hr754 hgc934 (by omega) (by omega)
            have hs938 := DStep.trans hs756 (DStep.of_grown hgc934)
            refine y_storeRow (vs := [_, _, _, _, _, _]) H rfl rfl hr937 rfl (tok_size' _ _ _ _ _ _) (by simp [Value.oneCell']) fun w939 hr939 hg939 => ?_
            have hz940 := World.grownBy.size hg939
            have hv941 := View.kept hvt934 (World.grownBy.block hg939 g (by omega) (fun e => by injection e with e; omega))
            have hd942 := DW.grownOther hd934 hg939 (by omega) (by omega) hov (by omega)
            have hs943 := DStep.thenRow hs938 hg939 (by omega)
            refine y_assign H rfl rfl fun a H => wpList_nil (then_normal (hK933 _ _ ?_))
            replace H := H.k5 0 1 4 5 6 rfl rfl rfl rfl rfl
            refine wp_ret (in_ret (in_ret (in_ret (then_ret (?_)))))
            refine ret2 (by rfl) H rfl rfl hr939 ?_
            rw [show Z = some ((tokT bs s1.k 8 1 0).1, s1.st, (tokT bs s1.k 8 1 0).2) from by rw [← HZ1.out, nextB_list3 (by omega) (by omega), list_comma hbk (by omega)]; rfl]
            exact ⟨_, _, _, _, rfl, hv941, hd942, by first | (rw [← hs1]; rfl) | rw [← hs1], hs943⟩
           ·refine y_eql (b := false) H rfl rfl (ieq_f (by omega)) rfl fun a H => y_assign H rfl rfl fun a H => wpList_nil (then_normal (hK931 _ _ ?_))
            replace H := H.k7 0 1 4 5 6 19 321 rfl rfl rfl rfl rfl rfl rfl
            refine y_iff H rfl ?_
            refine y_seq fun K944 hK944 => ?_
            refine y_reg ?_
            refine y_bld built_tok0 H rfl rfl fun a H => y_move H rfl rfl fun a H => y_move H rfl rfl fun a H => y_mkIface Tryz.underlying5 rfl H rfl rfl fun a H => y_any1 H rfl rfl fun w945 u945 hb945 a H => ?_
            have hz946 := Below.size hb945
            have hr947 := RowAt.below hr754 (by omega) hb945
            have hd948 := DW.below hd755 hb945
            have hs949 := DStep.trans hs756 (DStep.of_below hb945)
            refine y_call pf_newerr H rfl rfl (Calls.mono (newError_any _ _ _ w945 (by decide)) ?_)
            rintro e w950 ⟨⟨xe, rfl⟩, hb950⟩
            refine ⟨_, rfl, fun a H => ?_⟩
            have hz951 := Below.size hb950
            have hr952 := RowAt.below hr947 (by omega) hb950
            have hd953 := DW.below hd948 hb950
            have hs954 := DStep.trans hs949 (DStep.of_below hb950)
            refine y_storeRow (vs := [_, _, _, _, _, _]) H rfl rfl hr952 rfl (tok_size' _ _ _ _ _ _) (by simp [Value.oneCell']) fun w955 hr955 hg955 => ?_
            have hz956 := World.grownBy.size hg955
            have hd957 := DW.grownOther hd953 hg955 (by omega) (by omega) hov (by omega)
            have hs958 := DStep.thenRow hs954 hg955 (by omega)
            refine y_assign H rfl rfl fun a H => wpList_nil (then_normal (hK944 _ _ ?_))
            replace H := H.k5 0 1 4 5 6 rfl rfl rfl rfl rfl
            refine wp_ret (in_ret (in_ret (in_ret (then_ret (?_)))))
            refine ret2 (by rfl) H rfl rfl hr955 ?_
            rw [show Z = none from by rw [← HZ1.out, nextB_list3 (by omega) (by omega), list_bad hbk (by omega) (by omega)]]
            exact ⟨⟨_, _, rfl⟩, ⟨_, _, _, hd957, hp1, hs958⟩⟩
       ·refine y_eql (b := false) H rfl rfl (ieq_f (by omega)) rfl fun a H => y_assign H rfl rfl fun a H => wpList_nil (then_normal (hK749 _ _ ?_))
        replace H := H.k7 0 1 4 5 6 37 222 rfl rfl rfl rfl rfl rfl rfl
        refine y_iff H rfl ?_
        refine y_seq fun K959 hK959 => ?_
        refine y_reg ?_
        by_cases q960 : (((last : Nat) : Int)) = ((6 : Int))
        ·refine y_eql (b := true) H rfl rfl (ieq_t (by omega)) rfl fun a H => y_assign H rfl rfl fun a H => wpList_nil (then_normal (hK959 _ _ ?_))
         replace H := H.k7 0 1 4 5 6 37 325 rfl rfl rfl rfl rfl rfl rfl
         refine y_ift H rfl ?_
         refine y_seq fun K961 hK961 => ?_
         refine y_seq fun K962 hK962 => ?_
         refine y_reg ?_
         refine y_move H rfl rfl fun a H => wpList_nil (then_normal (hK962 _ _ ?_))
         replace H := H.k6 0 1 4 5 6 327 rfl rfl rfl rfl rfl rfl
         refine y_iff H rfl ?_
         refine wp_skip (then_normal (hK961 _ _ ?_))
         replace H := H.k5 0 1 4 5 6 rfl rfl rfl rfl rfl
         refine y_seq fun K963 hK963 => ?_
         refine y_reg ?_
         refine y_move H rfl rfl fun a H => y_nilCheck H rfl rfl fun a H => y_field fld_in H rfl rfl fun a H => ?_
         have hvI964 : View w7 g _ (c :: r) := (DW.inn hd7).eq hbk
         refine y_load one22 H rfl (DW.c10 hd7).1 rfl fun a H => y_idx Tryz.underlying22 info5u H rfl rfl hvI964 (by decide) rfl rfl fun a ad H hc965 => ?_
         refine y_load one5 H rfl hc965 rfl fun a H => y_assign H rfl rfl fun a H => wpList_nil (then_normal (hK963 _ _ ?_))
         replace H := H.k6 0 1 4 5 6 20 rfl rfl rfl rfl rfl rfl
         refine y_seq fun K966 hK966 => ?_
         refine y_reg ?_
         refine y_move H rfl rfl fun a H => wpList_nil (then_normal (hK966 _ _ ?_))
         replace H := H.k7 0 1 4 5 6 20 336 rfl rfl rfl rfl rfl rfl rfl
         refine wp_block ?_
         refine y_seq fun K967 hK967 => ?_
         refine y_reg ?_
         by_cases q968 : ((c.toNat : Int)) = ((93 : Int))
         ·refine y_eql (b := true) H rfl rfl (ieq_t (by omega)) rfl fun a H => y_assign H rfl rfl fun a H => wpList_nil (then_normal (hK967 _ _ ?_))
          replace H := H.k8 0 1 4 5 6 20 336 341 rfl rfl rfl rfl rfl rfl rfl rfl
          refine y_ift H rfl ?_
          refine y_seq fun K969 hK969 => ?_
          refine y_reg ?_
          refine y_move H rfl rfl fun a H => y_call pf_pop H rfl rfl (Calls.mono (pop_any hd7 (open_ne (by omega)) hlen1) ?_)
          rintro e w970 ⟨rfl, vst970, hd970, hds970⟩
          refine ⟨_, rfl, fun a H => ?_⟩
          have hz971 := DStep.size hds970
          have hr972 := RowAt.kept hr9 (DStep.block hds970 _ (by omega) (by omega) hov)
          have hov973 := (fun e => by rcases DStep.lies hds970 _ e with e | e; exact hov e; omega : _ ≠ some q2)
          have hs974 := DStep.trans hs10 hds970
          refine wpList_nil (then_normal (hK969 _ _ ?_))
          replace H := H.k5 0 1 4 5 6 rfl rfl rfl rfl rfl
          refine y_seq fun K975 hK975 => ?_
          refine y_reg ?_
          refine y_move H rfl rfl fun a H => y_call pf_ctoken H rfl rfl (Calls.mono (consumeToken_any _ 7 0 1 w970 hd970 (by show s1.k + _ ≤ bs.length; omega) (by omega)) ?_)
          rintro e w976 ⟨vt976, vi976, rfl, hvt976, hd976, hgc976⟩
          have Hs977 := H
          obtain ⟨ao976, n976, c976, rfl⟩ := View.slice3 hvt976
          have H := Hs977
          refine ⟨_, rfl, fun a H => ?_⟩
          have hz978 := World.grownBy.size hgc976
          have hr979 := RowAt.grown hr972 hgc976 (by omega) (by omega)
          have hs980 := DStep.trans hs974 (DStep.of_grown hgc976)
          refine y_storeRow (vs := [_, _, _, _, _, _]) H rfl rfl hr979 rfl (tok_size' _ _ _ _ _ _) (by simp [Value.oneCell']) fun w981 hr981 hg981 => ?_
          have hz982 := World.grownBy.size hg981
          have hv983 := View.kept hvt976 (World.grownBy.block hg981 g (by omega) (fun e => by injection e with e; omega))
          have hd984 := DW.grownOther hd976 hg981 (by omega) (by omega) hov973 (by omega)
          have hs985 := DStep.thenRow hs980 hg981 (by omega)
          refine y_assign H rfl rfl fun a H => wpList_nil (then_normal (hK975 _ _ ?_))
          replace H := H.k5 0 1 4 5 6 rfl rfl rfl rfl rfl
          refine wp_ret (in_ret (in_ret (then_ret (?_))))
          refine ret2 (by rfl) H rfl rfl hr981 ?_
          rw [show Z = some ((tokT bs s1.k 7 1 0).1, s1.st.dropLast, (tokT bs s1.k 7 1 0).2) from by rw [← HZ1.out, nextB_val6 (by omega), val_close hbk (by omega)]; rfl]
          exact ⟨_, _, _, _, rfl, hv983, hd984, by first | (rw [← hs1]; rfl) | rw [← hs1], hs985⟩
         ·refine y_eql (b := false) H rfl rfl (ieq_f (by omega)) rfl fun a H => y_assign H rfl rfl fun a H => wpList_nil (then_normal (hK967 _ _ ?_))
          replace H := H.k8 0 1 4 5 6 20 336 341 rfl rfl rfl rfl rfl rfl rfl rfl
          refine y_iff H rfl ?_
          refine y_seq fun K986 hK986 => ?_
          refine y_seq fun K987 hK987 => ?_
          refine y_reg ?_
          by_cases q988 : ((c.toNat : Int)) = ((123 : Int))
          ·refine y_eql (b := true) H rfl rfl (ieq_t (by omega)) rfl fun a H => y_assign H rfl rfl fun a H => wpList_nil (then_normal (hK987 _ _ ?_))
           replace H := H.k8 0 1 4 5 6 20 336 347 rfl rfl rfl rfl rfl rfl rfl rfl
           refine y_ift H rfl ?_
           refine wp_skip (then_normal (hK986 _ _ ?_))
           replace H := H.k7 0 1 4 5 6 20 347 rfl rfl rfl rfl rfl rfl rfl
           refine y_ift H rfl ?_
           refine y_seq fun K989 hK989 => ?_
           refine y_reg ?_
           refine y_move H rfl rfl fun a H => y_move H rfl rfl fun a H => y_call pf_push H rfl rfl (Calls.mono (push_any c hd7 hlen1) ?_)
           rintro e w990 ⟨rfl, vst990, hd990, hds990⟩
           refine ⟨_, rfl, fun a H => ?_⟩
           have hz991 := DStep.size hds990
           have hr992 := RowAt.kept hr9 (DStep.block hds990 _ (by omega) (by omega) hov)
           have hov993 := (fun e => by rcases DStep.lies hds990 _ e with e | e; exact hov e; omega : _ ≠ some q2)
           have hs994 := DStep.trans hs10 hds990
           refine wpList_nil (then_normal (hK989 _ _ ?_))
           replace H := H.k5 0 1 4 5 6 rfl rfl rfl rfl rfl
           refine y_seq fun K995 hK995 => ?_
           refine y_reg ?_
           refine y_move H rfl rfl fun a H => y_call pf_ctoken H rfl rfl (Calls.mono (consumeToken_any _ 4 0 1 w990 hd990 (by show s1.k + _ ≤ bs.length; omega) (by omega)) ?_)
           rintro e w996 ⟨vt996, vi996, rfl, hvt996, hd996, hgc996⟩
           have Hs997 := H
           obtain ⟨ao996, n996, c996, rfl⟩ := View.slice3 hvt996
           have H := Hs997
           refine ⟨_, rfl, fun a H => ?_⟩
           have hz998 := World.grownBy.size hgc996
           have hr999 := RowAt.grown hr992 hgc996 (by omega) (by omega)
           have hs1000 := DStep.trans hs994 (DStep.of_grown hgc996)
           refine y_storeRow (vs := [_, _, _, _, _, _]) H rfl rfl hr999 rfl (tok_size' _ _ _ _ _ _) (by simp [Value.oneCell']) fun w1001 hr1001 hg1001 => ?_
           have hz1002 := World.grownBy.size hg1001
           have hv1003 := View.kept hvt996 (World.grownBy.block hg1001 g (by omega) (fun e => by injection e with e; omega))
           have hd1004 := DW.grownOther hd996 hg1001 (by omega) (by omega) hov993 (by omega)
           have hs1005 := DStep.thenRow hs1000 hg1001 (by omega)
           refine y_assign H rfl rfl fun a H => wpList_nil (then_normal (hK995 _ _ ?_))
           replace H := H.k5 0 1 4 5 6 rfl rfl rfl rfl rfl
           refine wp_ret (in_ret (in_ret (then_ret (?_))))
           refine ret2 (by rfl) H rfl rfl hr1001 ?_
           rw [show Z = some ((tokT bs s1.k 4 1 0).1, s1.st ++ [c], (tokT bs s1.k 4 1 0).2) from by rw [← HZ1.out, nextB_val6 (by omega), val_open false true hbk (by omega)]; rfl]
           exact ⟨_, _, _, _, rfl, hv1003, hd1004, by first | (rw [← hs1]; rfl) | rw [← hs1], hs1005⟩
          ·refine y_eql (b := false) H rfl rfl (ieq_f (by omega)) rfl fun a H => y_assign H rfl rfl fun a H => wpList_nil (then_normal (hK987 _ _ ?_))
           replace H := H.k8 0 1 4 5 6 20 336 347 rfl rfl rfl rfl rfl rfl rfl rfl
           refine y_iff H rfl ?_
           refine y_reg ?_
           by_cases q1006 : ((c.toNat : Int)) = ((60 : Int))
           ·refine y_eql (b := true) H rfl rfl (ieq_t (by omega)) rfl fun a H => y_assign H rfl rfl fun a H => wpList_nil (then_normal (hK986 _ _ ?_))
            replace H := H.k7 0 1 4 5 6 20 347 rfl rfl rfl rfl rfl rfl rfl
            refine y_ift H rfl ?_
            refine y_seq fun K1007 hK1007 => ?_
            refine y_reg ?_
            refine y_move H rfl rfl fun a H => y_move H rfl rfl fun a H => y_call pf_push H rfl rfl (Calls.mono (push_any c hd7 hlen1) ?_)
            rintro e w1008 ⟨rfl, vst1008, hd1008, hds1008⟩
            refine ⟨_, rfl, fun a H => ?_⟩
            have hz1009 := DStep.size hds1008
            have hr1010 := RowAt.kept hr9 (DStep.block hds1008 _ (by omega) (by omega) hov)
            have hov1011 := (fun e => by rcases DStep.lies hds1008 _ e with e | e; exact hov e; omega : _ ≠ some q2)
            have hs1012 := DStep.trans hs10 hds1008
            refine wpList_nil (then_normal (hK1007 _ _ ?_))
            replace H := H.k5 0 1 4 5 6 rfl rfl rfl rfl rfl
            refine y_seq fun K1013 hK1013 => ?_
            refine y_reg ?_
            refine y_move H rfl rfl fun a H => y_call pf_ctoken H rfl rfl (Calls.mono (consumeToken_any _ 4 0 1 w1008 hd1008 (by show s1.k + _ ≤ bs.length; omega) (by omega)) ?_)
            rintro e w1014 ⟨vt1014, vi1014, rfl, hvt1014, hd1014, hgc1014⟩
            have Hs1015 := H
            obtain ⟨ao1014, n1014, c1014, rfl⟩ := View.slice3 hvt1014
            have H := Hs1015
            refine ⟨_, rfl, fun a H => ?_⟩
            have hz1016 := World.grownBy.size hgc1014
            have hr1017 := RowAt.grown hr1010 hgc1014 (by omega) (by omega)
            have hs1018 := DStep.trans hs1012 (DStep.of_grown hgc1014)
            refine y_storeRow (vs := [_, _, _, _, _, _]) H rfl rfl hr1017 rfl (tok_size' _ _ _ _ _ _) (by simp [Value.oneCell']) fun w1019 hr1019 hg1019 => ?_
            have hz1020 := World.grownBy.size hg1019
            have hv1021 := View.kept hvt1014 (World.grownBy.block hg1019 g (by omega) (fun e => by injection e with e; omega))
            have hd1022 := DW.grownOther hd1014 hg1019 (by omega) (by omega) hov1011 (by omega)
            have hs1023 := DStep.thenRow hs1018 hg1019 (by omega)
            refine y_assign H rfl rfl fun a H => wpList_nil (then_normal (hK1013 _ _ ?_))
            replace H := H.k5 0 1 4 5 6 rfl rfl rfl rfl rfl
            refine wp_ret (in_ret (in_ret (then_ret (?_))))
            refine ret2 (by rfl) H rfl rfl hr1019 ?_
            rw [show Z = some ((tokT bs s1.k 4 1 0).1, s1.st ++ [c], (tokT bs s1.k 4 1 0).2) from by rw [← HZ1.out, nextB_val6 (by omega), val_open false true hbk (by omega)]; rfl]
            exact ⟨_, _, _, _, rfl, hv1021, hd1022, by first | (rw [← hs1]; rfl) | rw [← hs1], hs1023⟩
           ·refine y_eql (b := false) H rfl rfl (ieq_f (by omega)) rfl fun a H => y_assign H rfl rfl fun a H => wpList_nil (then_normal (hK986 _ _ ?_))
            replace H := H.k7 0 1 4 5 6 20 347 rfl rfl rfl rfl rfl rfl rfl
            refine y_iff H rfl ?_
            refine y_seq fun K1024 hK1024 => ?_
            refine y_reg ?_
            refine y_move H rfl rfl fun a H => ?_
            have HP1025 := parseScalar_any hd7 hm c r hbk
            have Hs1026 := H
            rcases hS1025 : scalarT bs s1.k with _ | ⟨t1025, k1025⟩
            ·have H := Hs1026
             rw [hS1025] at HP1025
             refine y_call pf_scalar H rfl rfl (Calls.mono HP1025 ?_)
             rintro e w1025 ⟨⟨te, xe, rfl⟩, ⟨vi1025, k1025, hd1025⟩, hgc1025⟩
             refine ⟨_, rfl, fun a H => ?_⟩
             have hz1027 := World.grownBy.size hgc1025
             have hr1028 := RowAt.grown hr9 hgc1025 (by omega) (by omega)
             have hs1029 := DStep.trans hs10 (DStep.of_grown hgc1025)
             refine y_extract H rfl rfl rfl fun a H => y_extract H rfl rfl rfl fun a H => y_storeRow (vs := [_, _, _, _, _, _]) H rfl rfl hr1028 rfl (tok_size' _ _ _ _ _ _) (by simp [Value.oneCell']) fun w1030 hr1030 hg1030 => ?_
             have hz1031 := World.grownBy.size hg1030
             have hd1032 := DW.grownOther hd1025 hg1030 (by omega) (by omega) hov (by omega)
             have hs1033 := DStep.thenRow hs1029 hg1030 (by omega)
             refine y_assign H rfl rfl fun a H => wpList_nil (then_normal (hK1024 _ _ ?_))
             replace H := H.k5 0 1 4 5 6 rfl rfl rfl rfl rfl
             refine wp_ret (in_ret (in_ret (then_ret (?_))))
             refine ret2 (by rfl) H rfl rfl hr1030 ?_
             rw [show Z = none from by rw [← HZ1.out, nextB_val6 (by omega), val_scalar false true hbk (by omega) (.inl rfl) (.inr (by omega)), hS1025]; rfl]
             exact ⟨⟨_, _, rfl⟩, ⟨_, _, _, hd1032, hp1, hs1033⟩⟩
            ·have H := Hs1026
             rw [hS1025] at HP1025
             refine y_call pf_scalar H rfl rfl (Calls.mono HP1025 ?_)
             rintro e w1025 ⟨vt1025, vi1025, rfl, hvt1025, hd1025, hgc1025⟩
             have Hs1034 := H
             obtain ⟨ao1025, n1025, c1025, rfl⟩ := View.slice3 hvt1025
             have H := Hs1034
             refine ⟨_, rfl, fun a H => ?_⟩
             have hz1035 := World.grownBy.size hgc1025
             have hr1036 := RowAt.grown hr9 hgc1025 (by omega) (by omega)
             have hs1037 := DStep.trans hs10 (DStep.of_grown hgc1025)
             refine y_extract H rfl rfl rfl fun a H => y_extract H rfl rfl rfl fun a H => y_storeRow (vs := [_, _, _, _, _, _]) H rfl rfl hr1036 rfl (tok_size' _ _ _ _ _ _) (by simp [Value.oneCell']) fun w1038 hr1038 hg1038 => ?_
             have hz1039 := World.grownBy.size hg1038
             have hv1040 := View.kept hvt1025 (World.grownBy.block hg1038 g (by omega) (fun e => by injection e with e; omega))
             have hd1041 := DW.grownOther hd1025 hg1038 (by omega) (by omega) hov (by omega)
             have hs1042 := DStep.thenRow hs1037 hg1038 (by omega)
             refine y_assign H rfl rfl fun a H => wpList_nil (then_normal (hK1024 _ _ ?_))
             replace H := H.k5 0 1 4 5 6 rfl rfl rfl rfl rfl
             refine wp_ret (in_ret (in_ret (then_ret (?_))))
             refine ret2 (by rfl) H rfl rfl hr1038 ?_
             rw [show Z = some (t1025, s1.st, k1025) from by rw [← HZ1.out, nextB_val6 (by omega), val_scalar false true hbk (by omega) (.inl rfl) (.inr (by omega)), hS1025]; rfl]
             exact ⟨_, _, _, _, rfl, hv1040, hd1041, by first | (rw [← hs1]; rfl) | rw [← hs1], hs1042⟩
        ·refine y_eql (b := false) H rfl rfl (ieq_f (by omega)) rfl fun a H => y_assign H rfl rfl fun a H => wpList_nil (then_normal (hK959 _ _ ?_))
         replace H := H.k7 0 1 4 5 6 37 325 rfl rfl rfl rfl rfl rfl rfl
         refine y_iff H rfl ?_
         refine y_seq fun K1043 hK1043 => ?_
         refine y_reg ?_
         by_cases q1044 : (((last : Nat) : Int)) = ((7 : Int))
         ·refine y_eql (b := true) H rfl rfl (ieq_t (by omega)) rfl fun a H => y_assign H rfl rfl fun a H => wpList_nil (then_normal (hK1043 _ _ ?_))
          replace H := H.k7 0 1 4 5 6 37 355 rfl rfl rfl rfl rfl rfl rfl
          refine y_ift H rfl ?_
          refine y_seq fun K1045 hK1045 => ?_
          refine y_reg ?_
          refine y_move H rfl rfl fun a H => y_call pf_okind H rfl rfl (Calls.mono (openKind_any hd7 hok1 hlen1) ?_)
          rintro e w1046 ⟨rfl, hb1046⟩
          refine ⟨_, rfl, fun a H => ?_⟩
          have hz1047 := Below.size hb1046
          have hr1048 := RowAt.below hr9 (by omega) hb1046
          have hd1049 := DW.below hd7 hb1046
          have hs1050 := DStep.trans hs10 (DStep.of_below hb1046)
          refine y_move H rfl rfl fun a H => y_extract H rfl rfl rfl fun a H => y_extract H rfl rfl rfl fun a H => y_assign H rfl rfl fun a H => y_assign H rfl rfl fun a H => wpList_nil (then_normal (hK1045 _ _ ?_))
          replace H := H.k7 0 1 4 5 6 21 22 rfl rfl rfl rfl rfl rfl rfl
          refine y_seq fun K1051 hK1051 => ?_
          refine y_reg ?_
          refine y_move H rfl rfl fun a H => wpList_nil (then_normal (hK1051 _ _ ?_))
          replace H := H.k7 0 1 4 5 6 22 362 rfl rfl rfl rfl rfl rfl rfl
          refine wp_block ?_
          refine y_seq fun K1052 hK1052 => ?_
          refine y_reg ?_
          by_cases q1053 : (((openK s1.st : Nat) : Int)) = ((0 : Int))
          ·refine y_eql (b := true) H rfl rfl (ieq_t (by omega)) rfl fun a H => y_assign H rfl rfl fun a H => wpList_nil (then_normal (hK1052 _ _ ?_))
           replace H := H.k8 0 1 4 5 6 22 362 363 rfl rfl rfl rfl rfl rfl rfl rfl
           refine y_ift H rfl ?_
           refine y_seq fun K1054 hK1054 => ?_
           refine y_seq fun K1055 hK1055 => ?_
           refine y_reg ?_
           refine y_move H rfl rfl fun a H => wpList_nil (then_normal (hK1055 _ _ ?_))
           replace H := H.k6 0 1 4 5 6 365 rfl rfl rfl rfl rfl rfl
           refine y_iff H rfl ?_
           refine wp_skip (then_normal (hK1054 _ _ ?_))
           replace H := H.k5 0 1 4 5 6 rfl rfl rfl rfl rfl
           refine y_seq fun K1056 hK1056 => ?_
           refine y_reg ?_
           refine y_move H rfl rfl fun a H => y_nilCheck H rfl rfl fun a H => y_field fld_in H rfl rfl fun a H => ?_
           have hvI1057 : View w1046 g _ (c :: r) := (DW.inn hd1049).eq hbk
           refine y_load one22 H rfl (DW.c10 hd1049).1 rfl fun a H => y_idx Tryz.underlying22 info5u H rfl rfl hvI1057 (by decide) rfl rfl fun a ad H hc1058 => ?_
           refine y_load one5 H rfl hc1058 rfl fun a H => y_assign H rfl rfl fun a H => wpList_nil (then_normal (hK1056 _ _ ?_))
           replace H := H.k6 0 1 4 5 6 23 rfl rfl rfl rfl rfl rfl
           refine y_seq fun K1059 hK1059 => ?_
           refine y_reg ?_
           refine y_move H rfl rfl fun a H => wpList_nil (then_normal (hK1059 _ _ ?_))
           replace H := H.k6 0 1 4 5 6 374 rfl rfl rfl rfl rfl rfl
           refine wp_block ?_
           refine y_seq fun K1060 hK1060 => ?_
           refine y_reg ?_
           by_cases q1061 : ((c.toNat : Int)) = ((44 : Int))
           ·refine y_eql (b := true) H rfl rfl (ieq_t (by omega)) rfl fun a H => y_assign H rfl rfl fun a H => wpList_nil (then_normal (hK1060 _ _ ?_))
            replace H := H.k7 0 1 4 5 6 374 379 rfl rfl rfl rfl rfl rfl rfl
            refine y_ift H rfl ?_
            refine y_seq fun K1062 hK1062 => ?_
            refine y_reg ?_
            refine y_move H rfl rfl fun a H => y_call pf_ctoken H rfl rfl (Calls.mono (consumeToken_any _ 8 0 1 w1046 hd1049 (by show s1.k + _ ≤ bs.length; omega) (by omega)) ?_)
            rintro e w1063 ⟨vt1063, vi1063, rfl, hvt1063, hd1063, hgc1063⟩
            have Hs1064 := H
            obtain ⟨ao1063, n1063, c1063, rfl⟩ := View.slice3 hvt1063
            have H := Hs1064
            refine ⟨_, rfl, fun a H => ?_⟩
            have hz1065 := World.grownBy.size hgc1063
            have hr1066 := RowAt.grown hr1048 hgc1063 (by omega) (by omega)
            have hs1067 := DStep.trans hs1050 (DStep.of_grown hgc1063)
            refine y_storeRow (vs := [_, _, _, _, _, _]) H rfl rfl hr1066 rfl (tok_size' _ _ _ _ _ _) (by simp [Value.oneCell']) fun w1068 hr1068 hg1068 => ?_
            have hz1069 := World.grownBy.size hg1068
            have hv1070 := View.kept hvt1063 (World.grownBy.block hg1068 g (by omega) (fun e => by injection e with e; omega))
            have hd1071 := DW.grownOther hd1063 hg1068 (by omega) (by omega) hov (by omega)
            have hs1072 := DStep.thenRow hs1067 hg1068 (by omega)
            refine y_assign H rfl rfl fun a H => wpList_nil (then_normal (hK1062 _ _ ?_))
            replace H := H.k5 0 1 4 5 6 rfl rfl rfl rfl rfl
            refine wp_ret (in_ret (in_ret (in_ret (then_ret (?_)))))
            refine ret2 (by rfl) H rfl rfl hr1068 ?_
            rw [show Z = some ((tokT bs s1.k 8 1 0).1, s1.st, (tokT bs s1.k 8 1 0).2) from by rw [← HZ1.out, nextB_top3 (by omega) (by omega), top_comma hbk (by omega)]; rfl]
            exact ⟨_, _, _, _, rfl, hv1070, hd1071, by first | (rw [← hs1]; rfl) | rw [← hs1], hs1072⟩
           ·refine y_eql (b := false) H rfl rfl (ieq_f (by omega)) rfl fun a H => y_assign H rfl rfl fun a H => wpList_nil (then_normal (hK1060 _ _ ?_))
            replace H := H.k7 0 1 4 5 6 374 379 rfl rfl rfl rfl rfl rfl rfl
            refine y_iff H rfl ?_
            refine y_seq fun K1073 hK1073 => ?_
            refine y_reg ?_
            by_cases q1074 : ((c.toNat : Int)) = ((59 : Int))
            ·refine y_eql (b := true) H rfl rfl (ieq_t (by omega)) rfl fun a H => y_assign H rfl rfl fun a H => wpList_nil (then_normal (hK1073 _ _ ?_))
             replace H := H.k6 0 1 4 5 6 383 rfl rfl rfl rfl rfl rfl
             refine y_ift H rfl ?_
             refine y_seq fun K1075 hK1075 => ?_
             refine y_reg ?_
             refine y_move H rfl rfl fun a H => y_call pf_ctoken H rfl rfl (Calls.mono (consumeToken_any _ 9 0 1 w1046 hd1049 (by show s1.k + _ ≤ bs.length; omega) (by omega)) ?_)
             rintro e w1076 ⟨vt1076, vi1076, rfl, hvt1076, hd1076, hgc1076⟩
             have Hs1077 := H
             obtain ⟨ao1076, n1076, c1076, rfl⟩ := View.slice3 hvt1076
             have H := Hs1077
             refine ⟨_, rfl, fun a H => ?_⟩
             have hz1078 := World.grownBy.size hgc1076
             have hr1079 := RowAt.grown hr1048 hgc1076 (by omega) (by omega)
             have hs1080 := DStep.trans hs1050 (DStep.of_grown hgc1076)
             refine y_storeRow (vs := [_, _, _, _, _, _]) H rfl rfl hr1079 rfl (tok_size' _ _ _ _ _ _) (by simp [Value.oneCell']) fun w1081 hr1081 hg1081 => ?_
             have hz1082 := World.grownBy.size hg1081
             have hv1083 := View.kept hvt1076 (World.grownBy.block hg1081 g (by omega) (fun e => by injection e with e; omega))
             have hd1084 := DW.grownOther hd1076 hg1081 (by omega) (by omega) hov (by omega)
             have hs1085 := DStep.thenRow hs1080 hg1081 (by omega)
             refine y_assign H rfl rfl fun a H => wpList_nil (then_normal (hK1075 _ _ ?_))
             replace H := H.k5 0 1 4 5 6 rfl rfl rfl rfl rfl
             refine wp_ret (in_ret (in_ret (in_ret (then_ret (?_)))))
             refine ret2 (by rfl) H rfl rfl hr1081 ?_
             rw [show Z = some ((tokT bs s1.k 9 1 0).1, s1.st, (tokT bs s1.k 9 1 0).2) from by rw [← HZ1.out, nextB_top3 (by omega) (by omega), top_semi hbk (by omega)]; rfl]
             exact ⟨_, _, _, _, rfl, hv1083, hd1084, by first | (rw [← hs1]; rfl) | rw [← hs1], hs1085⟩
            ·refine y_eql (b := false) H rfl rfl (ieq_f (by omega)) rfl fun a H => y_assign H rfl rfl fun a H => wpList_nil (then_normal (hK1073 _ _ ?_))
             replace H := H.k6 0 1 4 5 6 383 rfl rfl rfl rfl rfl rfl
             refine y_iff H rfl ?_
             refine y_seq fun K1086 hK1086 => ?_
             refine y_reg ?_
             refine y_move H rfl rfl fun a H => ?_
             have HP1087 := parseField_any hd1049 hm c r hbk
             have Hs1088 := H
             rcases hS1087 : fieldT bs s1.k with _ | ⟨t1087, k1087⟩
             ·have H := Hs1088
              rw [hS1087] at HP1087
              refine y_call pf_field H rfl rfl (Calls.mono HP1087 ?_)
              rintro e w1087 ⟨⟨te, xe, rfl⟩, ⟨vi1087, k1087, hd1087⟩, hgc1087⟩
              refine ⟨_, rfl, fun a H => ?_⟩
              have hz1089 := World.grownBy.size hgc1087
              have hr1090 := RowAt.grown hr1048 hgc1087 (by omega) (by omega)
              have hs1091 := DStep.trans hs1050 (DStep.of_grown hgc1087)
              refine y_extract H rfl rfl rfl fun a H => y_extract H rfl rfl rfl fun a H => y_storeRow (vs := [_, _, _, _, _, _]) H rfl rfl hr1090 rfl (tok_size' _ _ _ _ _ _) (by simp [Value.oneCell']) fun w1092 hr1092 hg1092 => ?_
              have hz1093 := World.grownBy.size hg1092
              have hd1094 := DW.grownOther hd1087 hg1092 (by omega) (by omega) hov (by omega)
              have hs1095 := DStep.thenRow hs1091 hg1092 (by omega)
              refine y_assign H rfl rfl fun a H => wpList_nil (then_normal (hK1086 _ _ ?_))
              replace H := H.k5 0 1 4 5 6 rfl rfl rfl rfl rfl
              refine wp_ret (in_ret (in_ret (in_ret (then_ret (?_)))))
              refine ret2 (by rfl) H rfl rfl hr1092 ?_
              rw [show Z = none from by rw [← HZ1.out, nextB_top3 (by omega) (by omega), top_field true hbk (.inr (by omega)), hS1087]; rfl]
              exact ⟨⟨_, _, rfl⟩, ⟨_, _, _, hd1094, hp1, hs1095⟩⟩
             ·have H := Hs1088
              rw [hS1087] at HP1087
              refine y_call pf_field H rfl rfl (Calls.mono HP1087 ?_)
              rintro e w1087 ⟨vt1087, vi1087, rfl, hvt1087, hd1087, hgc1087⟩
              have Hs1096 := H
              obtain ⟨ao1087, n1087, c1087, rfl⟩ := View.slice3 hvt1087
              have H := Hs1096
              refine ⟨_, rfl, fun a H => ?_⟩
              have hz1097 := World.grownBy.size hgc1087
              have hr1098 := RowAt.grown hr1048 hgc1087 (by omega) (by omega)
              have hs1099 := DStep.trans hs1050 (DStep.of_grown hgc1087)
              refine y_extract H rfl rfl rfl fun a H => y_extract H rfl rfl rfl fun a H => y_storeRow (vs := [_, _, _, _, _, _]) H rfl rfl hr1098 rfl (tok_size' _ _ _ _ _ _) (by simp [Value.oneCell']) fun w1100 hr1100 hg1100 => ?_
              have hz1101 := World.grownBy.size hg1100
              have hv1102 := View.kept hvt1087 (World.grownBy.block hg1100 g (by omega) (fun e => by injection e with e; omega))
              have hd1103 := DW.grownOther hd1087 hg1100 (by omega) (by omega) hov (by omega)
              have hs1104 := DStep.thenRow hs1099 hg1100 (by omega)
              refine y_assign H rfl rfl fun a H => wpList_nil (then_normal (hK1086 _ _ ?_))
              replace H := H.k5 0 1 4 5 6 rfl rfl rfl rfl rfl
              refine wp_ret (in_ret (in_ret (in_ret (then_ret (?_)))))
              refine ret2 (by rfl) H rfl rfl hr1100 ?_
              rw [show Z = some (t1087, s1.st, k1087) from by rw [← HZ1.out, nextB_top3 (by omega) (by omega), top_field true hbk (.inr (by omega)), hS1087]; rfl]
              exact ⟨_, _, _, _, rfl, hv1102, hd1103, by first | (rw [← hs1]; rfl) | rw [← hs1], hs1104⟩
          ·refine y_eql (b := false) H rfl rfl (ieq_f (by omega)) rfl fun a H => y_assign H rfl rfl fun a H => wpList_nil (then_normal (hK1052 _ _ ?_))
           replace H := H.k8 0 1 4 5 6 22 362 363 rfl rfl rfl rfl rfl rfl rfl rfl
           refine y_iff H rfl ?_
           refine y_seq fun K1105 hK1105 => ?_
           refine y_reg ?_
           by_cases q1106 : (((openK s1.st : Nat) : Int)) = ((4 : Int))
           ·refine y_eql (b := true) H rfl rfl (ieq_t (by omega)) rfl fun a H => y_assign H rfl rfl fun a H => wpList_nil (then_normal (hK1105 _ _ ?_))
            replace H := H.k7 0 1 4 5 6 22 387 rfl rfl rfl rfl rfl rfl rfl
            refine y_ift H rfl ?_
            refine y_seq fun K1107 hK1107 => ?_
            refine y_seq fun K1108 hK1108 => ?_
            refine y_reg ?_
            refine y_move H rfl rfl fun a H => wpList_nil (then_normal (hK1108 _ _ ?_))
            replace H := H.k7 0 1 4 5 6 22 389 rfl rfl rfl rfl rfl rfl rfl
            refine y_iff H rfl ?_
            refine wp_skip (then_normal (hK1107 _ _ ?_))
            replace H := H.k6 0 1 4 5 6 22 rfl rfl rfl rfl rfl rfl
            refine y_seq fun K1109 hK1109 => ?_
            refine y_reg ?_
            refine y_move H rfl rfl fun a H => y_nilCheck H rfl rfl fun a H => y_field fld_in H rfl rfl fun a H => ?_
            have hvI1110 : View w1046 g _ (c :: r) := (DW.inn hd1049).eq hbk
            refine y_load one22 H rfl (DW.c10 hd1049).1 rfl fun a H => y_idx Tryz.underlying22 info5u H rfl rfl hvI1110 (by decide) rfl rfl fun a ad H hc1111 => ?_
            refine y_load one5 H rfl hc1111 rfl fun a H => y_assign H rfl rfl fun a H => wpList_nil (then_normal (hK1109 _ _ ?_))
            replace H := H.k7 0 1 4 5 6 22 24 rfl rfl rfl rfl rfl rfl rfl
            refine y_seq fun K1112 hK1112 => ?_
            refine y_reg ?_
            refine y_move H rfl rfl fun a H => wpList_nil (then_normal (hK1112 _ _ ?_))
            replace H := H.k8 0 1 4 5 6 22 24 398 rfl rfl rfl rfl rfl rfl rfl rfl
            refine wp_block ?_
            refine y_seq fun K1113 hK1113 => ?_
            refine y_reg ?_
            refine y_move H rfl rfl fun a H => ?_
            by_cases q1114 : ((c.toNat : Int)) = (((closeT s1.st : Nat) : Int))
            ·refine y_eql (b := true) H rfl rfl (ieq_t (by omega)) rfl fun a H => y_assign H rfl rfl fun a H => wpList_nil (then_normal (hK1113 _ _ ?_))
             replace H := H.k9 0 1 4 5 6 22 24 398 403 rfl rfl rfl rfl rfl rfl rfl rfl rfl
             refine y_ift H rfl ?_
             refine y_seq fun K1115 hK1115 => ?_
             refine y_reg ?_
             refine y_move H rfl rfl fun a H => y_call pf_pop H rfl rfl (Calls.mono (pop_any hd1049 (open_ne (by omega)) hlen1) ?_)
             rintro e w1116 ⟨rfl, vst1116, hd1116, hds1116⟩
             refine ⟨_, rfl, fun a H => ?_⟩
             have hz1117 := DStep.size hds1116
             have hr1118 := RowAt.kept hr1048 (DStep.block hds1116 _ (by omega) (by omega) hov)
             have hov1119 := (fun e => by rcases DStep.lies hds1116 _ e with e | e; exact hov e; omega : _ ≠ some q2)
             have hs1120 := DStep.trans hs1050 hds1116
             refine wpList_nil (then_normal (hK1115 _ _ ?_))
             replace H := H.k5 0 1 4 5 6 rfl rfl rfl rfl rfl
             refine y_seq fun K1121 hK1121 => ?_
             refine y_reg ?_
             refine y_move H rfl rfl fun a H => y_call pf_ctoken H rfl rfl (Calls.mono (consumeToken_any _ 5 0 1 w1116 hd1116 (by show s1.k + _ ≤ bs.length; omega) (by omega)) ?_)
             rintro e w1122 ⟨vt1122, vi1122, rfl, hvt1122, hd1122, hgc1122⟩
             have Hs1123 := H
             obtain ⟨ao1122, n1122, c1122, rfl⟩ := View.slice3 hvt1122
             have H := Hs1123
             refine ⟨_, rfl, fun a H => ?_⟩
             have hz1124 := World.grownBy.size hgc1122
             have hr1125 := RowAt.grown hr1118 hgc1122 (by omega) (by omega)
             have hs1126 := DStep.trans hs1120 (DStep.of_grown hgc1122)
             refine y_storeRow (vs := [_, _, _, _, _, _]) H rfl rfl hr1125 rfl (tok_size' _ _ _ _ _ _) (by simp [Value.oneCell']) fun w1127 hr1127 hg1127 => ?_
             have hz1128 := World.grownBy.size hg1127
             have hv1129 := View.kept hvt1122 (World.grownBy.block hg1127 g (by omega) (fun e => by injection e with e; omega))
             have hd1130 := DW.grownOther hd1122 hg1127 (by omega) (by omega) hov1119 (by omega)
             have hs1131 := DStep.thenRow hs1126 hg1127 (by omega)
             refine y_assign H rfl rfl fun a H => wpList_nil (then_normal (hK1121 _ _ ?_))
             replace H := H.k5 0 1 4 5 6 rfl rfl rfl rfl rfl
             refine wp_ret (in_ret (in_ret (in_ret (then_ret (?_)))))
             refine ret2 (by rfl) H rfl rfl hr1127 ?_
             rw [show Z = some ((tokT bs s1.k 5 1 0).1, s1.st.dropLast, (tokT bs s1.k 5 1 0).2) from by rw [← HZ1.out, nextB_msg3 (by omega) (by omega), msg_close true hbk (by omega)]; rfl]
             exact ⟨_, _, _, _, rfl, hv1129, hd1130, by first | (rw [← hs1]; rfl) | rw [← hs1], hs1131⟩
            ·refine y_eql (b := false) H rfl rfl (ieq_f (by omega)) rfl fun a H => y_assign H rfl rfl fun a H => wpList_nil (then_normal (hK1113 _ _ ?_))
             replace H := H.k9 0 1 4 5 6 22 24 398 403 rfl rfl rfl rfl rfl rfl rfl rfl rfl
             refine y_iff H rfl ?_
             refine y_seq fun K1132 hK1132 => ?_
             refine y_reg ?_
             refine y_call pf_other H rfl rfl (Calls.mono (other_any w1046) ?_)
             rintro e w1133 ⟨b1133, rfl, hlk1133, hb1133⟩
             refine ⟨_, rfl, fun a H => ?_⟩
             have hz1134 := Below.size hb1133
             have hr1135 := RowAt.below hr1048 (by omega) hb1133
             have hd1136 := DW.below hd1049 hb1133
             have hs1137 := DStep.trans hs1050 (DStep.of_below hb1133)
             refine y_move H rfl rfl fun a H => y_lookup (k := closeT s1.st) H rfl rfl (hlk1133 _ (by omega)) rfl fun a H => ?_
             by_cases q1138 : ((c.toNat : Int)) = (((otherT (closeT s1.st) : Nat) : Int))
             ·refine y_eql (b := true) H rfl rfl (ieq_t (by omega)) rfl fun a H => y_assign H rfl rfl fun a H => wpList_nil (then_normal (hK1132 _ _ ?_))
              replace H := H.k8 0 1 4 5 6 24 398 410 rfl rfl rfl rfl rfl rfl rfl rfl
              refine y_ift H rfl ?_
              refine y_seq fun K1139 hK1139 => ?_
              refine y_reg ?_
              refine y_bld built_tok0 H rfl rfl fun a H => y_move H rfl rfl fun a H => y_move H rfl rfl fun a H => y_mkIface Tryz.underlying5 rfl H rfl rfl fun a H => y_any1 H rfl rfl fun w1140 u1140 hb1140 a H => ?_
              have hz1141 := Below.size hb1140
              have hr1142 := RowAt.below hr1135 (by omega) hb1140
              have hd1143 := DW.below hd1136 hb1140
              have hs1144 := DStep.trans hs1137 (DStep.of_below hb1140)
              refine y_call pf_newerr H rfl rfl (Calls.mono (newError_any _ _ _ w1140 (by decide)) ?_)
              rintro e w1145 ⟨⟨xe, rfl⟩, hb1145⟩
              refine ⟨_, rfl, fun a H => ?_⟩
              have hz1146 := Below.size hb1145
              have hr1147 := RowAt.below hr1142 (by omega) hb1145
              have hd1148 := DW.below hd1143 hb1145
              have hs1149 := DStep.trans hs1144 (DStep.of_below hb1145)
              refine y_storeRow (vs := [_, _, _, _, _, _]) H rfl rfl hr1147 rfl (tok_size' _ _ _ _ _ _) (by simp [Value.oneCell']) fun w1150 hr1150 hg1150 => ?_
              have hz1151 := World.grownBy.size hg1150
              have hd1152 := DW.grownOther hd1148 hg1150 (by omega) (by omega) hov (by omega)
              have hs1153 := DStep.thenRow hs1149 hg1150 (by omega)
              refine y_assign H rfl rfl fun a H => wpList_nil (then_normal (hK1139 _ _ ?_))
              replace H := H.k5 0 1 4 5 6 rfl rfl rfl rfl rfl
              refine wp_ret (in_ret (in_ret (in_ret (then_ret (?_)))))
              refine ret2 (by rfl) H rfl rfl hr1150 ?_
              rw [show Z = none from by rw [← HZ1.out, nextB_msg3 (by omega) (by omega), msg_other true hbk (by omega) (by omega)]]
              exact ⟨⟨_, _, rfl⟩, ⟨_, _, _, hd1152, hp1, hs1153⟩⟩
             ·refine y_eql (b := false) H rfl rfl (ieq_f (by omega)) rfl fun a H => y_assign H rfl rfl fun a H => wpList_nil (then_normal (hK1132 _ _ ?_))
              replace H := H.k8 0 1 4 5 6 24 398 410 rfl rfl rfl rfl rfl rfl rfl rfl
              refine y_iff H rfl ?_
              refine y_seq fun K1154 hK1154 => ?_
              refine y_reg ?_
              by_cases q1155 : ((c.toNat : Int)) = ((44 : Int))
              ·refine y_eql (b := true) H rfl rfl (ieq_t (by omega)) rfl fun a H => y_assign H rfl rfl fun a H => wpList_nil (then_normal (hK1154 _ _ ?_))
               replace H := H.k7 0 1 4 5 6 398 421 rfl rfl rfl rfl rfl rfl rfl
               refine y_ift H rfl ?_
               refine y_seq fun K1156 hK1156 => ?_
               refine y_reg ?_
               refine y_move H rfl rfl fun a H => y_call pf_ctoken H rfl rfl (Calls.mono (consumeToken_any _ 8 0 1 w1133 hd1136 (by show s1.k + _ ≤ bs.length; omega) (by omega)) ?_)
               rintro e w1157 ⟨vt1157, vi1157, rfl, hvt1157, hd1157, hgc1157⟩
               have Hs1158 := H
               obtain ⟨ao1157, n1157, c1157, rfl⟩ := View.slice3 hvt1157
               have H := Hs1158
               refine ⟨_, rfl, fun a H => ?_⟩
               have hz1159 := World.grownBy.size hgc1157
               have hr1160 := RowAt.grown hr1135 hgc1157 (by omega) (by omega)
               have hs1161 := DStep.trans hs1137 (DStep.of_grown hgc1157)
               refine y_storeRow (vs := [_, _, _, _, _, _]) H rfl rfl hr1160 rfl (tok_size' _ _ _ _ _ _) (by simp [Value.oneCell']) fun w1162 hr1162 hg1162 => ?_
               have hz1163 := World.grownBy.size hg1162
               have hv1164 := View.kept hvt1157 (World.grownBy.block hg1162 g (by omega) (fun e => by injection e with e; omega))
               have hd1165 := DW.grownOther hd1157 hg1162 (by omega) (by omega) hov (by omega)
               have hs1166 := DStep.thenRow hs1161 hg1162 (by omega)
               refine y_assign H rfl rfl fun a H => wpList_nil (then_normal (hK1156 _ _ ?_))
               replace H := H.k5 0 1 4 5 6 rfl rfl rfl rfl rfl
               refine wp_ret (in_ret (in_ret (in_ret (then_ret (?_)))))
               refine ret2 (by rfl) H rfl rfl hr1162 ?_
               rw [show Z = some ((tokT bs s1.k 8 1 0).1, s1.st, (tokT bs s1.k 8 1 0).2) from by rw [← HZ1.out, nextB_msg3 (by omega) (by omega), msg_comma hbk (by omega) (by omega) (by omega)]; rfl]
               exact ⟨_, _, _, _, rfl, hv1164, hd1165, by first | (rw [← hs1]; rfl) | rw [← hs1], hs1166⟩
              ·refine y_eql (b := false) H rfl rfl (ieq_f (by omega)) rfl fun a H => y_assign H rfl rfl fun a H => wpList_nil (then_normal (hK1154 _ _ ?_))
               replace H := H.k7 0 1 4 5 6 398 421 rfl rfl rfl rfl rfl rfl rfl
               refine y_iff H rfl ?_
               refine y_seq fun K1167 hK1167 => ?_
               refine y_reg ?_
               by_cases q1168 : ((c.toNat : Int)) = ((59 : Int))
               ·refine y_eql (b := true) H rfl rfl (ieq_t (by omega)) rfl fun a H => y_assign H rfl rfl fun a H => wpList_nil (then_normal (hK1167 _ _ ?_))
                replace H := H.k6 0 1 4 5 6 425 rfl rfl rfl rfl rfl rfl
                refine y_ift H rfl ?_
                refine y_seq fun K1169 hK1169 => ?_
                refine y_reg ?_
                refine y_move H rfl rfl fun a H => y_call pf_ctoken H rfl rfl (Calls.mono (consumeToken_any _ 9 0 1 w1133 hd1136 (by show s1.k + _ ≤ bs.length; omega) (by omega)) ?_)
                rintro e w1170 ⟨vt1170, vi1170, rfl, hvt1170, hd1170, hgc1170⟩
                have Hs1171 := H
                obtain ⟨ao1170, n1170, c1170, rfl⟩ := View.slice3 hvt1170
                have H := Hs1171
                refine ⟨_, rfl, fun a H => ?_⟩
                have hz1172 := World.grownBy.size hgc1170
                have hr1173 := RowAt.grown hr1135 hgc1170 (by omega) (by omega)
                have hs1174 := DStep.trans hs1137 (DStep.of_grown hgc1170)
                refine y_storeRow (vs := [_, _, _, _, _, _]) H rfl rfl hr1173 rfl (tok_size' _ _ _ _ _ _) (by simp [Value.oneCell']) fun w1175 hr1175 hg1175 => ?_
                have hz1176 := World.grownBy.size hg1175
                have hv1177 := View.kept hvt1170 (World.grownBy.block hg1175 g (by omega) (fun e => by injection e with e; omega))
                have hd1178 := DW.grownOther hd1170 hg1175 (by omega) (by omega) hov (by omega)
                have hs1179 := DStep.thenRow hs1174 hg1175 (by omega)
                refine y_assign H rfl rfl fun a H => wpList_nil (then_normal (hK1169 _ _ ?_))
                replace H := H.k5 0 1 4 5 6 rfl rfl rfl rfl rfl
                refine wp_ret (in_ret (in_ret (in_ret (then_ret (?_)))))
                refine ret2 (by rfl) H rfl rfl hr1175 ?_
                rw [show Z = some ((tokT bs s1.k 9 1 0).1, s1.st, (tokT bs s1.k 9 1 0).2) from by rw [← HZ1.out, nextB_msg3 (by omega) (by omega), msg_semi hbk (by omega) (by omega) (by omega)]; rfl]
                exact ⟨_, _, _, _, rfl, hv1177, hd1178, by first | (rw [← hs1]; rfl) | rw [← hs1], hs1179⟩
               ·refine y_eql (b := false) H rfl rfl (ieq_f (by omega)) rfl fun a H => y_assign H rfl rfl fun a H => wpList_nil (then_normal (hK1167 _ _ ?_))
                replace H := H.k6 0 1 4 5 6 425 rfl rfl rfl rfl rfl rfl
                refine y_iff H rfl ?_
                refine y_seq fun K1180 hK1180 => ?_
                refine y_reg ?_
                refine y_move H rfl rfl fun a H => ?_
                have HP1181 := parseField_any hd1136 hm c r hbk
                have Hs1182 := H
                rcases hS1181 : fieldT bs s1.k with _ | ⟨t1181, k1181⟩
                ·have H := Hs1182
                 rw [hS1181] at HP1181
                 refine y_call pf_field H rfl rfl (Calls.mono HP1181 ?_)
                 rintro e w1181 ⟨⟨te, xe, rfl⟩, ⟨vi1181, k1181, hd1181⟩, hgc1181⟩
                 refine ⟨_, rfl, fun a H => ?_⟩
                 have hz1183 := World.grownBy.size hgc1181
                 have hr1184 := RowAt.grown hr1135 hgc1181 (by omega) (by omega)
                 have hs1185 := DStep.trans hs1137 (DStep.of_grown hgc1181)
                 refine y_extract H rfl rfl rfl fun a H => y_extract H rfl rfl rfl fun a H => y_storeRow (vs := [_, _, _, _, _, _]) H rfl rfl hr1184 rfl (tok_size' _ _ _ _ _ _) (by simp [Value.oneCell']) fun w1186 hr1186 hg1186 => ?_
                 have hz1187 := World.grownBy.size hg1186
                 have hd1188 := DW.grownOther hd1181 hg1186 (by omega) (by omega) hov (by omega)
                 have hs1189 := DStep.thenRow hs1185 hg1186 (by omega)
                 refine y_assign H rfl rfl fun a H => wpList_nil (then_normal (hK1180 _ _ ?_))
                 replace H := H.k5 0 1 4 5 6 rfl rfl rfl rfl rfl
                 refine wp_ret (in_ret (in_ret (in_ret (then_ret (?_)))))
                 refine ret2 (by rfl) H rfl rfl hr1186 ?_
                 rw [show Z = none from by rw [← HZ1.out, nextB_msg3 (by omega) (by omega), msg_field true hbk (by omega) (by omega) (.inr (by omega)), hS1181]; rfl]
                 exact ⟨⟨_, _, rfl⟩, ⟨_, _, _, hd1188, hp1, hs1189⟩⟩
                ·have H := Hs1182
                 rw [hS1181] at HP1181
                 refine y_call pf_field H rfl rfl (Calls.mono HP1181 ?_)
                 rintro e w1181 ⟨vt1181, vi1181, rfl, hvt1181, hd1181, hgc1181⟩
                 have Hs1190 := H
                 obtain ⟨ao1181, n1181, c1181, rfl⟩ := View.slice3 hvt1181
                 have H := Hs1190
                 refine ⟨_, rfl, fun a H => ?_⟩
                 have hz1191 := World.grownBy.size hgc1181
                 have hr1192 := RowAt.grown hr1135 hgc1181 (by omega) (by omega)
                 have hs1193 := DStep.trans hs1137 (DStep.of_grown hgc1181)
                 refine y_extract H rfl rfl rfl fun a H => y_extract H rfl rfl rfl fun a H => y_storeRow (vs := [_, _, _, _, _, _]) H rfl rfl hr1192 rfl (tok_size' _ _ _ _ _ _) (by simp [Value.oneCell']) fun w1194 hr1194 hg1194 => ?_
                 have hz1195 := World.grownBy.size hg1194
                 have hv1196 := View.kept hvt1181 (World.grownBy.block hg1194 g (by omega) (fun e => by injection e with e; omega))
                 have hd1197 := DW.grownOther hd1181 hg1194 (by omega) (by omega) hov (by omega)
                 have hs1198 := DStep.thenRow hs1193 hg1194 (by omega)
                 refine y_assign H rfl rfl fun a H => wpList_nil (then_normal (hK1180 _ _ ?_))
                 replace H := H.k5 0 1 4 5 6 rfl rfl rfl rfl rfl
                 refine wp_ret (in_ret (in_ret (in_ret (then_ret (?_)))))
                 refine ret2 (by rfl) H rfl rfl hr1194 ?_
                 rw [show Z = some (t1181, s1.st, k1181) from by rw [← HZ1.out, nextB_msg3 (by omega) (by omega), msg_field true hbk (by omega) (by omega) (.inr (by omega)), hS1181]; rfl]
                 exact ⟨_, _, _, _, rfl, hv1196, hd1197, by first | (rw [← hs1]; rfl) | rw [← hs1], hs1198⟩
           ·refine y_eql (b := false) H rfl rfl (ieq_f (by omega)) rfl fun a H => y_assign H rfl rfl fun a H => wpList_nil (then_normal (hK1105 _ _ ?_))
            replace H := H.k7 0 1 4 5 6 22 387 rfl rfl rfl rfl rfl rfl rfl
            refine y_iff H rfl ?_
            refine wp_skip (in_normal (in_normal (then_normal (hK344 _ _ ?_))))
            replace H := H.k5 0 1 4 5 6 rfl rfl rfl rfl rfl
            omega
         ·refine y_eql (b := false) H rfl rfl (ieq_f (by omega)) rfl fun a H => y_assign H rfl rfl fun a H => wpList_nil (then_normal (hK1043 _ _ ?_))
          replace H := H.k7 0 1 4 5 6 37 355 rfl rfl rfl rfl rfl rfl rfl
          refine y_iff H rfl ?_
          refine y_seq fun K1199 hK1199 => ?_
          refine y_seq fun K1200 hK1200 => ?_
          refine y_reg ?_
          by_cases q1201 : (((last : Nat) : Int)) = ((8 : Int))
          ·refine y_eql (b := true) H rfl rfl (ieq_t (by omega)) rfl fun a H => y_assign H rfl rfl fun a H => wpList_nil (then_normal (hK1200 _ _ ?_))
           replace H := H.k7 0 1 4 5 6 37 429 rfl rfl rfl rfl rfl rfl rfl
           refine y_ift H rfl ?_
           refine wp_skip (then_normal (hK1199 _ _ ?_))
           replace H := H.k6 0 1 4 5 6 429 rfl rfl rfl rfl rfl rfl
           refine y_ift H rfl ?_
           refine y_seq fun K1202 hK1202 => ?_
           refine y_reg ?_
           refine y_move H rfl rfl fun a H => y_call pf_okind H rfl rfl (Calls.mono (openKind_any hd7 hok1 hlen1) ?_)
           rintro e w1203 ⟨rfl, hb1203⟩
           refine ⟨_, rfl, fun a H => ?_⟩
           have hz1204 := Below.size hb1203
           have hr1205 := RowAt.below hr9 (by omega) hb1203
           have hd1206 := DW.below hd7 hb1203
           have hs1207 := DStep.trans hs10 (DStep.of_below hb1203)
           refine y_move H rfl rfl fun a H => y_extract H rfl rfl rfl fun a H => y_extract H rfl rfl rfl fun a H => y_assign H rfl rfl fun a H => y_assign H rfl rfl fun a H => wpList_nil (then_normal (hK1202 _ _ ?_))
           replace H := H.k7 0 1 4 5 6 25 26 rfl rfl rfl rfl rfl rfl rfl
           refine y_seq fun K1208 hK1208 => ?_
           refine y_reg ?_
           refine y_move H rfl rfl fun a H => wpList_nil (then_normal (hK1208 _ _ ?_))
           replace H := H.k7 0 1 4 5 6 26 437 rfl rfl rfl rfl rfl rfl rfl
           refine wp_block ?_
           refine y_seq fun K1209 hK1209 => ?_
           refine y_reg ?_
           by_cases q1210 : (((openK s1.st : Nat) : Int)) = ((0 : Int))
           ·refine y_eql (b := true) H rfl rfl (ieq_t (by omega)) rfl fun a H => y_assign H rfl rfl fun a H => wpList_nil (then_normal (hK1209 _ _ ?_))
            replace H := H.k8 0 1 4 5 6 26 437 438 rfl rfl rfl rfl rfl rfl rfl rfl
            refine y_ift H rfl ?_
            refine y_seq fun K1211 hK1211 => ?_
            refine y_seq fun K1212 hK1212 => ?_
            refine y_reg ?_
            refine y_move H rfl rfl fun a H => wpList_nil (then_normal (hK1212 _ _ ?_))
            replace H := H.k6 0 1 4 5 6 440 rfl rfl rfl rfl rfl rfl
            refine y_iff H rfl ?_
            refine wp_skip (then_normal (hK1211 _ _ ?_))
            replace H := H.k5 0 1 4 5 6 rfl rfl rfl rfl rfl
            refine y_seq fun K1213 hK1213 => ?_
            refine y_reg ?_
            refine y_move H rfl rfl fun a H => ?_
            have HP1214 := parseField_any hd1206 hm c r hbk
            have Hs1215 := H
            rcases hS1214 : fieldT bs s1.k with _ | ⟨t1214, k1214⟩
            ·have H := Hs1215
             rw [hS1214] at HP1214
             refine y_call pf_field H rfl rfl (Calls.mono HP1214 ?_)
             rintro e w1214 ⟨⟨te, xe, rfl⟩, ⟨vi1214, k1214, hd1214⟩, hgc1214⟩
             refine ⟨_, rfl, fun a H => ?_⟩
             have hz1216 := World.grownBy.size hgc1214
             have hr1217 := RowAt.grown hr1205 hgc1214 (by omega) (by omega)
             have hs1218 := DStep.trans hs1207 (DStep.of_grown hgc1214)
             refine y_extract H rfl rfl rfl fun a H => y_extract H rfl rfl rfl fun a H => y_storeRow (vs := [_, _, _, _, _, _]) H rfl rfl hr1217 rfl (tok_size' _ _ _ _ _ _) (by simp [Value.oneCell']) fun w1219 hr1219 hg1219 => ?_
             have hz1220 := World.grownBy.size hg1219
             have hd1221 := DW.grownOther hd1214 hg1219 (by omega) (by omega) hov (by omega)
             have hs1222 := DStep.thenRow hs1218 hg1219 (by omega)
             refine y_assign H rfl rfl fun a H => wpList_nil (then_normal (hK1213 _ _ ?_))
             replace H := H.k5 0 1 4 5 6 rfl rfl rfl rfl rfl
             refine wp_ret (in_ret (in_ret (then_ret (?_))))
             refine ret2 (by rfl) H rfl rfl hr1219 ?_
             rw [show Z = none from by rw [← HZ1.out, nextB_top8 (by omega) (by omega), top_field false hbk (.inl rfl), hS1214]; rfl]
             exact ⟨⟨_, _, rfl⟩, ⟨_, _, _, hd1221, hp1, hs1222⟩⟩
            ·have H := Hs1215
             rw [hS1214] at HP1214
             refine y_call pf_field H rfl rfl (Calls.mono HP1214 ?_)
             rintro e w1214 ⟨vt1214, vi1214, rfl, hvt1214, hd1214, hgc1214⟩
             have Hs1223 := H
             obtain ⟨ao1214, n1214, c1214, rfl⟩ := View.slice3 hvt1214
             have H := Hs1223
             refine ⟨_, rfl, fun a H => ?_⟩
             have hz1224 := World.grownBy.size hgc1214
             have hr1225 := RowAt.grown hr1205 hgc1214 (by omega) (by omega)
             have hs1226 := DStep.trans hs1207 (DStep.of_grown hgc1214)
             refine y_extract H rfl rfl rfl fun a H => y_extract H rfl rfl rfl fun a H => y_storeRow (vs := [_, _, _, _, _, _]) H rfl rfl hr1225 rfl (tok_size' _ _ _ _ _ _) (by simp [Value.oneCell']) fun w1227 hr1227 hg1227 => ?_
             have hz1228 := World.grownBy.size hg1227
             have hv1229 := View.kept hvt1214 (World.grownBy.block hg1227 g (by omega) (fun e => by injection e with e; omega))
             have hd1230 := DW.grownOther hd1214 hg1227 (by omega) (by omega) hov (by omega)
             have hs1231 := DStep.thenRow hs1226 hg1227 (by omega)
             refine y_assign H rfl rfl fun a H => wpList_nil (then_normal (hK1213 _ _ ?_))
             replace H := H.k5 0 1 4 5 6 rfl rfl rfl rfl rfl
             refine wp_ret (in_ret (in_ret (then_ret (?_))))
             refine ret2 (by rfl) H rfl rfl hr1227 ?_
             rw [show Z = some (t1214, s1.st, k1214) from by rw [← HZ1.out, nextB_top8 (by omega) (by omega), top_field false hbk (.inl rfl), hS1214]; rfl]
             exact ⟨_, _, _, _, rfl, hv1229, hd1230, by first | (rw [← hs1]; rfl) | rw [← hs1], hs1231⟩
           ·refine y_eql (b := false) H rfl rfl (ieq_f (by omega)) rfl fun a H => y_assign H rfl rfl fun a H => wpList_nil (then_normal (hK1209 _ _ ?_))
            replace H := H.k8 0 1 4 5 6 26 437 438 rfl rfl rfl rfl rfl rfl rfl rfl
            refine y_iff H rfl ?_
            refine y_seq fun K1232 hK1232 => ?_
            refine y_reg ?_
            by_cases q1233 : (((openK s1.st : Nat) : Int)) = ((4 : Int))
            ·refine y_eql (b := true) H rfl rfl (ieq_t (by omega)) rfl fun a H => y_assign H rfl rfl fun a H => wpList_nil (then_normal (hK1232 _ _ ?_))
             replace H := H.k8 0 1 4 5 6 26 437 447 rfl rfl rfl rfl rfl rfl rfl rfl
             refine y_ift H rfl ?_
             refine y_seq fun K1234 hK1234 => ?_
             refine y_seq fun K1235 hK1235 => ?_
             refine y_reg ?_
             refine y_move H rfl rfl fun a H => wpList_nil (then_normal (hK1235 _ _ ?_))
             replace H := H.k7 0 1 4 5 6 26 449 rfl rfl rfl rfl rfl rfl rfl
             refine y_iff H rfl ?_
             refine wp_skip (then_normal (hK1234 _ _ ?_))
             replace H := H.k6 0 1 4 5 6 26 rfl rfl rfl rfl rfl rfl
             refine y_seq fun K1236 hK1236 => ?_
             refine y_reg ?_
             refine y_move H rfl rfl fun a H => y_nilCheck H rfl rfl fun a H => y_field fld_in H rfl rfl fun a H => ?_
             have hvI1237 : View w1203 g _ (c :: r) := (DW.inn hd1206).eq hbk
             refine y_load one22 H rfl (DW.c10 hd1206).1 rfl fun a H => y_idx Tryz.underlying22 info5u H rfl rfl hvI1237 (by decide) rfl rfl fun a ad H hc1238 => ?_
             refine y_load one5 H rfl hc1238 rfl fun a H => y_assign H rfl rfl fun a H => wpList_nil (then_normal (hK1236 _ _ ?_))
             replace H := H.k7 0 1 4 5 6 26 27 rfl rfl rfl rfl rfl rfl rfl
             refine y_seq fun K1239 hK1239 => ?_
             refine y_reg ?_
             refine y_move H rfl rfl fun a H => wpList_nil (then_normal (hK1239 _ _ ?_))
             replace H := H.k8 0 1 4 5 6 26 27 458 rfl rfl rfl rfl rfl rfl rfl rfl
             refine wp_block ?_
             refine y_seq fun K1240 hK1240 => ?_
             refine y_reg ?_
             refine y_move H rfl rfl fun a H => ?_
             by_cases q1241 : ((c.toNat : Int)) = (((closeT s1.st : Nat) : Int))
             ·refine y_eql (b := true) H rfl rfl (ieq_t (by omega)) rfl fun a H => y_assign H rfl rfl fun a H => wpList_nil (then_normal (hK1240 _ _ ?_))
              replace H := H.k9 0 1 4 5 6 26 27 458 463 rfl rfl rfl rfl rfl rfl rfl rfl rfl
              refine y_ift H rfl ?_
              refine y_seq fun K1242 hK1242 => ?_
              refine y_reg ?_
              refine y_move H rfl rfl fun a H => y_call pf_pop H rfl rfl (Calls.mono (pop_any hd1206 (open_ne (by omega)) hlen1) ?_)
              rintro e w1243 ⟨rfl, vst1243, hd1243, hds1243⟩
              refine ⟨_, rfl, fun a H => ?_⟩
              have hz1244 := DStep.size hds1243
              have hr1245 := RowAt.kept hr1205 (DStep.block hds1243 _ (by omega) (by omega) hov)
              have hov1246 := (fun e => by rcases DStep.lies hds1243 _ e with e | e; exact hov e; omega : _ ≠ some q2)
              have hs1247 := DStep.trans hs1207 hds1243
              refine wpList_nil (then_normal (hK1242 _ _ ?_))
              replace H := H.k5 0 1 4 5 6 rfl rfl rfl rfl rfl
              refine y_seq fun K1248 hK1248 => ?_
              refine y_reg ?_
              refine y_move H rfl rfl fun a H => y_call pf_ctoken H rfl rfl (Calls.mono (consumeToken_any _ 5 0 1 w1243 hd1243 (by show s1.k + _ ≤ bs.length; omega) (by omega)) ?_)
              rintro e w1249 ⟨vt1249, vi1249, rfl, hvt1249, hd1249, hgc1249⟩
              have Hs1250 := H
              obtain ⟨ao1249, n1249, c1249, rfl⟩ := View.slice3 hvt1249
              have H := Hs1250
              refine ⟨_, rfl, fun a H => ?_⟩
              have hz1251 := World.grownBy.size hgc1249
              have hr1252 := RowAt.grown hr1245 hgc1249 (by omega) (by omega)
              have hs1253 := DStep.trans hs1247 (DStep.of_grown hgc1249)
              refine y_storeRow (vs := [_, _, _, _, _, _]) H rfl rfl hr1252 rfl (tok_size' _ _ _ _ _ _) (by simp [Value.oneCell']) fun w1254 hr1254 hg1254 => ?_
              have hz1255 := World.grownBy.size hg1254
              have hv1256 := View.kept hvt1249 (World.grownBy.block hg1254 g (by omega) (fun e => by injection e with e; omega))
              have hd1257 := DW.grownOther hd1249 hg1254 (by omega) (by omega) hov1246 (by omega)
              have hs1258 := DStep.thenRow hs1253 hg1254 (by omega)
              refine y_assign H rfl rfl fun a H => wpList_nil (then_normal (hK1248 _ _ ?_))
              replace H := H.k5 0 1 4 5 6 rfl rfl rfl rfl rfl
              refine wp_ret (in_ret (in_ret (in_ret (then_ret (?_)))))
              refine ret2 (by rfl) H rfl rfl hr1254 ?_
              rw [show Z = some ((tokT bs s1.k 5 1 0).1, s1.st.dropLast, (tokT bs s1.k 5 1 0).2) from by rw [← HZ1.out, nextB_msg8 (by omega) (by omega), msg_close false hbk (by omega)]; rfl]
              exact ⟨_, _, _, _, rfl, hv1256, hd1257, by first | (rw [← hs1]; rfl) | rw [← hs1], hs1258⟩
             ·refine y_eql (b := false) H rfl rfl (ieq_f (by omega)) rfl fun a H => y_assign H rfl rfl fun a H => wpList_nil (then_normal (hK1240 _ _ ?_))
              replace H := H.k9 0 1 4 5 6 26 27 458 463 rfl rfl rfl rfl rfl rfl rfl rfl rfl
              refine y_iff H rfl ?_
              refine y_seq fun K1259 hK1259 => ?_
              refine y_reg ?_
              refine y_call pf_other H rfl rfl (Calls.mono (other_any w1203) ?_)
              rintro e w1260 ⟨b1260, rfl, hlk1260, hb1260⟩
              refine ⟨_, rfl, fun a H => ?_⟩
              have hz1261 := Below.size hb1260
              have hr1262 := RowAt.below hr1205 (by omega) hb1260
              have hd1263 := DW.below hd1206 hb1260
              have hs1264 := DStep.trans hs1207 (DStep.of_below hb1260)
              refine y_move H rfl rfl fun a H => y_lookup (k := closeT s1.st) H rfl rfl (hlk1260 _ (by omega)) rfl fun a H => ?_
              by_cases q1265 : ((c.toNat : Int)) = (((otherT (closeT s1.st) : Nat) : Int))
              ·refine y_eql (b := true) H rfl rfl (ieq_t (by omega)) rfl fun a H => y_assign H rfl rfl fun a H => wpList_nil (then_normal (hK1259 _ _ ?_))
               replace H := H.k7 0 1 4 5 6 27 470 rfl rfl rfl rfl rfl rfl rfl
               refine y_ift H rfl ?_
               refine y_seq fun K1266 hK1266 => ?_
               refine y_reg ?_
               refine y_bld built_tok0 H rfl rfl fun a H => y_move H rfl rfl fun a H => y_move H rfl rfl fun a H => y_mkIface Tryz.underlying5 rfl H rfl rfl fun a H => y_any1 H rfl rfl fun w1267 u1267 hb1267 a H => ?_
               have hz1268 := Below.size hb1267
               have hr1269 := RowAt.below hr1262 (by omega) hb1267
               have hd1270 := DW.below hd1263 hb1267
               have hs1271 := DStep.trans hs1264 (DStep.of_below hb1267)
               refine y_call pf_newerr H rfl rfl (Calls.mono (newError_any _ _ _ w1267 (by decide)) ?_)
               rintro e w1272 ⟨⟨xe, rfl⟩, hb1272⟩
               refine ⟨_, rfl, fun a H => ?_⟩
               have hz1273 := Below.size hb1272
               have hr1274 := RowAt.below hr1269 (by omega) hb1272
               have hd1275 := DW.below hd1270 hb1272
               have hs1276 := DStep.trans hs1271 (DStep.of_below hb1272)
               refine y_storeRow (vs := [_, _, _, _, _, _]) H rfl rfl hr1274 rfl (tok_size' _ _ _ _ _ _) (by simp [Value.oneCell']) fun w1277 hr1277 hg1277 => ?_
               have hz1278 := World.grownBy.size hg1277
               have hd1279 := DW.grownOther hd1275 hg1277 (by omega) (by omega) hov (by omega)
               have hs1280 := DStep.thenRow hs1276 hg1277 (by omega)
               refine y_assign H rfl rfl fun a H => wpList_nil (then_normal (hK1266 _ _ ?_))
               replace H := H.k5 0 1 4 5 6 rfl rfl rfl rfl rfl
               refine wp_ret (in_ret (in_ret (in_ret (then_ret (?_)))))
               refine ret2 (by rfl) H rfl rfl hr1277 ?_
               rw [show Z = none from by rw [← HZ1.out, nextB_msg8 (by omega) (by omega), msg_other false hbk (by omega) (by omega)]]
               exact ⟨⟨_, _, rfl⟩, ⟨_, _, _, hd1279, hp1, hs1280⟩⟩
              ·refine y_eql (b := false) H rfl rfl (ieq_f (by omega)) rfl fun a H => y_assign H rfl rfl fun a H => wpList_nil (then_normal (hK1259 _ _ ?_))
               replace H := H.k7 0 1 4 5 6 27 470 rfl rfl rfl rfl rfl rfl rfl
               refine y_iff H rfl ?_
               refine y_seq fun K1281 hK1281 => ?_
               refine y_reg ?_
               refine y_move H rfl rfl fun a H => ?_
               have HP1282 := parseField_any hd1263 hm c r hbk
               have Hs1283 := H
               rcases hS1282 : fieldT bs s1.k with _ | ⟨t1282, k1282⟩
               ·have H := Hs1283
                rw [hS1282] at HP1282
                refine y_call pf_field H rfl rfl (Calls.mono HP1282 ?_)
                rintro e w1282 ⟨⟨te, xe, rfl⟩, ⟨vi1282, k1282, hd1282⟩, hgc1282⟩
                refine ⟨_, rfl, fun a H => ?_⟩
                have hz1284 := World.grownBy.size hgc1282
                have hr1285 := RowAt.grown hr1262 hgc1282 (by omega) (by omega)
                have hs1286 := DStep.trans hs1264 (DStep.of_grown hgc1282)
                refine y_extract H rfl rfl rfl fun a H => y_extract H rfl rfl rfl fun a H => y_storeRow (vs := [_, _, _, _, _, _]) H rfl rfl hr1285 rfl (tok_size' _ _ _ _ _ _) (by simp [Value.oneCell']) fun w1287 hr1287 hg1287 => ?_
                have hz1288 := World.grownBy.size hg1287
                have hd1289 := DW.grownOther hd1282 hg1287 (by omega) (by omega) hov (by omega)
                have hs1290 := DStep.thenRow hs1286 hg1287 (by omega)
                refine y_assign H rfl rfl fun a H => wpList_nil (then_normal (hK1281 _ _ ?_))
                replace H := H.k5 0 1 4 5 6 rfl rfl rfl rfl rfl
                refine wp_ret (in_ret (in_ret (in_ret (then_ret (?_)))))
                refine ret2 (by rfl) H rfl rfl hr1287 ?_
                rw [show Z = none from by rw [← HZ1.out, nextB_msg8 (by omega) (by omega), msg_field false hbk (by omega) (by omega) (.inl rfl), hS1282]; rfl]
                exact ⟨⟨_, _, rfl⟩, ⟨_, _, _, hd1289, hp1, hs1290⟩⟩
               ·have H := Hs1283
                rw [hS1282] at HP1282
                refine y_call pf_field H rfl rfl (Calls.mono HP1282 ?_)
                rintro e w1282 ⟨vt1282, vi1282, rfl, hvt1282, hd1282, hgc1282⟩
                have Hs1291 := H
                obtain ⟨ao1282, n1282, c1282, rfl⟩ := View.slice3 hvt1282
                have H := Hs1291
                refine ⟨_, rfl, fun a H => ?_⟩
                have hz1292 := World.grownBy.size hgc1282
                have hr1293 := RowAt.grown hr1262 hgc1282 (by omega) (by omega)
                have hs1294 := DStep.trans hs1264 (DStep.of_grown hgc1282)
                refine y_extract H rfl rfl rfl fun a H => y_extract H rfl rfl rfl fun a H => y_storeRow (vs := [_, _, _, _, _, _]) H rfl rfl hr1293 rfl (tok_size' _ _ _ _ _ _) (by simp [Value.oneCell']) fun w1295 hr1295 hg1295 => ?_
                have hz1296 := World.grownBy.size hg1295
                have hv1297 := View.kept hvt1282 (World.grownBy.block hg1295 g (by omega) (fun e => by injection e with e; omega))
                have hd1298 := DW.grownOther hd1282 hg1295 (by omega) (by omega) hov (by omega)
                have hs1299 := DStep.thenRow hs1294 hg1295 (by omega)
                refine y_assign H rfl rfl fun a H => wpList_nil (then_normal (hK1281 _ _ ?_))
                replace H := H.k5 0 1 4 5 6 rfl rfl rfl rfl rfl
                refine wp_ret (in_ret (in_ret (in_ret (then_ret (?_)))))
                refine ret2 (by rfl) H rfl rfl hr1295 ?_
                rw [show Z = some (t1282, s1.st, k1282) from by rw [← HZ1.out, nextB_msg8 (by omega) (by omega), msg_field false hbk (by omega) (by omega) (.inl rfl), hS1282]; rfl]
                exact ⟨_, _, _, _, rfl, hv1297, hd1298, by first | (rw [← hs1]; rfl) | rw [← hs1], hs1299⟩
            ·refine y_eql (b := false) H rfl rfl (ieq_f (by omega)) rfl fun a H => y_assign H rfl rfl fun a H => wpList_nil (then_normal (hK1232 _ _ ?_))
             replace H := H.k8 0 1 4 5 6 26 437 447 rfl rfl rfl rfl rfl rfl rfl rfl
             refine y_iff H rfl ?_
             refine y_seq fun K1300 hK1300 => ?_
             refine y_reg ?_
             refine y_eql (b := true) H rfl rfl (ieq_t (by omega)) rfl fun a H => y_assign H rfl rfl fun a H => wpList_nil (then_normal (hK1300 _ _ ?_))
             replace H := H.k6 0 1 4 5 6 481 rfl rfl rfl rfl rfl rfl
             refine y_ift H rfl ?_
             refine y_seq fun K1301 hK1301 => ?_
             refine y_seq fun K1302 hK1302 => ?_
             refine y_reg ?_
             refine y_move H rfl rfl fun a H => y_eql (b := false) H rfl rfl (ieq_f (by omega)) rfl fun a H => wpList_nil (then_normal (hK1302 _ _ ?_))
             replace H := H.k6 0 1 4 5 6 484 rfl rfl rfl rfl rfl rfl
             refine y_iff H rfl ?_
             refine wp_skip (then_normal (hK1301 _ _ ?_))
             replace H := H.k5 0 1 4 5 6 rfl rfl rfl rfl rfl
             refine y_seq fun K1303 hK1303 => ?_
             refine y_seq fun K1304 hK1304 => ?_
             refine y_reg ?_
             refine y_move H rfl rfl fun a H => wpList_nil (then_normal (hK1304 _ _ ?_))
             replace H := H.k6 0 1 4 5 6 485 rfl rfl rfl rfl rfl rfl
             refine y_iff H rfl ?_
             refine wp_skip (then_normal (hK1303 _ _ ?_))
             replace H := H.k5 0 1 4 5 6 rfl rfl rfl rfl rfl
             refine y_seq fun K1305 hK1305 => ?_
             refine y_reg ?_
             refine y_move H rfl rfl fun a H => y_nilCheck H rfl rfl fun a H => y_field fld_in H rfl rfl fun a H => ?_
             have hvI1306 : View w1203 g _ (c :: r) := (DW.inn hd1206).eq hbk
             refine y_load one22 H rfl (DW.c10 hd1206).1 rfl fun a H => y_idx Tryz.underlying22 info5u H rfl rfl hvI1306 (by decide) rfl rfl fun a ad H hc1307 => ?_
             refine y_load one5 H rfl hc1307 rfl fun a H => y_assign H rfl rfl fun a H => wpList_nil (then_normal (hK1305 _ _ ?_))
             replace H := H.k6 0 1 4 5 6 28 rfl rfl rfl rfl rfl rfl
             refine y_seq fun K1308 hK1308 => ?_
             refine y_reg ?_
             refine y_move H rfl rfl fun a H => wpList_nil (then_normal (hK1308 _ _ ?_))
             replace H := H.k7 0 1 4 5 6 28 494 rfl rfl rfl rfl rfl rfl rfl
             refine wp_block ?_
             refine y_seq fun K1309 hK1309 => ?_
             refine y_seq fun K1310 hK1310 => ?_
             refine y_reg ?_
             by_cases q1311 : ((c.toNat : Int)) = ((123 : Int))
             ·refine y_eql (b := true) H rfl rfl (ieq_t (by omega)) rfl fun a H => y_assign H rfl rfl fun a H => wpList_nil (then_normal (hK1310 _ _ ?_))
              replace H := H.k8 0 1 4 5 6 28 494 499 rfl rfl rfl rfl rfl rfl rfl rfl
              refine y_ift H rfl ?_
              refine wp_skip (then_normal (hK1309 _ _ ?_))
              replace H := H.k7 0 1 4 5 6 28 499 rfl rfl rfl rfl rfl rfl rfl
              refine y_ift H rfl ?_
              refine y_seq fun K1312 hK1312 => ?_
              refine y_reg ?_
              refine y_move H rfl rfl fun a H => y_move H rfl rfl fun a H => y_call pf_push H rfl rfl (Calls.mono (push_any c hd1206 hlen1) ?_)
              rintro e w1313 ⟨rfl, vst1313, hd1313, hds1313⟩
              refine ⟨_, rfl, fun a H => ?_⟩
              have hz1314 := DStep.size hds1313
              have hr1315 := RowAt.kept hr1205 (DStep.block hds1313 _ (by omega) (by omega) hov)
              have hov1316 := (fun e => by rcases DStep.lies hds1313 _ e with e | e; exact hov e; omega : _ ≠ some q2)
              have hs1317 := DStep.trans hs1207 hds1313
              refine wpList_nil (then_normal (hK1312 _ _ ?_))
              replace H := H.k5 0 1 4 5 6 rfl rfl rfl rfl rfl
              refine y_seq fun K1318 hK1318 => ?_
              refine y_reg ?_
              refine y_move H rfl rfl fun a H => y_call pf_ctoken H rfl rfl (Calls.mono (consumeToken_any _ 4 0 1 w1313 hd1313 (by show s1.k + _ ≤ bs.length; omega) (by omega)) ?_)
              rintro e w1319 ⟨vt1319, vi1319, rfl, hvt1319, hd1319, hgc1319⟩
              have Hs1320 := H
              obtain ⟨ao1319, n1319, c1319, rfl⟩ := View.slice3 hvt1319
              have H := Hs1320
              refine ⟨_, rfl, fun a H => ?_⟩
              have hz1321 := World.grownBy.size hgc1319
              have hr1322 := RowAt.grown hr1315 hgc1319 (by omega) (by omega)
              have hs1323 := DStep.trans hs1317 (DStep.of_grown hgc1319)
              refine y_storeRow (vs := [_, _, _, _, _, _]) H rfl rfl hr1322 rfl (tok_size' _ _ _ _ _ _) (by simp [Value.oneCell']) fun w1324 hr1324 hg1324 => ?_
              have hz1325 := World.grownBy.size hg1324
              have hv1326 := View.kept hvt1319 (World.grownBy.block hg1324 g (by omega) (fun e => by injection e with e; omega))
              have hd1327 := DW.grownOther hd1319 hg1324 (by omega) (by omega) hov1316 (by omega)
              have hs1328 := DStep.thenRow hs1323 hg1324 (by omega)
              refine y_assign H rfl rfl fun a H => wpList_nil (then_normal (hK1318 _ _ ?_))
              replace H := H.k5 0 1 4 5 6 rfl rfl rfl rfl rfl
              refine wp_ret (in_ret (in_ret (in_ret (then_ret (?_)))))
              refine ret2 (by rfl) H rfl rfl hr1324 ?_
              rw [show Z = some ((tokT bs s1.k 4 1 0).1, s1.st ++ [c], (tokT bs s1.k 4 1 0).2) from by rw [← HZ1.out, nextB_val8 (by omega) (by omega), val_open false false hbk (by omega)]; rfl]
              exact ⟨_, _, _, _, rfl, hv1326, hd1327, by first | (rw [← hs1]; rfl) | rw [← hs1], hs1328⟩
             ·refine y_eql (b := false) H rfl rfl (ieq_f (by omega)) rfl fun a H => y_assign H rfl rfl fun a H => wpList_nil (then_normal (hK1310 _ _ ?_))
              replace H := H.k8 0 1 4 5 6 28 494 499 rfl rfl rfl rfl rfl rfl rfl rfl
              refine y_iff H rfl ?_
              refine y_reg ?_
              by_cases q1329 : ((c.toNat : Int)) = ((60 : Int))
              ·refine y_eql (b := true) H rfl rfl (ieq_t (by omega)) rfl fun a H => y_assign H rfl rfl fun a H => wpList_nil (then_normal (hK1309 _ _ ?_))
               replace H := H.k7 0 1 4 5 6 28 499 rfl rfl rfl rfl rfl rfl rfl
               refine y_ift H rfl ?_
               refine y_seq fun K1330 hK1330 => ?_
               refine y_reg ?_
               refine y_move H rfl rfl fun a H => y_move H rfl rfl fun a H => y_call pf_push H rfl rfl (Calls.mono (push_any c hd1206 hlen1) ?_)
               rintro e w1331 ⟨rfl, vst1331, hd1331, hds1331⟩
               refine ⟨_, rfl, fun a H => ?_⟩
               have hz1332 := DStep.size hds1331
               have hr1333 := RowAt.kept hr1205 (DStep.block hds1331 _ (by omega) (by omega) hov)
               have hov1334 := (fun e => by rcases DStep.lies hds1331 _ e with e | e; exact hov e; omega : _ ≠ some q2)
               have hs1335 := DStep.trans hs1207 hds1331
               refine wpList_nil (then_normal (hK1330 _ _ ?_))
               replace H := H.k5 0 1 4 5 6 rfl rfl rfl rfl rfl
               refine y_seq fun K1336 hK1336 => ?_
               refine y_reg ?_
               refine y_move H rfl rfl fun a H => y_call pf_ctoken H rfl rfl (Calls.mono (consumeToken_any _ 4 0 1 w1331 hd1331 (by show s1.k + _ ≤ bs.length; omega) (by omega)) ?_)
               rintro e w1337 ⟨vt1337, vi1337, rfl, hvt1337, hd1337, hgc1337⟩
               have Hs1338 := H
               obtain ⟨ao1337, n1337, c1337, rfl⟩ := View.slice3 hvt1337
               have H := Hs1338
               refine ⟨_, rfl, fun a H => ?_⟩
               have hz1339 := World.grownBy.size hgc1337
               have hr1340 := RowAt.grown hr1333 hgc1337 (by omega) (by omega)
               have hs1341 := DStep.trans hs1335 (DStep.of_grown hgc1337)
               refine y_storeRow (vs := [_, _, _, _, _, _]) H rfl rfl hr1340 rfl (tok_size' _ _ _ _ _ _) (by simp [Value.oneCell']) fun w1342 hr1342 hg1342 => ?_
               have hz1343 := World.grownBy.size hg1342
               have hv1344 := View.kept hvt1337 (World.grownBy.block hg1342 g (by omega) (fun e => by injection e with e; omega))
               have hd1345 := DW.grownOther hd1337 hg1342 (by omega) (by omega) hov1334 (by omega)
               have hs1346 := DStep.thenRow hs1341 hg1342 (by omega)
               refine y_assign H rfl rfl fun a H => wpList_nil (then_normal (hK1336 _ _ ?_))
               replace H := H.k5 0 1 4 5 6 rfl rfl rfl rfl rfl
               refine wp_ret (in_ret (in_ret (in_ret (then_ret (?_)))))
               refine ret2 (by rfl) H rfl rfl hr1342 ?_
               rw [show Z = some ((tokT bs s1.k 4 1 0).1, s1.st ++ [c], (tokT bs s1.k 4 1 0).2) from by rw [← HZ1.out, nextB_val8 (by omega) (by omega), val_open false false hbk (by omega)]; rfl]
               exact ⟨_, _, _, _, rfl, hv1344, hd1345, by first | (rw [← hs1]; rfl) | rw [← hs1], hs1346⟩
              ·refine y_eql (b := false) H rfl rfl (ieq_f (by omega)) rfl fun a H => y_assign H rfl rfl fun a H => wpList_nil (then_normal (hK1309 _ _ ?_))
               replace H := H.k7 0 1 4 5 6 28 499 rfl rfl rfl rfl rfl rfl rfl
               refine y_iff H rfl ?_
               refine y_seq fun K1347 hK1347 => ?_
               refine y_reg ?_
               refine y_move H rfl rfl fun a H => ?_
               have HP1348 := parseScalar_any hd1206 hm c r hbk
               have Hs1349 := H
               rcases hS1348 : scalarT bs s1.k with _ | ⟨t1348, k1348⟩
               ·have H := Hs1349
                rw [hS1348] at HP1348
                refine y_call pf_scalar H rfl rfl (Calls.mono HP1348 ?_)
                rintro e w1348 ⟨⟨te, xe, rfl⟩, ⟨vi1348, k1348, hd1348⟩, hgc1348⟩
                refine ⟨_, rfl, fun a H => ?_⟩
                have hz1350 := World.grownBy.size hgc1348
                have hr1351 := RowAt.grown hr1205 hgc1348 (by omega) (by omega)
                have hs1352 := DStep.trans hs1207 (DStep.of_grown hgc1348)
                refine y_extract H rfl rfl rfl fun a H => y_extract H rfl rfl rfl fun a H => y_storeRow (vs := [_, _, _, _, _, _]) H rfl rfl hr1351 rfl (tok_size' _ _ _ _ _ _) (by simp [Value.oneCell']) fun w1353 hr1353 hg1353 => ?_
                have hz1354 := World.grownBy.size hg1353
                have hd1355 := DW.grownOther hd1348 hg1353 (by omega) (by omega) hov (by omega)
                have hs1356 := DStep.thenRow hs1352 hg1353 (by omega)
                refine y_assign H rfl rfl fun a H => wpList_nil (then_normal (hK1347 _ _ ?_))
                replace H := H.k5 0 1 4 5 6 rfl rfl rfl rfl rfl
                refine wp_ret (in_ret (in_ret (in_ret (then_ret (?_)))))
                refine ret2 (by rfl) H rfl rfl hr1353 ?_
                rw [show Z = none from by rw [← HZ1.out, nextB_val8 (by omega) (by omega), val_scalar false false hbk (by omega) (.inl rfl) (.inl rfl), hS1348]; rfl]
                exact ⟨⟨_, _, rfl⟩, ⟨_, _, _, hd1355, hp1, hs1356⟩⟩
               ·have H := Hs1349
                rw [hS1348] at HP1348
                refine y_call pf_scalar H rfl rfl (Calls.mono HP1348 ?_)
                rintro e w1348 ⟨vt1348, vi1348, rfl, hvt1348, hd1348, hgc1348⟩
                have Hs1357 := H
                obtain ⟨ao1348, n1348, c1348, rfl⟩ := View.slice3 hvt1348
                have H := Hs1357
                refine ⟨_, rfl, fun a H => ?_⟩
                have hz1358 := World.grownBy.size hgc1348
                have hr1359 := RowAt.grown hr1205 hgc1348 (by omega) (by omega)
                have hs1360 := DStep.trans hs1207 (DStep.of_grown hgc1348)
                refine y_extract H rfl rfl rfl fun a H => y_extract H rfl rfl rfl fun a H => y_storeRow (vs := [_, _, _, _, _, _]) H rfl rfl hr1359 rfl (tok_size' _ _ _ _ _ _) (by simp [Value.oneCell']) fun w1361 hr1361 hg1361 => ?_
                have hz1362 := World.grownBy.size hg1361
                have hv1363 := View.kept hvt1348 (World.grownBy.block hg1361 g (by omega) (fun e => by injection e with e; omega))
                have hd1364 := DW.grownOther hd1348 hg1361 (by omega) (by omega) hov (by omega)
                have hs1365 := DStep.thenRow hs1360 hg1361 (by omega)
                refine y_assign H rfl rfl fun a H => wpList_nil (then_normal (hK1347 _ _ ?_))
                replace H := H.k5 0 1 4 5 6 rfl rfl rfl rfl rfl
                refine wp_ret (in_ret (in_ret (in_ret (then_ret (?_)))))
                refine ret2 (by rfl) H rfl rfl hr1361 ?_
                rw [show Z = some (t1348, s1.st, k1348) from by rw [← HZ1.out, nextB_val8 (by omega) (by omega), val_scalar false false hbk (by omega) (.inl rfl) (.inl rfl), hS1348]; rfl]
                exact ⟨_, _, _, _, rfl, hv1363, hd1364, by first | (rw [← hs1]; rfl) | rw [← hs1], hs1365⟩
          ·refine y_eql (b := false) H rfl rfl (ieq_f (by omega)) rfl fun a H => y_assign H rfl rfl fun a H => wpList_nil (then_normal (hK1200 _ _ ?_))
           replace H := H.k7 0 1 4 5 6 37 429 rfl rfl rfl rfl rfl rfl rfl
           refine y_iff H rfl ?_
           refine y_reg ?_
           refine y_eql (b := true) H rfl rfl (ieq_t (by omega)) rfl fun a H => y_assign H rfl rfl fun a H => wpList_nil (then_normal (hK1199 _ _ ?_))
           replace H := H.k6 0 1 4 5 6 429 rfl rfl rfl rfl rfl rfl
           refine y_ift H rfl ?_
           refine y_seq fun K1366 hK1366 => ?_
           refine y_reg ?_
           refine y_move H rfl rfl fun a H => y_call pf_okind H rfl rfl (Calls.mono (openKind_any hd7 hok1 hlen1) ?_)
           rintro e w1367 ⟨rfl, hb1367⟩
           refine ⟨_, rfl, fun a H => ?_⟩
           have hz1368 := Below.size hb1367
           have hr1369 := RowAt.below hr9 (by omega) hb1367
           have hd1370 := DW.below hd7 hb1367
           have hs1371 := DStep.trans hs10 (DStep.of_below hb1367)
           refine y_move H rfl rfl fun a H => y_extract H rfl rfl rfl fun a H => y_extract H rfl rfl rfl fun a H => y_assign H rfl rfl fun a H => y_assign H rfl rfl fun a H => wpList_nil (then_normal (hK1366 _ _ ?_))
           replace H := H.k7 0 1 4 5 6 25 26 rfl rfl rfl rfl rfl rfl rfl
           refine y_seq fun K1372 hK1372 => ?_
           refine y_reg ?_
           refine y_move H rfl rfl fun a H => wpList_nil (then_normal (hK1372 _ _ ?_))
           replace H := H.k7 0 1 4 5 6 26 437 rfl rfl rfl rfl rfl rfl rfl
           refine wp_block ?_
           refine y_seq fun K1373 hK1373 => ?_
           refine y_reg ?_
           by_cases q1374 : (((openK s1.st : Nat) : Int)) = ((0 : Int))
           ·refine y_eql (b := true) H rfl rfl (ieq_t (by omega)) rfl fun a H => y_assign H rfl rfl fun a H => wpList_nil (then_normal (hK1373 _ _ ?_))
            replace H := H.k8 0 1 4 5 6 26 437 438 rfl rfl rfl rfl rfl rfl rfl rfl
            refine y_ift H rfl ?_
            refine y_seq fun K1375 hK1375 => ?_
            refine y_seq fun K1376 hK1376 => ?_
            refine y_reg ?_
            refine y_move H rfl rfl fun a H => wpList_nil (then_normal (hK1376 _ _ ?_))
            replace H := H.k6 0 1 4 5 6 440 rfl rfl rfl rfl rfl rfl
            refine y_iff H rfl ?_
            refine wp_skip (then_normal (hK1375 _ _ ?_))
            replace H := H.k5 0 1 4 5 6 rfl rfl rfl rfl rfl
            refine y_seq fun K1377 hK1377 => ?_
            refine y_reg ?_
            refine y_move H rfl rfl fun a H => ?_
            have HP1378 := parseField_any hd1370 hm c r hbk
            have Hs1379 := H
            rcases hS1378 : fieldT bs s1.k with _ | ⟨t1378, k1378⟩
            ·have H := Hs1379
             rw [hS1378] at HP1378
             refine y_call pf_field H rfl rfl (Calls.mono HP1378 ?_)
             rintro e w1378 ⟨⟨te, xe, rfl⟩, ⟨vi1378, k1378, hd1378⟩, hgc1378⟩
             refine ⟨_, rfl, fun a H => ?_⟩
             have hz1380 := World.grownBy.size hgc1378
             have hr1381 := RowAt.grown hr1369 hgc1378 (by omega) (by omega)
             have hs1382 := DStep.trans hs1371 (DStep.of_grown hgc1378)
             refine y_extract H rfl rfl rfl fun a H => y_extract H rfl rfl rfl fun a H => y_storeRow (vs := [_, _, _, _, _, _]) H rfl rfl hr1381 rfl (tok_size' _ _ _ _ _ _) (by simp [Value.oneCell']) fun w1383 hr1383 hg1383 => ?_
             have hz1384 := World.grownBy.size hg1383
             have hd1385 := DW.grownOther hd1378 hg1383 (by omega) (by omega) hov (by omega)
             have hs1386 := DStep.thenRow hs1382 hg1383 (by omega)
             refine y_assign H rfl rfl fun a H => wpList_nil (then_normal (hK1377 _ _ ?_))
             replace H := H.k5 0 1 4 5 6 rfl rfl rfl rfl rfl
             refine wp_ret (in_ret (in_ret (then_ret (?_))))
             refine ret2 (by rfl) H rfl rfl hr1383 ?_
             rw [show Z = none from by rw [← HZ1.out, nextB_top8 (by omega) (by omega), top_field false hbk (.inl rfl), hS1378]; rfl]
             exact ⟨⟨_, _, rfl⟩, ⟨_, _, _, hd1385, hp1, hs1386⟩⟩
            ·have H := Hs1379
             rw [hS1378] at HP1378
             refine y_call pf_field H rfl rfl (Calls.mono HP1378 ?_)
             rintro e w1378 ⟨vt1378, vi1378, rfl, hvt1378, hd1378, hgc1378⟩
             have Hs1387 := H
             obtain ⟨ao1378, n1378, c1378, rfl⟩ := View.slice3 hvt1378
             have H := Hs1387
             refine ⟨_, rfl, fun a H => ?_⟩
             have hz1388 := World.grownBy.size hgc1378
             have hr1389 := RowAt.grown hr1369 hgc1378 (by omega) (by omega)
             have hs1390 := DStep.trans hs1371 (DStep.of_grown hgc1378)
             refine y_extract H rfl rfl rfl fun a H => y_extract H rfl rfl rfl fun a H => y_storeRow (vs := [_, _, _, _, _, _]) H rfl rfl hr1389 rfl (tok_size' _ _ _ _ _ _) (by simp [Value.oneCell']) fun w1391 hr1391 hg1391 => ?_
             have hz1392 := World.grownBy.size hg1391
             have hv1393 := View.kept hvt1378 (World.grownBy.block hg1391 g (by omega) (fun e => by injection e with e; omega))
             have hd1394 := DW.grownOther hd1378 hg1391 (by omega) (by omega) hov (by omega)
             have hs1395 := DStep.thenRow hs1390 hg1391 (by omega)
             refine y_assign H rfl rfl fun a H => wpList_nil (then_normal (hK1377 _ _ ?_))
             replace H := H.k5 0 1 4 5 6 rfl rfl rfl rfl rfl
             refine wp_ret (in_ret (in_ret (then_ret (?_))))
             refine ret2 (by rfl) H rfl rfl hr1391 ?_
             rw [show Z = some (t1378, s1.st, k1378) from by rw [← HZ1.out, nextB_top8 (by omega) (by omega), top_field false hbk (.inl rfl), hS1378]; rfl]
             exact ⟨_, _, _, _, rfl, hv1393, hd1394, by first | (rw [← hs1]; rfl) | rw [← hs1], hs1395⟩
           ·refine y_eql (b := false) H rfl rfl (ieq_f (by omega)) rfl fun a H => y_assign H rfl rfl fun a H => wpList_nil (then_normal (hK1373 _ _ ?_))
            replace H := H.k8 0 1 4 5 6 26 437 438 rfl rfl rfl rfl rfl rfl rfl rfl
            refine y_iff H rfl ?_
            refine y_seq fun K1396 hK1396 => ?_
            refine y_reg ?_
            by_cases q1397 : (((openK s1.st : Nat) : Int)) = ((4 : Int))
            ·refine y_eql (b := true) H rfl rfl (ieq_t (by omega)) rfl fun a H => y_assign H rfl rfl fun a H => wpList_nil (then_normal (hK1396 _ _ ?_))
             replace H := H.k8 0 1 4 5 6 26 437 447 rfl rfl rfl rfl rfl rfl rfl rfl
             refine y_ift H rfl ?_
             refine y_seq fun K1398 hK1398 => ?_
             refine y_seq fun K1399 hK1399 => ?_
             refine y_reg ?_
             refine y_move H rfl rfl fun a H => wpList_nil (then_normal (hK1399 _ _ ?_))
             replace H := H.k7 0 1 4 5 6 26 449 rfl rfl rfl rfl rfl rfl rfl
             refine y_iff H rfl ?_
             refine wp_skip (then_normal (hK1398 _ _ ?_))
             replace H := H.k6 0 1 4 5 6 26 rfl rfl rfl rfl rfl rfl
             refine y_seq fun K1400 hK1400 => ?_
             refine y_reg ?_
             refine y_move H rfl rfl fun a H => y_nilCheck H rfl rfl fun a H => y_field fld_in H rfl rfl fun a H => ?_
             have hvI1401 : View w1367 g _ (c :: r) := (DW.inn hd1370).eq hbk
             refine y_load one22 H rfl (DW.c10 hd1370).1 rfl fun a H => y_idx Tryz.underlying22 info5u H rfl rfl hvI1401 (by decide) rfl rfl fun a ad H hc1402 => ?_
             refine y_load one5 H rfl hc1402 rfl fun a H => y_assign H rfl rfl fun a H => wpList_nil (then_normal (hK1400 _ _ ?_))
             replace H := H.k7 0 1 4 5 6 26 27 rfl rfl rfl rfl rfl rfl rfl
             refine y_seq fun K1403 hK1403 => ?_
             refine y_reg ?_
             refine y_move H rfl rfl fun a H => wpList_nil (then_normal (hK1403 _ _ ?_))
             replace H := H.k8 0 1 4 5 6 26 27 458 rfl rfl rfl rfl rfl rfl rfl rfl
             refine wp_block ?_
             refine y_seq fun K1404 hK1404 => ?_
             refine y_reg ?_
             refine y_move H rfl rfl fun a H => ?_
             by_cases q1405 : ((c.toNat : Int)) = (((closeT s1.st : Nat) : Int))
             ·refine y_eql (b := true) H rfl rfl (ieq_t (by omega)) rfl fun a H => y_assign H rfl rfl fun a H => wpList_nil (then_normal (hK1404 _ _ ?_))
              replace H := H.k9 0 1 4 5 6 26 27 458 463 rfl rfl rfl rfl rfl rfl rfl rfl rfl
              refine y_ift H rfl ?_
              refine y_seq fun K1406 hK1406 => ?_
              refine y_reg ?_
              refine y_move H rfl rfl fun a H => y_call pf_pop H rfl rfl (Calls.mono (pop_any hd1370 (open_ne (by omega)) hlen1) ?_)
              rintro e w1407 ⟨rfl, vst1407, hd1407, hds1407⟩
              refine ⟨_, rfl, fun a H => ?_⟩
              have hz1408 := DStep.size hds1407
              have hr1409 := RowAt.kept hr1369 (DStep.block hds1407 _ (by omega) (by omega) hov)
              have hov1410 := (fun e => by rcases DStep.lies hds1407 _ e with e | e; exact hov e; omega : _ ≠ some q2)
              have hs1411 := DStep.trans hs1371 hds1407
              refine wpList_nil (then_normal (hK1406 _ _ ?_))
              replace H := H.k5 0 1 4 5 6 rfl rfl rfl rfl rfl
              refine y_seq fun K1412 hK1412 => ?_
              refine y_reg ?_
              refine y_move H rfl rfl fun a H => y_call pf_ctoken H rfl rfl (Calls.mono (consumeToken_any _ 5 0 1 w1407 hd1407 (by show s1.k + _ ≤ bs.length; omega) (by omega)) ?_)
              rintro e w1413 ⟨vt1413, vi1413, rfl, hvt1413, hd1413, hgc1413⟩
              have Hs1414 := H
              obtain ⟨ao1413, n1413, c1413, rfl⟩ := View.slice3 hvt1413
              have H := Hs1414
              refine ⟨_, rfl, fun a H => ?_⟩
              have hz1415 := World.grownBy.size hgc1413
              have hr1416 := RowAt.grown hr1409 hgc1413 (by omega) (by omega)
              have hs1417 := DStep.trans hs1411 (DStep.of_grown hgc1413)
              refine y_storeRow (vs := [_, _, _, _, _, _]) H rfl rfl hr1416 rfl (tok_size' _ _ _ _ _ _) (by simp [Value.oneCell']) fun w1418 hr1418 hg1418 => ?_
              have hz1419 := World.grownBy.size hg1418
              have hv1420 := View.kept hvt1413 (World.grownBy.block hg1418 g (by omega) (fun e => by injection e with e; omega))
              have hd1421 := DW.grownOther hd1413 hg1418 (by omega) (by omega) hov1410 (by omega)
              have hs1422 := DStep.thenRow hs1417 hg1418 (by omega)
              refine y_assign H rfl rfl fun a H => wpList_nil (then_normal (hK1412 _ _ ?_))
              replace H := H.k5 0 1 4 5 6 rfl rfl rfl rfl rfl
              refine wp_ret (in_ret (in_ret (in_ret (then_ret (?_)))))
              refine ret2 (by rfl) H rfl rfl hr1418 ?_
              rw [show Z = some ((tokT bs s1.k 5 1 0).1, s1.st.dropLast, (tokT bs s1.k 5 1 0).2) from by rw [← HZ1.out, nextB_msg8 (by omega) (by omega), msg_close false hbk (by omega)]; rfl]
              exact ⟨_, _, _, _, rfl, hv1420, hd1421, by first | (rw [← hs1]; rfl) | rw [← hs1], hs1422⟩
             ·refine y_eql (b := false) H rfl rfl (ieq_f (by omega)) rfl fun a H => y_assign H rfl rfl fun a H => wpList_nil (then_normal (hK1404 _ _ ?_))
              replace H := H.k9 0 1 4 5 6 26 27 458 463 rfl rfl rfl rfl rfl rfl rfl rfl rfl
              refine y_iff H rfl ?_
              refine y_seq fun K1423 hK1423 => ?_
              refine y_reg ?_
              refine y_call pf_other H rfl rfl (Calls.mono (other_any w1367) ?_)
              rintro e w1424 ⟨b1424, rfl, hlk1424, hb1424⟩
              refine ⟨_, rfl, fun a H => ?_⟩
              have hz1425 := Below.size hb1424
              have hr1426 := RowAt.below hr1369 (by omega) hb1424
              have hd1427 := DW.below hd1370 hb1424
              have hs1428 := DStep.trans hs1371 (DStep.of_below hb1424)
              refine y_move H rfl rfl fun a H => y_lookup (k := closeT s1.st) H rfl rfl (hlk1424 _ (by omega)) rfl fun a H => ?_
              by_cases q1429 : ((c.toNat : Int)) = (((otherT (closeT s1.st) : Nat) : Int))
              ·refine y_eql (b := true) H rfl rfl (ieq_t (by omega)) rfl fun a H => y_assign H rfl rfl fun a H => wpList_nil (then_normal (hK1423 _ _ ?_))
               replace H := H.k7 0 1 4 5 6 27 470 rfl rfl rfl rfl rfl rfl rfl
               refine y_ift H rfl ?_
               refine y_seq fun K1430 hK1430 => ?_
               refine y_reg ?_
               refine y_bld built_tok0 H rfl rfl fun a H => y_move H rfl rfl fun a H => y_move H rfl rfl fun a H => y_mkIface Tryz.underlying5 rfl H rfl rfl fun a H => y_any1 H rfl rfl fun w1431 u1431 hb1431 a H => ?_
               have hz1432 := Below.size hb1431
               have hr1433 := RowAt.below hr1426 (by omega) hb1431
               have hd1434 := DW.below hd1427 hb1431
               have hs1435 := DStep.trans hs1428 (DStep.of_below hb1431)
               refine y_call pf_newerr H rfl rfl (Calls.mono (newError_any _ _ _ w1431 (by decide)) ?_)
               rintro e w1436 ⟨⟨xe, rfl⟩, hb1436⟩
               refine ⟨_, rfl, fun a H => ?_⟩
               have hz1437 := Below.size hb1436
               have hr1438 := RowAt.below hr1433 (by omega) hb1436
               have hd1439 := DW.below hd1434 hb1436
               have hs1440 := DStep.trans hs1435 (DStep.of_below hb1436)
               refine y_storeRow (vs := [_, _, _, _, _, _]) H rfl rfl hr1438 rfl (tok_size' _ _ _ _ _ _) (by simp [Value.oneCell']) fun w1441 hr1441 hg1441 => ?_
               have hz1442 := World.grownBy.size hg1441
               have hd1443 := DW.grownOther hd1439 hg1441 (by omega) (by omega) hov (by omega)
               have hs1444 := DStep.thenRow hs1440 hg1441 (by omega)
               refine y_assign H rfl rfl fun a H => wpList_nil (then_normal (hK1430 _ _ ?_))
               replace H := H.k5 0 1 4 5 6 rfl rfl rfl rfl rfl
               refine wp_ret (in_ret (in_ret (in_ret (then_ret (?_)))))
               refine ret2 (by rfl) H rfl rfl hr1441 ?_
               rw [show Z = none from by rw [← HZ1.out, nextB_msg8 (by omega) (by omega), msg_other false hbk (by omega) (by omega)]]
               exact ⟨⟨_, _, rfl⟩, ⟨_, _, _, hd1443, hp1, hs1444⟩⟩
              ·refine y_eql (b := false) H rfl rfl (ieq_f (by omega)) rfl fun a H => y_assign H rfl rfl fun a H => wpList_nil (then_normal (hK1423 _ _ ?_))
               replace H := H.k7 0 1 4 5 6 27 470 rfl rfl rfl rfl rfl rfl rfl
               refine y_iff H rfl ?_
               refine y_seq fun K1445 hK1445 => ?_
               refine y_reg ?_
               refine y_move H rfl rfl fun a H => ?_
               have HP1446 := parseField_any hd1427 hm c r hbk
               have Hs1447 := H
               rcases hS1446 : fieldT bs s1.k with _ | ⟨t1446, k1446⟩
               ·have H := Hs1447
                rw [hS1446] at HP1446
                refine y_call pf_field H rfl rfl (Calls.mono HP1446 ?_)
                rintro e w1446 ⟨⟨te, xe, rfl⟩, ⟨vi1446, k1446, hd1446⟩, hgc1446⟩
                refine ⟨_, rfl, fun a H => ?_⟩
                have hz1448 := World.grownBy.size hgc1446
                have hr1449 := RowAt.grown hr1426 hgc1446 (by omega) (by omega)
                have hs1450 := DStep.trans hs1428 (DStep.of_grown hgc1446)
                refine y_extract H rfl rfl rfl fun a H => y_extract H rfl rfl rfl fun a H => y_storeRow (vs := [_, _, _, _, _, _]) H rfl rfl hr1449 rfl (tok_size' _ _ _ _ _ _) (by simp [Value.oneCell']) fun w1451 hr1451 hg1451 => ?_
                have hz1452 := World.grownBy.size hg1451
                have hd1453 := DW.grownOther hd1446 hg1451 (by omega) (by omega) hov (by omega)
                have hs1454 := DStep.thenRow hs1450 hg1451 (by omega)
                refine y_assign H rfl rfl fun a H => wpList_nil (then_normal (hK1445 _ _ ?_))
                replace H := H.k5 0 1 4 5 6 rfl rfl rfl rfl rfl
                refine wp_ret (in_ret (in_ret (in_ret (then_ret (?_)))))
                refine ret2 (by rfl) H rfl rfl hr1451 ?_
                rw [show Z = none from by rw [← HZ1.out, nextB_msg8 (by omega) (by omega), msg_field false hbk (by omega) (by omega) (.inl rfl), hS1446]; rfl]
                exact ⟨⟨_, _, rfl⟩, ⟨_, _, _, hd1453, hp1, hs1454⟩⟩
               ·have H := Hs1447
                rw [hS1446] at HP1446
                refine y_call pf_field H rfl rfl (Calls.mono HP1446 ?_)
                rintro e w1446 ⟨vt1446, vi1446, rfl, hvt1446, hd1446, hgc1446⟩
                have Hs1455 := H
                obtain ⟨ao1446, n1446, c1446, rfl⟩ := View.slice3 hvt1446
                have H := Hs1455
                refine ⟨_, rfl, fun a H => ?_⟩
                have hz1456 := World.grownBy.size hgc1446
                have hr1457 := RowAt.grown hr1426 hgc1446 (by omega) (by omega)
                have hs1458 := DStep.trans hs1428 (DStep.of_grown hgc1446)
                refine y_extract H rfl rfl rfl fun a H => y_extract H rfl rfl rfl fun a H => y_storeRow (vs := [_, _, _, _, _, _]) H rfl rfl hr1457 rfl (tok_size' _ _ _ _ _ _) (by simp [Value.oneCell']) fun w1459 hr1459 hg1459 => ?_
                have hz1460 := World.grownBy.size hg1459
                have hv1461 := View.kept hvt1446 (World.grownBy.block hg1459 g (by omega) (fun e => by injection e with e; omega))
                have hd1462 := DW.grownOther hd1446 hg1459 (by omega) (by omega) hov (by omega)
                have hs1463 := DStep.thenRow hs1458 hg1459 (by omega)
                refine y_assign H rfl rfl fun a H => wpList_nil (then_normal (hK1445 _ _ ?_))
                replace H := H.k5 0 1 4 5 6 rfl rfl rfl rfl rfl
                refine wp_ret (in_ret (in_ret (in_ret (then_ret (?_)))))
                refine ret2 (by rfl) H rfl rfl hr1459 ?_
                rw [show Z = some (t1446, s1.st, k1446) from by rw [← HZ1.out, nextB_msg8 (by omega) (by omega), msg_field false hbk (by omega) (by omega) (.inl rfl), hS1446]; rfl]
                exact ⟨_, _, _, _, rfl, hv1461, hd1462, by first | (rw [← hs1]; rfl) | rw [← hs1], hs1463⟩
            ·refine y_eql (b := false) H rfl rfl (ieq_f (by omega)) rfl fun a H => y_assign H rfl rfl fun a H => wpList_nil (then_normal (hK1396 _ _ ?_))
             replace H := H.k8 0 1 4 5 6 26 437 447 rfl rfl rfl rfl rfl rfl rfl rfl
             refine y_iff H rfl ?_
             refine y_seq fun K1464 hK1464 => ?_
             refine y_reg ?_
             refine y_eql (b := true) H rfl rfl (ieq_t (by omega)) rfl fun a H => y_assign H rfl rfl fun a H => wpList_nil (then_normal (hK1464 _ _ ?_))
             replace H := H.k6 0 1 4 5 6 481 rfl rfl rfl rfl rfl rfl
             refine y_ift H rfl ?_
             refine y_seq fun K1465 hK1465 => ?_
             refine y_seq fun K1466 hK1466 => ?_
             refine y_reg ?_
             refine y_move H rfl rfl fun a H => y_eql (b := true) H rfl rfl (ieq_t (by omega)) rfl fun a H => wpList_nil (then_normal (hK1466 _ _ ?_))
             replace H := H.k6 0 1 4 5 6 484 rfl rfl rfl rfl rfl rfl
             refine y_ift H rfl ?_
             refine wp_exit (then_exit (in_exit (in_normal (then_normal (hK344 _ _ ?_)))))
             replace H := H.k5 0 1 4 5 6 rfl rfl rfl rfl rfl
             omega
end Go.Proofs.YtgdnpnipahegaaaGreatDoor
