/-
 The thin package's reading of the text form, walked: all tokens up to the end, or to an error.
-/
import Derived.Test.YtgdnpnipahegaaaGreatDoorTOutX
namespace Go.Proofs.YtgdnpnipahegaaaGreatDoor
open Go.ChangeShapes Go.WideShapes Go.ChangeAt Go.RowKit

theorem pf_peek : PlainFn Tryz.prog 18 := ⟨_, Tryz.func18, by kernel_rfl, by kernel_rfl⟩
theorem pf_ttok : PlainFn Tryz.prog 21 := ⟨_, Tryz.func21, by kernel_rfl, by kernel_rfl⟩
def XRes (B : Nat) (R : List TT × Bool) (w0 : World) (e : Ending) (w' : World) : Prop := ∃ v, e = .returned (.tuple #[v, .bool R.2]) ∧ OwnX w' B v R.1 ∧ Below B w0 w'
variable {B p g : Nat} {bs : List UInt8} {vr ve vst vo vi : Value} {s : DT} {w : World}
set_option maxRecDepth 100000 in
set_option maxHeartbeats 100000000 in
theorem textRead_any (ps : List Bool) (vpk : Value) (h : DW B p g bs vr ve vst vo vi s w) (hm : bs.length ≤ 10000000) (hok0 : DOk2 s.st s.tok.kind s.k) (hpk0 : s.peeked = false) (hbad0 : s.bad = false) (hps : BView w B vpk ps) (hpl : ps.length ≤ 2147483647) :
  Calls Tryz.prog 12 #[.pointer (some ⟨p, 0, none⟩), vpk] w (XRes B (runT bs ps (bs.length + 1) s []) w) := by
 obtain ⟨R, hrun0⟩ : ∃ R, runT bs ps (bs.length + 1) s [] = R := ⟨_, rfl⟩
 rw [hrun0]
 obtain ⟨aoP, cP, rfl⟩ : ∃ ao c, vpk = .slice ao ps.length c := by obtain ⟨ao, c, e, _⟩ := hps; exact ⟨ao, c, e⟩
 refine enter2 (M := 41) Tryz.func12 rfl rfl rfl fun a H => ?_
 refine y_seq fun K1 hK1 => ?_
 refine y_reg ?_
 refine y_assign H rfl rfl fun a H => y_assign H rfl rfl fun a H => wpList_nil (then_normal (hK1 _ _ ?_))
 replace H := H.k4 0 1 4 5 rfl rfl rfl rfl
 refine y_seq fun K2 hK2 => ?_
 refine y_reg ?_
 refine y_assign H rfl rfl fun a H => wpList_nil (then_normal (hK2 _ _ ?_))
 replace H := H.k5 0 1 4 5 6 rfl rfl rfl rfl rfl
 refine wp_block ?_
 refine wp_loop (fun a wx => ∃ (s : DT) (l : List TT) (vr ve vst vi v : Value) (f : Nat), Has 41 [] a [(0, .pointer (some ⟨p, 0, none⟩)), (1, .slice aoP ps.length cP), (6, v)] ∧ DW B p g bs vr ve vst vo vi s wx ∧ OwnX wx B v l ∧ v.ownBlock ≠ some p ∧ v.ownBlock ≠ some g ∧ (∀ k, v.ownBlock = some k → vst.ownBlock ≠ some k) ∧
   s.peeked = false ∧ s.bad = false ∧ DOk2 s.st s.tok.kind s.k ∧ l.length ≤ s.k ∧ runT bs ps f s l = R ∧ bs.length + 1 ≤ f + s.k ∧ Below B w wx) (fun a _ => bs.length + 1 - slenT (a.eval (.tmp 6))) ?_ ?_
 ·exact ⟨s, [], vr, ve, vst, vi, _, bs.length + 1, H.sub _ (sub_cons rfl (sub_cons rfl (sub_cons rfl (sub_nil)))), h, OwnX.nil _ _, by simp [Value.ownBlock], by simp [Value.ownBlock], by simp [Value.ownBlock], hpk0, hbad0, hok0, Nat.zero_le _, hrun0, by omega, Below.refl _ _⟩
 clear h hpk0 hbad0 hok0 hrun0
 clear H a
 rintro a wk ⟨s, l, vr, ve, vst, vi, vO, f, H, HD, hox, hn1, hn2, hn3, hpk, hbad, hok, hll, hrun, hf, hbw⟩
 have hle := HD.le
 have Hs3 := H
 obtain ⟨f, rfl⟩ : ∃ f1, f = f1 + 1 := ⟨f - 1, by omega⟩
 have H := Hs3
 have Hs4 := H
 obtain ⟨aoV, cV, rfl⟩ := hox.slice
 have H := Hs4
 have HE := hid (congrArg slenT (H.ev (x := .tmp 6) rfl))
 have HL := hox.lt
 have hlp := HD.lt
 have hgl := HD.gl
 have hgp : g ≠ p := HD.gp
 have h9 : 9 ≤ wk.heap.size := by have := HD.base; have := HD.b9; omega
 have hBk := HD.base
 have hs0 := DStep.refl p vst wk
 have HPS := hps.below hbw
 refine wp_block ?_
 refine y_seq fun K5 hK5 => ?_
 refine y_seq fun K6 hK6 => ?_
 refine y_reg ?_
 refine y_move H rfl rfl fun a H => y_lenS Tryz.underlying28 H rfl rfl fun a H => y_assign H rfl rfl fun a H => wpList_nil (then_normal (hK6 _ _ ?_))
 replace H := H.k4 0 1 6 7 rfl rfl rfl rfl
 refine y_seq fun K7 hK7 => ?_
 refine y_reg ?_
 refine y_move H rfl rfl fun a H => y_move H rfl rfl fun a H => y_lenS Tryz.underlying32 H rfl rfl fun a H => ?_
 by_cases q8 : (((l.length : Nat) : Int)) < (((ps.length : Nat) : Int))
 ·refine y_lss (b := true) H rfl rfl (decide_eq_true (by omega)) rfl fun a H => y_move H rfl rfl fun a H => y_on H rfl rfl ?_
  refine y_move H rfl rfl fun a H => y_on H rfl rfl ?_
  refine y_move H rfl rfl fun a H => y_on H rfl rfl ?_
  refine y_idxBools H rfl rfl (BView.below HPS (Below.refl _ _)) (by omega) rfl fun a ad9 H hc9 => ?_
  have Hs10 := H
  rcases hG : ps.getD l.length false with _ | _
  ·have H := Hs10
   rw [hG] at hc9
   refine y_on H rfl rfl ?_
   refine y_load oneBoolT H rfl hc9 rfl fun a H => y_pick H rfl rfl rfl fun a H => wpList_nil (then_normal (hK7 _ _ ?_))
   replace H := H.k4 0 1 6 21 rfl rfl rfl rfl
   refine y_iff H rfl ?_
   refine wp_skip (then_normal (hK5 _ _ ?_))
   replace H := H.k3 0 1 6 rfl rfl rfl
   refine y_seq fun K11 hK11 => ?_
   refine y_reg ?_
   refine y_move H rfl rfl fun a H => ?_
   have HP := read_any HD hm (fun _ => hok)
   have Hs13 := H
   rcases hS : readT bs s with _ | s1
   ·have H := Hs13
    rw [hS] at HP
    refine y_call pf_read H rfl rfl (Calls.mono HP ?_)
    rintro e w12 ⟨⟨te, xe, v12, rfl, _, ao12, n12, c12, tk12, rfl⟩, vr12, ve12, vst12, vi12, s1, hd12, hp12, hds12⟩
    refine ⟨_, rfl, fun a H => ?_⟩
    have hx14 := OwnX.step hox hds12 hn1 hn3
    have hnk15 := step_far hds12 hn3 (fun k hk => (OwnX.lt hox k hk).2)
    have hz16 := DStep.size hds12
    have hs17 := DStep.trans hs0 hds12
    have hR1 : R = (l, false) := by rw [← hrun]; exact run_none hpk hbad hle hS
    refine y_move H rfl rfl fun a H => y_extract H rfl rfl rfl fun a H => y_extract H rfl rfl rfl fun a H => ?_
    obtain ⟨q18, hq18⟩ : ∃ q, q = w12.heap.size := ⟨_, rfl⟩
    refine y_allocRow alloc_tok H rfl fun w18 hr18 hb18 hs18 a H => ?_
    rw [← hq18] at H hr18
    have hx19 := OwnX.below hx14 hb18
    have hz20 := Below.size hb18
    have hs22 := DStep.trans hs17 (DStep.of_below hb18)
    refine y_storeRow (vs := [_, _, _, _, _, _]) H rfl rfl hr18 rfl (tok_size' _ _ _ _ _ _) (by simp [Value.oneCell']) fun w24 hr24 hg24 => ?_
    have hx25 := OwnX.grownOther hx19 hg24 (fun k hk => by have := HL k hk; omega)
    have hz26 := World.grownBy.size hg24
    have hs28 := DStep.thenRow hs22 hg24 (by omega)
    refine y_assign H rfl rfl fun a H => wpList_nil (then_normal (hK11 _ _ ?_))
    replace H := H.k5 0 1 6 8 9 rfl rfl rfl rfl rfl
    refine y_seq fun K29 hK29 => ?_
    refine y_seq fun K30 hK30 => ?_
    refine y_reg ?_
    refine y_move H rfl rfl fun a H => y_neNil (b := true) H rfl (.inr ⟨_, _, rfl, rfl⟩) rfl fun a H => wpList_nil (then_normal (hK30 _ _ ?_))
    replace H := H.k5 0 1 6 8 30 rfl rfl rfl rfl rfl
    refine y_ift H rfl ?_
    refine y_seq fun K31 hK31 => ?_
    refine y_reg ?_
    refine y_move H rfl rfl fun a H => y_assign H rfl rfl fun a H => y_assign H rfl rfl fun a H => wpList_nil (then_normal (hK31 _ _ ?_))
    replace H := H.k6 0 1 4 5 6 8 rfl rfl rfl rfl rfl rfl
    refine wp_ret (then_ret (in_ret (then_ret (in_ret (?_)))))
    have h4 := H.get 4 _ rfl
    have h5 := H.get 5 _ rfl
    refine bodyPost_ret (results_tmp2 rfl _ _ _) H.defers ?_
    exact ⟨.slice aoV l.length cV, by simp [h4, h5, hR1], by rw [hR1]; exact hx25, (hbw.trans (DStep.below hs28 HD.bp HD.base HD.ownLe))⟩
   ·have H := Hs13
    rw [hS] at HP
    refine y_call pf_read H rfl rfl (Calls.mono HP ?_)
    rintro e w12 ⟨vt12, ve12, vst12, vi12, rfl, hd12, hds12⟩
    have hvt12 := DW.raw hd12
    have Hs32 := H
    obtain ⟨ao12, n12, c12, rfl⟩ := View.slice3 hvt12
    have H := Hs32
    refine ⟨_, rfl, fun a H => ?_⟩
    have hx33 := OwnX.step hox hds12 hn1 hn3
    have hnk34 := step_far hds12 hn3 (fun k hk => (OwnX.lt hox k hk).2)
    have hz35 := DStep.size hds12
    have hs36 := DStep.trans hs0 hds12
    have hF : readF bs s = some s1 := by rw [← readT_plain hpk]; exact hS
    have hF1 := readF_ok hF hle
    have hF2 := readF_keeps hF hle hok
    refine y_move H rfl rfl fun a H => y_extract H rfl rfl rfl fun a H => y_extract H rfl rfl rfl fun a H => ?_
    obtain ⟨q37, hq37⟩ : ∃ q, q = w12.heap.size := ⟨_, rfl⟩
    refine y_allocRow alloc_tok H rfl fun w37 hr37 hb37 hs37 a H => ?_
    rw [← hq37] at H hr37
    have hx38 := OwnX.below hx33 hb37
    have hz39 := Below.size hb37
    have hv40 := View.below hvt12 hb37
    have hd41 := DW.below hd12 hb37
    have hs42 := DStep.trans hs36 (DStep.of_below hb37)
    have hov43 := DW.fresh (q := q37) hd12 (by omega)
    refine y_storeRow (vs := [_, _, _, _, _, _]) H rfl rfl hr37 rfl (tok_size' _ _ _ _ _ _) (by simp [Value.oneCell']) fun w44 hr44 hg44 => ?_
    have hx45 := OwnX.grownOther hx38 hg44 (fun k hk => by have := HL k hk; omega)
    have hz46 := World.grownBy.size hg44
    have hv47 := View.kept hv40 (World.grownBy.block hg44 g (by omega) (fun e => by injection e with e; omega))
    have hd48 := DW.grownOther hd41 hg44 (by omega) (by omega) hov43 (by omega)
    have hs49 := DStep.thenRow hs42 hg44 (by omega)
    refine y_assign H rfl rfl fun a H => wpList_nil (then_normal (hK11 _ _ ?_))
    replace H := H.k5 0 1 6 8 9 rfl rfl rfl rfl rfl
    refine y_seq fun K50 hK50 => ?_
    refine y_seq fun K51 hK51 => ?_
    refine y_reg ?_
    refine y_move H rfl rfl fun a H => y_neNil (b := false) H rfl (.inl ⟨rfl, rfl⟩) rfl fun a H => wpList_nil (then_normal (hK51 _ _ ?_))
    replace H := H.k5 0 1 6 8 30 rfl rfl rfl rfl rfl
    refine y_iff H rfl ?_
    refine wp_skip (then_normal (hK50 _ _ ?_))
    replace H := H.k4 0 1 6 8 rfl rfl rfl rfl
    refine y_seq fun K52 hK52 => ?_
    refine y_seq fun K53 hK53 => ?_
    refine y_reg ?_
    refine y_loadRow Tryz.underlying50 rfl (tok_size _ rfl) H rfl hr44 rfl fun a H => y_call pf_tkind H rfl rfl (Calls.mono (tokKind_any hv47) ?_)
    rintro e w54 ⟨rfl, hb54⟩
    refine ⟨_, rfl, fun a H => ?_⟩
    have hx55 := OwnX.below hx45 hb54
    have hz56 := Below.size hb54
    have hv57 := View.below hv47 hb54
    have hr58 := RowAt.below hr44 (by omega) hb54
    have hd59 := DW.below hd48 hb54
    have hs60 := DStep.trans hs49 (DStep.of_below hb54)
    by_cases q61 : (((s1.tok.kind : Nat) : Int)) = ((1 : Int))
    ·refine y_eql (b := true) H rfl rfl (ieq_t (by omega)) rfl fun a H => wpList_nil (then_normal (hK53 _ _ ?_))
     replace H := H.k5 0 1 6 8 34 rfl rfl rfl rfl rfl
     refine y_ift H rfl ?_
     refine y_seq fun K62 hK62 => ?_
     refine y_reg ?_
     refine y_move H rfl rfl fun a H => y_assign H rfl rfl fun a H => y_assign H rfl rfl fun a H => wpList_nil (then_normal (hK62 _ _ ?_))
     replace H := H.k6 0 1 4 5 6 8 rfl rfl rfl rfl rfl rfl
     refine wp_ret (then_ret (in_ret (then_ret (in_ret (?_)))))
     have h4 := H.get 4 _ rfl
     have h5 := H.get 5 _ rfl
     refine bodyPost_ret (results_tmp2 rfl _ _ _) H.defers ?_
     have hR1 : R = (l, true) := by rw [← hrun]; exact run_eof hpk hbad hle hS (by omega)
     exact ⟨.slice aoV l.length cV, by simp [h4, h5, hR1], by rw [hR1]; exact hx55, (hbw.trans (DStep.below hs60 HD.bp HD.base HD.ownLe))⟩
    ·refine y_eql (b := false) H rfl rfl (ieq_f (by omega)) rfl fun a H => wpList_nil (then_normal (hK53 _ _ ?_))
     replace H := H.k5 0 1 6 8 34 rfl rfl rfl rfl rfl
     refine y_iff H rfl ?_
     refine wp_skip (then_normal (hK52 _ _ ?_))
     replace H := H.k4 0 1 6 8 rfl rfl rfl rfl
     refine y_reg ?_
     refine y_move H rfl rfl fun a H => y_loadRow Tryz.underlying50 rfl (tok_size _ rfl) H rfl hr58 rfl fun a H => y_call pf_ttok H rfl rfl (Calls.mono (textToken_any hv57 (by omega) hF2.2.2) ?_)
     rintro e w63 ⟨rfl, hb63⟩
     refine ⟨_, rfl, fun a H => ?_⟩
     have hx64 := OwnX.below hx55 hb63
     have hz65 := Below.size hb63
     have hd68 := DW.below hd59 hb63
     have hs69 := DStep.trans hs60 (DStep.of_below hb63)
     obtain ⟨q70, hq70⟩ : ∃ q, q = w63.heap.size := ⟨_, rfl⟩
     refine y_oneTx H rfl rfl fun w70 hr70 hb70 hs70 a H => ?_
     rw [← hq70] at H hr70
     have hx71 := OwnX.below hx64 hb70
     have hz72 := Below.size hb70
     have hd75 := DW.below hd68 hb70
     have hs76 := DStep.trans hs69 (DStep.of_below hb70)
     refine y_appTx (t := s1.tok) H rfl hx71 rfl hr70 (by omega) (by omega) rfl fun v77 w77 ha77 a H => ?_
     refine y_assign H rfl rfl fun a H => ?_
     have hgr := ha77.grown
     have hk9 : ∀ k, Value.ownBlock v77 = some k → (Value.slice aoV l.length cV).ownBlock = some k ∨ w70.heap.size = k := fun k hk => by
      rcases ha77.lies with e | e
      ·exact .inl (by rw [← e]; exact hk)
      ·rw [e] at hk; injection hk with hk; exact .inr hk
     have hlx := OwnX.lt hx71
     have hol := DW.ownLt hd75
     have hvb : Below B w70 w77 := ⟨hgr.os, hgr.tape, hgr.output, hgr.size, fun k hk => hgr.block k (by omega) (fun e => by have := (hlx k e.symm).1; omega)⟩
     have hk1 : s1.tok.kind ≠ 1 := by omega
     have hkk := hF1.2.2.2.2.1 hk1
     have hgz := hgr.size
     obtain ⟨aoW, cW, hvW⟩ := ha77.own.slice
     have hdW := DW.kept hd75 hgr.size (hgr.block p (DW.lt hd75) (fun e => hn1 e.symm)) (hgr.block g (DW.gl hd75) (fun e => hn2 e.symm)) (World.ownsRow.kept (DW.own hd75) hgr (by
       cases hk : Value.ownBlock _ with
       | none => exact .inl rfl
       | some k => exact .inr (fun e => hnk34 k e.symm hk))) (fun k hk h9 => hgr.block k hk (fun e => by have := (hlx k e.symm).1; have := HD.b9; omega))
     refine wpList_nil (in_normal (then_normal (⟨⟨s1, l ++ [s1.tok], _, _, _, _, v77, f, H.sub _ (sub_cons rfl (sub_cons rfl (sub_cons rfl (sub_nil)))), hdW, ha77.own, ?_, ?_, ?_, hF1.1, hF1.2.1.trans hbad, hF2.1, ?_, ?_, ?_, ?_⟩, ?_⟩)))
     ·intro e
      rcases hk9 p e with e | e
      ·exact hn1 e
      ·omega
     ·intro e
      rcases hk9 g e with e | e
      ·exact hn2 e
      ·omega
     ·intro k hk e
      rcases hk9 k hk with h | h
      ·exact hnk34 k h e
      ·have := hol k e; omega
     ·simp only [List.length_append, List.length_cons, List.length_nil]; omega
     ·rw [← hrun]; exact (run_more hpk hbad hle hS hk1).symm
     ·omega
     ·exact (hbw.trans (DStep.below hs76 HD.bp HD.base HD.ownLe)).trans hvb
     ·have h2 := (congrArg slenT (H.ev (x := .tmp 6) rfl)).trans (congrArg slenT hvW)
      have h1 := HE.out
      show bs.length + 1 - slenT _ < bs.length + 1 - slenT _
      rw [h1, h2]
      simp only [slenT, List.length_append, List.length_cons, List.length_nil]
      omega
  ·have H := Hs10
   rw [hG] at hc9
   refine y_on H rfl rfl ?_
   refine y_load oneBoolT H rfl hc9 rfl fun a H => y_pick H rfl rfl rfl fun a H => wpList_nil (then_normal (hK7 _ _ ?_))
   replace H := H.k4 0 1 6 21 rfl rfl rfl rfl
   refine y_ift H rfl ?_
   refine y_reg ?_
   refine y_move H rfl rfl fun a H => y_call pf_peek H rfl rfl (Calls.mono (peek_any HD hm (fun _ => hok)) ?_)
   rintro e w78 ⟨s78, vr78, ve78, vst78, vi78, rfl, hd78, hds78, hlk78⟩
   refine ⟨_, rfl, fun a H => ?_⟩
   have hx79 := OwnX.step hox hds78 hn1 hn3
   have hnk80 := step_far hds78 hn3 (fun k hk => (OwnX.lt hox k hk).2)
   have hz81 := DStep.size hds78
   have hs82 := DStep.trans hs0 hds78
   have hrd : readT bs s78 = readT bs s := (like_read hlk78).trans (read_peek hpk hbad hle)
   have hok2 : s78.peeked = false → DOk2 s78.st s78.tok.kind s78.k := fun h => by rw [like_peeked hlk78 (peekT_peeked bs s)] at h; cases h
   refine wpList_nil (then_normal (hK5 _ _ ?_))
   replace H := H.k3 0 1 6 rfl rfl rfl
   refine y_seq fun K83 hK83 => ?_
   refine y_reg ?_
   refine y_move H rfl rfl fun a H => ?_
   have HP := read_any hd78 hm hok2
   rw [hrd] at HP
   have Hs85 := H
   rcases hS : readT bs s with _ | s1
   ·have H := Hs85
    rw [hS] at HP
    refine y_call pf_read H rfl rfl (Calls.mono HP ?_)
    rintro e w84 ⟨⟨te, xe, v84, rfl, _, ao84, n84, c84, tk84, rfl⟩, vr84, ve84, vst84, vi84, s1, hd84, hp84, hds84⟩
    refine ⟨_, rfl, fun a H => ?_⟩
    have hx86 := OwnX.step hx79 hds84 hn1 hnk80
    have hnk87 := step_far hds84 hnk80 (fun k hk => (OwnX.lt hx79 k hk).2)
    have hz88 := DStep.size hds84
    have hs89 := DStep.trans hs82 hds84
    have hR1 : R = (l, false) := by rw [← hrun]; exact run_none hpk hbad hle hS
    refine y_move H rfl rfl fun a H => y_extract H rfl rfl rfl fun a H => y_extract H rfl rfl rfl fun a H => ?_
    obtain ⟨q90, hq90⟩ : ∃ q, q = w84.heap.size := ⟨_, rfl⟩
    refine y_allocRow alloc_tok H rfl fun w90 hr90 hb90 hs90 a H => ?_
    rw [← hq90] at H hr90
    have hx91 := OwnX.below hx86 hb90
    have hz92 := Below.size hb90
    have hs94 := DStep.trans hs89 (DStep.of_below hb90)
    refine y_storeRow (vs := [_, _, _, _, _, _]) H rfl rfl hr90 rfl (tok_size' _ _ _ _ _ _) (by simp [Value.oneCell']) fun w96 hr96 hg96 => ?_
    have hx97 := OwnX.grownOther hx91 hg96 (fun k hk => by have := HL k hk; omega)
    have hz98 := World.grownBy.size hg96
    have hs100 := DStep.thenRow hs94 hg96 (by omega)
    refine y_assign H rfl rfl fun a H => wpList_nil (then_normal (hK83 _ _ ?_))
    replace H := H.k5 0 1 6 8 9 rfl rfl rfl rfl rfl
    refine y_seq fun K101 hK101 => ?_
    refine y_seq fun K102 hK102 => ?_
    refine y_reg ?_
    refine y_move H rfl rfl fun a H => y_neNil (b := true) H rfl (.inr ⟨_, _, rfl, rfl⟩) rfl fun a H => wpList_nil (then_normal (hK102 _ _ ?_))
    replace H := H.k5 0 1 6 8 30 rfl rfl rfl rfl rfl
    refine y_ift H rfl ?_
    refine y_seq fun K103 hK103 => ?_
    refine y_reg ?_
    refine y_move H rfl rfl fun a H => y_assign H rfl rfl fun a H => y_assign H rfl rfl fun a H => wpList_nil (then_normal (hK103 _ _ ?_))
    replace H := H.k6 0 1 4 5 6 8 rfl rfl rfl rfl rfl rfl
    refine wp_ret (then_ret (in_ret (then_ret (in_ret (?_)))))
    have h4 := H.get 4 _ rfl
    have h5 := H.get 5 _ rfl
    refine bodyPost_ret (results_tmp2 rfl _ _ _) H.defers ?_
    exact ⟨.slice aoV l.length cV, by simp [h4, h5, hR1], by rw [hR1]; exact hx97, (hbw.trans (DStep.below hs100 HD.bp HD.base HD.ownLe))⟩
   ·have H := Hs85
    rw [hS] at HP
    refine y_call pf_read H rfl rfl (Calls.mono HP ?_)
    rintro e w84 ⟨vt84, ve84, vst84, vi84, rfl, hd84, hds84⟩
    have hvt84 := DW.raw hd84
    have Hs104 := H
    obtain ⟨ao84, n84, c84, rfl⟩ := View.slice3 hvt84
    have H := Hs104
    refine ⟨_, rfl, fun a H => ?_⟩
    have hx105 := OwnX.step hx79 hds84 hn1 hnk80
    have hnk106 := step_far hds84 hnk80 (fun k hk => (OwnX.lt hx79 k hk).2)
    have hz107 := DStep.size hds84
    have hs108 := DStep.trans hs82 hds84
    have hF : readF bs s = some s1 := by rw [← readT_plain hpk]; exact hS
    have hF1 := readF_ok hF hle
    have hF2 := readF_keeps hF hle hok
    refine y_move H rfl rfl fun a H => y_extract H rfl rfl rfl fun a H => y_extract H rfl rfl rfl fun a H => ?_
    obtain ⟨q109, hq109⟩ : ∃ q, q = w84.heap.size := ⟨_, rfl⟩
    refine y_allocRow alloc_tok H rfl fun w109 hr109 hb109 hs109 a H => ?_
    rw [← hq109] at H hr109
    have hx110 := OwnX.below hx105 hb109
    have hz111 := Below.size hb109
    have hv112 := View.below hvt84 hb109
    have hd113 := DW.below hd84 hb109
    have hs114 := DStep.trans hs108 (DStep.of_below hb109)
    have hov115 := DW.fresh (q := q109) hd84 (by omega)
    refine y_storeRow (vs := [_, _, _, _, _, _]) H rfl rfl hr109 rfl (tok_size' _ _ _ _ _ _) (by simp [Value.oneCell']) fun w116 hr116 hg116 => ?_
    have hx117 := OwnX.grownOther hx110 hg116 (fun k hk => by have := HL k hk; omega)
    have hz118 := World.grownBy.size hg116
    have hv119 := View.kept hv112 (World.grownBy.block hg116 g (by omega) (fun e => by injection e with e; omega))
    have hd120 := DW.grownOther hd113 hg116 (by omega) (by omega) hov115 (by omega)
    have hs121 := DStep.thenRow hs114 hg116 (by omega)
    refine y_assign H rfl rfl fun a H => wpList_nil (then_normal (hK83 _ _ ?_))
    replace H := H.k5 0 1 6 8 9 rfl rfl rfl rfl rfl
    refine y_seq fun K122 hK122 => ?_
    refine y_seq fun K123 hK123 => ?_
    refine y_reg ?_
    refine y_move H rfl rfl fun a H => y_neNil (b := false) H rfl (.inl ⟨rfl, rfl⟩) rfl fun a H => wpList_nil (then_normal (hK123 _ _ ?_))
    replace H := H.k5 0 1 6 8 30 rfl rfl rfl rfl rfl
    refine y_iff H rfl ?_
    refine wp_skip (then_normal (hK122 _ _ ?_))
    replace H := H.k4 0 1 6 8 rfl rfl rfl rfl
    refine y_seq fun K124 hK124 => ?_
    refine y_seq fun K125 hK125 => ?_
    refine y_reg ?_
    refine y_loadRow Tryz.underlying50 rfl (tok_size _ rfl) H rfl hr116 rfl fun a H => y_call pf_tkind H rfl rfl (Calls.mono (tokKind_any hv119) ?_)
    rintro e w126 ⟨rfl, hb126⟩
    refine ⟨_, rfl, fun a H => ?_⟩
    have hx127 := OwnX.below hx117 hb126
    have hz128 := Below.size hb126
    have hv129 := View.below hv119 hb126
    have hr130 := RowAt.below hr116 (by omega) hb126
    have hd131 := DW.below hd120 hb126
    have hs132 := DStep.trans hs121 (DStep.of_below hb126)
    by_cases q133 : (((s1.tok.kind : Nat) : Int)) = ((1 : Int))
    ·refine y_eql (b := true) H rfl rfl (ieq_t (by omega)) rfl fun a H => wpList_nil (then_normal (hK125 _ _ ?_))
     replace H := H.k5 0 1 6 8 34 rfl rfl rfl rfl rfl
     refine y_ift H rfl ?_
     refine y_seq fun K134 hK134 => ?_
     refine y_reg ?_
     refine y_move H rfl rfl fun a H => y_assign H rfl rfl fun a H => y_assign H rfl rfl fun a H => wpList_nil (then_normal (hK134 _ _ ?_))
     replace H := H.k6 0 1 4 5 6 8 rfl rfl rfl rfl rfl rfl
     refine wp_ret (then_ret (in_ret (then_ret (in_ret (?_)))))
     have h4 := H.get 4 _ rfl
     have h5 := H.get 5 _ rfl
     refine bodyPost_ret (results_tmp2 rfl _ _ _) H.defers ?_
     have hR1 : R = (l, true) := by rw [← hrun]; exact run_eof hpk hbad hle hS (by omega)
     exact ⟨.slice aoV l.length cV, by simp [h4, h5, hR1], by rw [hR1]; exact hx127, (hbw.trans (DStep.below hs132 HD.bp HD.base HD.ownLe))⟩
    ·refine y_eql (b := false) H rfl rfl (ieq_f (by omega)) rfl fun a H => wpList_nil (then_normal (hK125 _ _ ?_))
     replace H := H.k5 0 1 6 8 34 rfl rfl rfl rfl rfl
     refine y_iff H rfl ?_
     refine wp_skip (then_normal (hK124 _ _ ?_))
     replace H := H.k4 0 1 6 8 rfl rfl rfl rfl
     refine y_reg ?_
     refine y_move H rfl rfl fun a H => y_loadRow Tryz.underlying50 rfl (tok_size _ rfl) H rfl hr130 rfl fun a H => y_call pf_ttok H rfl rfl (Calls.mono (textToken_any hv129 (by omega) hF2.2.2) ?_)
     rintro e w135 ⟨rfl, hb135⟩
     refine ⟨_, rfl, fun a H => ?_⟩
     have hx136 := OwnX.below hx127 hb135
     have hz137 := Below.size hb135
     have hd140 := DW.below hd131 hb135
     have hs141 := DStep.trans hs132 (DStep.of_below hb135)
     obtain ⟨q142, hq142⟩ : ∃ q, q = w135.heap.size := ⟨_, rfl⟩
     refine y_oneTx H rfl rfl fun w142 hr142 hb142 hs142 a H => ?_
     rw [← hq142] at H hr142
     have hx143 := OwnX.below hx136 hb142
     have hz144 := Below.size hb142
     have hd147 := DW.below hd140 hb142
     have hs148 := DStep.trans hs141 (DStep.of_below hb142)
     refine y_appTx (t := s1.tok) H rfl hx143 rfl hr142 (by omega) (by omega) rfl fun v149 w149 ha149 a H => ?_
     refine y_assign H rfl rfl fun a H => ?_
     have hgr := ha149.grown
     have hk9 : ∀ k, Value.ownBlock v149 = some k → (Value.slice aoV l.length cV).ownBlock = some k ∨ w142.heap.size = k := fun k hk => by
      rcases ha149.lies with e | e
      ·exact .inl (by rw [← e]; exact hk)
      ·rw [e] at hk; injection hk with hk; exact .inr hk
     have hlx := OwnX.lt hx143
     have hol := DW.ownLt hd147
     have hvb : Below B w142 w149 := ⟨hgr.os, hgr.tape, hgr.output, hgr.size, fun k hk => hgr.block k (by omega) (fun e => by have := (hlx k e.symm).1; omega)⟩
     have hk1 : s1.tok.kind ≠ 1 := by omega
     have hkk := hF1.2.2.2.2.1 hk1
     have hgz := hgr.size
     obtain ⟨aoW, cW, hvW⟩ := ha149.own.slice
     have hdW := DW.kept hd147 hgr.size (hgr.block p (DW.lt hd147) (fun e => hn1 e.symm)) (hgr.block g (DW.gl hd147) (fun e => hn2 e.symm)) (World.ownsRow.kept (DW.own hd147) hgr (by
       cases hk : Value.ownBlock _ with
       | none => exact .inl rfl
       | some k => exact .inr (fun e => hnk106 k e.symm hk))) (fun k hk h9 => hgr.block k hk (fun e => by have := (hlx k e.symm).1; have := HD.b9; omega))
     refine wpList_nil (in_normal (then_normal (⟨⟨s1, l ++ [s1.tok], _, _, _, _, v149, f, H.sub _ (sub_cons rfl (sub_cons rfl (sub_cons rfl (sub_nil)))), hdW, ha149.own, ?_, ?_, ?_, hF1.1, hF1.2.1.trans hbad, hF2.1, ?_, ?_, ?_, ?_⟩, ?_⟩)))
     ·intro e
      rcases hk9 p e with e | e
      ·exact hn1 e
      ·omega
     ·intro e
      rcases hk9 g e with e | e
      ·exact hn2 e
      ·omega
     ·intro k hk e
      rcases hk9 k hk with h | h
      ·exact hnk106 k h e
      ·have := hol k e; omega
     ·simp only [List.length_append, List.length_cons, List.length_nil]; omega
     ·rw [← hrun]; exact (run_more hpk hbad hle hS hk1).symm
     ·omega
     ·exact (hbw.trans (DStep.below hs148 HD.bp HD.base HD.ownLe)).trans hvb
     ·have h2 := (congrArg slenT (H.ev (x := .tmp 6) rfl)).trans (congrArg slenT hvW)
      have h1 := HE.out
      show bs.length + 1 - slenT _ < bs.length + 1 - slenT _
      rw [h1, h2]
      simp only [slenT, List.length_append, List.length_cons, List.length_nil]
      omega
 ·refine y_lss (b := false) H rfl rfl (decide_eq_false (by omega)) rfl fun a H => y_move H rfl rfl fun a H => y_off H rfl rfl rfl fun a H => y_off H rfl rfl rfl fun a H => y_off H rfl rfl rfl fun a H => y_off H rfl rfl rfl fun a H => y_pick H rfl rfl rfl fun a H => wpList_nil (then_normal (hK7 _ _ ?_))
  replace H := H.k4 0 1 6 21 rfl rfl rfl rfl
  refine y_iff H rfl ?_
  refine wp_skip (then_normal (hK5 _ _ ?_))
  replace H := H.k3 0 1 6 rfl rfl rfl
  refine y_seq fun K150 hK150 => ?_
  refine y_reg ?_
  refine y_move H rfl rfl fun a H => ?_
  have HP := read_any HD hm (fun _ => hok)
  have Hs152 := H
  rcases hS : readT bs s with _ | s1
  ·have H := Hs152
   rw [hS] at HP
   refine y_call pf_read H rfl rfl (Calls.mono HP ?_)
   rintro e w151 ⟨⟨te, xe, v151, rfl, _, ao151, n151, c151, tk151, rfl⟩, vr151, ve151, vst151, vi151, s1, hd151, hp151, hds151⟩
   refine ⟨_, rfl, fun a H => ?_⟩
   have hx153 := OwnX.step hox hds151 hn1 hn3
   have hnk154 := step_far hds151 hn3 (fun k hk => (OwnX.lt hox k hk).2)
   have hz155 := DStep.size hds151
   have hs156 := DStep.trans hs0 hds151
   have hR1 : R = (l, false) := by rw [← hrun]; exact run_none hpk hbad hle hS
   refine y_move H rfl rfl fun a H => y_extract H rfl rfl rfl fun a H => y_extract H rfl rfl rfl fun a H => ?_
   obtain ⟨q157, hq157⟩ : ∃ q, q = w151.heap.size := ⟨_, rfl⟩
   refine y_allocRow alloc_tok H rfl fun w157 hr157 hb157 hs157 a H => ?_
   rw [← hq157] at H hr157
   have hx158 := OwnX.below hx153 hb157
   have hz159 := Below.size hb157
   have hs161 := DStep.trans hs156 (DStep.of_below hb157)
   refine y_storeRow (vs := [_, _, _, _, _, _]) H rfl rfl hr157 rfl (tok_size' _ _ _ _ _ _) (by simp [Value.oneCell']) fun w163 hr163 hg163 => ?_
   have hx164 := OwnX.grownOther hx158 hg163 (fun k hk => by have := HL k hk; omega)
   have hz165 := World.grownBy.size hg163
   have hs167 := DStep.thenRow hs161 hg163 (by omega)
   refine y_assign H rfl rfl fun a H => wpList_nil (then_normal (hK150 _ _ ?_))
   replace H := H.k5 0 1 6 8 9 rfl rfl rfl rfl rfl
   refine y_seq fun K168 hK168 => ?_
   refine y_seq fun K169 hK169 => ?_
   refine y_reg ?_
   refine y_move H rfl rfl fun a H => y_neNil (b := true) H rfl (.inr ⟨_, _, rfl, rfl⟩) rfl fun a H => wpList_nil (then_normal (hK169 _ _ ?_))
   replace H := H.k5 0 1 6 8 30 rfl rfl rfl rfl rfl
   refine y_ift H rfl ?_
   refine y_seq fun K170 hK170 => ?_
   refine y_reg ?_
   refine y_move H rfl rfl fun a H => y_assign H rfl rfl fun a H => y_assign H rfl rfl fun a H => wpList_nil (then_normal (hK170 _ _ ?_))
   replace H := H.k6 0 1 4 5 6 8 rfl rfl rfl rfl rfl rfl
   refine wp_ret (then_ret (in_ret (then_ret (in_ret (?_)))))
   have h4 := H.get 4 _ rfl
   have h5 := H.get 5 _ rfl
   refine bodyPost_ret (results_tmp2 rfl _ _ _) H.defers ?_
   exact ⟨.slice aoV l.length cV, by simp [h4, h5, hR1], by rw [hR1]; exact hx164, (hbw.trans (DStep.below hs167 HD.bp HD.base HD.ownLe))⟩
  ·have H := Hs152
   rw [hS] at HP
   refine y_call pf_read H rfl rfl (Calls.mono HP ?_)
   rintro e w151 ⟨vt151, ve151, vst151, vi151, rfl, hd151, hds151⟩
   have hvt151 := DW.raw hd151
   have Hs171 := H
   obtain ⟨ao151, n151, c151, rfl⟩ := View.slice3 hvt151
   have H := Hs171
   refine ⟨_, rfl, fun a H => ?_⟩
   have hx172 := OwnX.step hox hds151 hn1 hn3
   have hnk173 := step_far hds151 hn3 (fun k hk => (OwnX.lt hox k hk).2)
   have hz174 := DStep.size hds151
   have hs175 := DStep.trans hs0 hds151
   have hF : readF bs s = some s1 := by rw [← readT_plain hpk]; exact hS
   have hF1 := readF_ok hF hle
   have hF2 := readF_keeps hF hle hok
   refine y_move H rfl rfl fun a H => y_extract H rfl rfl rfl fun a H => y_extract H rfl rfl rfl fun a H => ?_
   obtain ⟨q176, hq176⟩ : ∃ q, q = w151.heap.size := ⟨_, rfl⟩
   refine y_allocRow alloc_tok H rfl fun w176 hr176 hb176 hs176 a H => ?_
   rw [← hq176] at H hr176
   have hx177 := OwnX.below hx172 hb176
   have hz178 := Below.size hb176
   have hv179 := View.below hvt151 hb176
   have hd180 := DW.below hd151 hb176
   have hs181 := DStep.trans hs175 (DStep.of_below hb176)
   have hov182 := DW.fresh (q := q176) hd151 (by omega)
   refine y_storeRow (vs := [_, _, _, _, _, _]) H rfl rfl hr176 rfl (tok_size' _ _ _ _ _ _) (by simp [Value.oneCell']) fun w183 hr183 hg183 => ?_
   have hx184 := OwnX.grownOther hx177 hg183 (fun k hk => by have := HL k hk; omega)
   have hz185 := World.grownBy.size hg183
   have hv186 := View.kept hv179 (World.grownBy.block hg183 g (by omega) (fun e => by injection e with e; omega))
   have hd187 := DW.grownOther hd180 hg183 (by omega) (by omega) hov182 (by omega)
   have hs188 := DStep.thenRow hs181 hg183 (by omega)
   refine y_assign H rfl rfl fun a H => wpList_nil (then_normal (hK150 _ _ ?_))
   replace H := H.k5 0 1 6 8 9 rfl rfl rfl rfl rfl
   refine y_seq fun K189 hK189 => ?_
   refine y_seq fun K190 hK190 => ?_
   refine y_reg ?_
   refine y_move H rfl rfl fun a H => y_neNil (b := false) H rfl (.inl ⟨rfl, rfl⟩) rfl fun a H => wpList_nil (then_normal (hK190 _ _ ?_))
   replace H := H.k5 0 1 6 8 30 rfl rfl rfl rfl rfl
   refine y_iff H rfl ?_
   refine wp_skip (then_normal (hK189 _ _ ?_))
   replace H := H.k4 0 1 6 8 rfl rfl rfl rfl
   refine y_seq fun K191 hK191 => ?_
   refine y_seq fun K192 hK192 => ?_
   refine y_reg ?_
   refine y_loadRow Tryz.underlying50 rfl (tok_size _ rfl) H rfl hr183 rfl fun a H => y_call pf_tkind H rfl rfl (Calls.mono (tokKind_any hv186) ?_)
   rintro e w193 ⟨rfl, hb193⟩
   refine ⟨_, rfl, fun a H => ?_⟩
   have hx194 := OwnX.below hx184 hb193
   have hz195 := Below.size hb193
   have hv196 := View.below hv186 hb193
   have hr197 := RowAt.below hr183 (by omega) hb193
   have hd198 := DW.below hd187 hb193
   have hs199 := DStep.trans hs188 (DStep.of_below hb193)
   by_cases q200 : (((s1.tok.kind : Nat) : Int)) = ((1 : Int))
   ·refine y_eql (b := true) H rfl rfl (ieq_t (by omega)) rfl fun a H => wpList_nil (then_normal (hK192 _ _ ?_))
    replace H := H.k5 0 1 6 8 34 rfl rfl rfl rfl rfl
    refine y_ift H rfl ?_
    refine y_seq fun K201 hK201 => ?_
    refine y_reg ?_
    refine y_move H rfl rfl fun a H => y_assign H rfl rfl fun a H => y_assign H rfl rfl fun a H => wpList_nil (then_normal (hK201 _ _ ?_))
    replace H := H.k6 0 1 4 5 6 8 rfl rfl rfl rfl rfl rfl
    refine wp_ret (then_ret (in_ret (then_ret (in_ret (?_)))))
    have h4 := H.get 4 _ rfl
    have h5 := H.get 5 _ rfl
    refine bodyPost_ret (results_tmp2 rfl _ _ _) H.defers ?_
    have hR1 : R = (l, true) := by rw [← hrun]; exact run_eof hpk hbad hle hS (by omega)
    exact ⟨.slice aoV l.length cV, by simp [h4, h5, hR1], by rw [hR1]; exact hx194, (hbw.trans (DStep.below hs199 HD.bp HD.base HD.ownLe))⟩
   ·refine y_eql (b := false) H rfl rfl (ieq_f (by omega)) rfl fun a H => wpList_nil (then_normal (hK192 _ _ ?_))
    replace H := H.k5 0 1 6 8 34 rfl rfl rfl rfl rfl
    refine y_iff H rfl ?_
    refine wp_skip (then_normal (hK191 _ _ ?_))
    replace H := H.k4 0 1 6 8 rfl rfl rfl rfl
    refine y_reg ?_
    refine y_move H rfl rfl fun a H => y_loadRow Tryz.underlying50 rfl (tok_size _ rfl) H rfl hr197 rfl fun a H => y_call pf_ttok H rfl rfl (Calls.mono (textToken_any hv196 (by omega) hF2.2.2) ?_)
    rintro e w202 ⟨rfl, hb202⟩
    refine ⟨_, rfl, fun a H => ?_⟩
    have hx203 := OwnX.below hx194 hb202
    have hz204 := Below.size hb202
    have hd207 := DW.below hd198 hb202
    have hs208 := DStep.trans hs199 (DStep.of_below hb202)
    obtain ⟨q209, hq209⟩ : ∃ q, q = w202.heap.size := ⟨_, rfl⟩
    refine y_oneTx H rfl rfl fun w209 hr209 hb209 hs209 a H => ?_
    rw [← hq209] at H hr209
    have hx210 := OwnX.below hx203 hb209
    have hz211 := Below.size hb209
    have hd214 := DW.below hd207 hb209
    have hs215 := DStep.trans hs208 (DStep.of_below hb209)
    refine y_appTx (t := s1.tok) H rfl hx210 rfl hr209 (by omega) (by omega) rfl fun v216 w216 ha216 a H => ?_
    refine y_assign H rfl rfl fun a H => ?_
    have hgr := ha216.grown
    have hk9 : ∀ k, Value.ownBlock v216 = some k → (Value.slice aoV l.length cV).ownBlock = some k ∨ w209.heap.size = k := fun k hk => by
     rcases ha216.lies with e | e
     ·exact .inl (by rw [← e]; exact hk)
     ·rw [e] at hk; injection hk with hk; exact .inr hk
    have hlx := OwnX.lt hx210
    have hol := DW.ownLt hd214
    have hvb : Below B w209 w216 := ⟨hgr.os, hgr.tape, hgr.output, hgr.size, fun k hk => hgr.block k (by omega) (fun e => by have := (hlx k e.symm).1; omega)⟩
    have hk1 : s1.tok.kind ≠ 1 := by omega
    have hkk := hF1.2.2.2.2.1 hk1
    have hgz := hgr.size
    obtain ⟨aoW, cW, hvW⟩ := ha216.own.slice
    have hdW := DW.kept hd214 hgr.size (hgr.block p (DW.lt hd214) (fun e => hn1 e.symm)) (hgr.block g (DW.gl hd214) (fun e => hn2 e.symm)) (World.ownsRow.kept (DW.own hd214) hgr (by
      cases hk : Value.ownBlock _ with
      | none => exact .inl rfl
      | some k => exact .inr (fun e => hnk173 k e.symm hk))) (fun k hk h9 => hgr.block k hk (fun e => by have := (hlx k e.symm).1; have := HD.b9; omega))
    refine wpList_nil (in_normal (then_normal (⟨⟨s1, l ++ [s1.tok], _, _, _, _, v216, f, H.sub _ (sub_cons rfl (sub_cons rfl (sub_cons rfl (sub_nil)))), hdW, ha216.own, ?_, ?_, ?_, hF1.1, hF1.2.1.trans hbad, hF2.1, ?_, ?_, ?_, ?_⟩, ?_⟩)))
    ·intro e
     rcases hk9 p e with e | e
     ·exact hn1 e
     ·omega
    ·intro e
     rcases hk9 g e with e | e
     ·exact hn2 e
     ·omega
    ·intro k hk e
     rcases hk9 k hk with h | h
     ·exact hnk173 k h e
     ·have := hol k e; omega
    ·simp only [List.length_append, List.length_cons, List.length_nil]; omega
    ·rw [← hrun]; exact (run_more hpk hbad hle hS hk1).symm
    ·omega
    ·exact (hbw.trans (DStep.below hs215 HD.bp HD.base HD.ownLe)).trans hvb
    ·have h2 := (congrArg slenT (H.ev (x := .tmp 6) rfl)).trans (congrArg slenT hvW)
     have h1 := HE.out
     show bs.length + 1 - slenT _ < bs.length + 1 - slenT _
     rw [h1, h2]
     simp only [slenT, List.length_append, List.length_cons, List.length_nil]
     omega
end Go.Proofs.YtgdnpnipahegaaaGreatDoor
