/-
 The thin package's reading of the text form, walked: all tokens up to the end, or to an error.
-/
import Derived.Test.YtgdnpnipahegaaaGreatDoorQ9
import Derived.Test.YtgdnpnipahegaaaGreatDoorQ30
import Derived.Test.YtgdnpnipahegaaaGreatDoorQ6
import Derived.Deep.QuietTactic
import Derived.BigQuiet
import Derived.Test.YtgdnpnipahegaaaGreatDoorQ4
import Derived.Test.YtgdnpnipahegaaaGreatDoorQ20
namespace Go.Proofs.YtgdnpnipahegaaaGreatDoor
open Go.ChangeShapes Go.WideShapes Go.ChangeAt Go.RowKit
theorem pf_peek:PlainFn Tryz.prog 18:=⟨_,Tryz.func18,by kernel_rfl,by kernel_rfl⟩
theorem pf_ttok:PlainFn Tryz.prog 21:=⟨_,Tryz.func21,by kernel_rfl,by kernel_rfl⟩
def XRes (B:Nat) (R:List TT × Bool) (w0:World) (e:Ending) (w':World):Prop:=∃ v,e = .returned (.tuple #[v,.bool R.2])∧OwnX w' B v R.1∧Below B w0 w'
variable {B p g:Nat} {bs:List UInt8} {vr ve vst vo vi:Value} {s:DT} {w:World}
set_option maxRecDepth 100000 in
set_option maxHeartbeats 100000000 in
theorem textRead_any (ps:List Bool) (vpk:Value) (h:DW B p g bs vr ve vst vo vi s w) (hm:bs.length≤10000000) (hok0:DOk2 s.st s.tok.kind s.k) (hpk0:s.peeked = false) (hbad0:s.bad = false) (hps:BView w B vpk ps) (hpl:ps.length≤2147483647) :
  Calls Tryz.prog 12 #[.pointer (some ⟨p,0,none⟩),vpk] w (XRes B (runT bs ps (bs.length+1) s []) w):=by
 obtain ⟨R,hrun0⟩:∃ R,runT bs ps (bs.length+1) s [] = R:=⟨_,rfl⟩;rw [hrun0]
 obtain ⟨aoP,cP,rfl⟩:∃ ao c,vpk = .slice ao ps.length c:=by obtain ⟨ao,c,e,_⟩:=hps; exact ⟨ao,c,e⟩
 refine enter2 (M:=41) Tryz.func12 rfl rfl rfl fun a H=>zr fun j1=>za H rfl fun H=>za H rfl fun H=>zN (j1 ?_);refine zr fun j2=>za H rfl fun H=>zN (j2 ?_);refine wp_block ?_
 refine wp_loop (fun a wx=>∃ (s:DT) (l:List TT) (vr ve vst vi v:Value) (f:Nat),Has 41 [] a [(0,.pointer (some ⟨p,0,none⟩)),(1,.slice aoP ps.length cP),(6,v)]∧DW B p g bs vr ve vst vo vi s wx∧OwnX wx B v l∧v.ownBlock≠some p∧v.ownBlock≠some g∧(∀ k,v.ownBlock = some k→vst.ownBlock≠some k)∧
   s.peeked = false∧s.bad = false∧DOk2 s.st s.tok.kind s.k∧l.length≤s.k∧runT bs ps f s l = R∧bs.length+1≤f+s.k∧Below B w wx) (fun a _=>bs.length+1 - slenT (a.eval (.tmp 6))) ?_ ?_
 ·exact ⟨s,[],vr,ve,vst,vi,_,bs.length+1,H.c,h,OwnX.nil _ _,by simp [Value.ownBlock],by simp [Value.ownBlock],by simp [Value.ownBlock],hpk0,hbad0,hok0,Nat.zero_le _,hrun0,by omega,Below.refl _ _⟩
 clear h hpk0 hbad0 hok0 hrun0;clear H;rintro a wk ⟨s,l,vr,ve,vst,vi,vO,f,H,HD,hox,hn1,hn2,hn3,hpk,hbad,hok,hll,hrun,hf,hbw⟩;have hle:=HD.le;have Hs3:=H;obtain ⟨f,rfl⟩:∃ f1,f = f1+1:=⟨f - 1,by omega⟩;have H:=Hs3;have Hs4:=H;obtain ⟨aoV,cV,rfl⟩:=hox.slice;have H:=Hs4;have HE:=hid (congrArg slenT (H.ev (x:=.tmp 6) rfl));have HL:=hox.lt;have hlp:=HD.lt;have hgl:=HD.gl;have hgp:g≠p:=HD.gp
 have h9:9≤wk.heap.size:=by have:=HD.base; have:=HD.b9; omega
 have hBk:=HD.base;have hs0:=DStep.refl p vst wk;have HPS:=hps.below hbw;refine wp_block (zs fun j5=>zr fun j6=>zm H rfl fun H=>y_lenS Tryz.underlying28 H rfl rfl fun a H=>za H rfl fun H=>zN (j6 ?_));refine zK H [0,1,6,7] rfl fun H=>zr fun j7=>zm H rfl fun H=>zm H rfl fun H=>y_lenS Tryz.underlying32 H rfl rfl fun a H=>?_
 by_cases q8:(((l.length:Nat):Int)) < (((ps.length:Nat):Int))
 ·refine zlt H rfl rfl fun H=>zm H rfl fun H=>zo H rfl (zm H rfl fun H=>zo H rfl (zm H rfl fun H=>zo H rfl (y_idxBools H rfl rfl (BView.below HPS (Below.refl _ _)) (by omega) rfl fun a ad9 H hc9=>?_)));have Hs10:=H
  rcases hG:ps.getD l.length false with _ | _
  ·have H:=Hs10;rw [hG] at hc9;refine zo H rfl (zl oneBoolT H rfl hc9 fun H=>zp H rfl rfl fun H=>zN (j7 ?_));refine zj H rfl (wp_skip (tn (j5 ?_)));refine zr fun j11=>zm H rfl fun H=>?_;have HP:=read_any HD hm (fun _=>hok);have Hs13:=H
   rcases hS:readT bs s with _ | s1
   ·have H:=Hs13;rw [hS] at HP;refine zC pf_read H rfl (Calls.mono HP ?_);rintro e w12 ⟨⟨te,xe,v12,rfl,_,ao12,n12,c12,tk12,rfl⟩,vr12,ve12,vst12,vi12,s1,hd12,hp12,hds12⟩;refine zR fun H=>?_;have hx14:=OwnX.step hox hds12 hn1 hn3;have hnk15:=step_far hds12 hn3 (fun k hk=>(OwnX.lt hox k hk).2);have hz16:=DStep.size hds12;have hs17:=DStep.trans hs0 hds12
    have hR1:R = (l,false):=by rw [←hrun]; exact run_none hpk hbad hle hS
    refine zm H rfl fun H=>zx H rfl rfl fun H=>zx H rfl rfl fun H=>?_;obtain ⟨q18,hq18⟩:∃ q,q = w12.heap.size:=⟨_,rfl⟩;refine y_allocRow alloc_tok H rfl fun w18 hr18 hb18 hs18 a H=>?_;rw [←hq18] at H hr18;have hx19:=OwnX.below hx14 hb18;have hz20:=hb18.size;have hs22:=DStep.tB hs17 hb18;refine zT H rfl rfl hr18 fun {w24} hr24 hg24=>?_;have hx25:=OwnX.grownOther hx19 hg24 (fun k hk=>by have:=HL k hk; omega);have hz26:=hg24.size;have hs28:=DStep.tR hs22 hg24;refine za H rfl fun H=>zN (j11 ?_);refine zK H [0,1,6,8,9] rfl fun H=>zs fun j29=>zr fun j30=>zm H rfl fun H=>y_neNil (b:=true) H rfl (.inr ⟨_,_,rfl,rfl⟩) rfl fun a H=>zN (j30 ?_);refine zi H rfl (zr fun j31=>zm H rfl fun H=>za H rfl fun H=>za H rfl fun H=>zN (j31 ?_));refine wp_ret (tr (br (tr (br (?_)))));have h4:=H.get 4 _ rfl;have h5:=H.get 5 _ rfl;refine bodyPost_ret (results_tmp2 rfl _ _ _) H.defers ?_;exact ⟨.slice aoV l.length cV,by simp [h4,h5,hR1],by rw [hR1]; exact hx25,(hbw.trans (DStep.below hs28 HD.bp HD.base HD.ownLe))⟩
   ·have H:=Hs13;rw [hS] at HP;refine zC pf_read H rfl (Calls.mono HP ?_);rintro e w12 ⟨vt12,ve12,vst12,vi12,rfl,hd12,hds12⟩;have hvt12:=DW.raw hd12;have Hs32:=H;obtain ⟨ao12,n12,c12,rfl⟩:=View.slice3 hvt12;have H:=Hs32;refine zR fun H=>?_;have hx33:=OwnX.step hox hds12 hn1 hn3;have hnk34:=step_far hds12 hn3 (fun k hk=>(OwnX.lt hox k hk).2);have hz35:=DStep.size hds12;have hs36:=DStep.trans hs0 hds12
    have hF:readF bs s = some s1:=by rw [←readT_plain hpk]; exact hS
    have hF1:=readF_ok hF hle;have hF2:=readF_keeps hF hle hok;refine zm H rfl fun H=>zx H rfl rfl fun H=>zx H rfl rfl fun H=>?_;obtain ⟨q37,hq37⟩:∃ q,q = w12.heap.size:=⟨_,rfl⟩;refine y_allocRow alloc_tok H rfl fun w37 hr37 hb37 hs37 a H=>?_;rw [←hq37] at H hr37;have hx38:=OwnX.below hx33 hb37;have hz39:=hb37.size;have hv40:=View.below hvt12 hb37;have hd41:=DW.below hd12 hb37;have hs42:=DStep.tB hs36 hb37;have hov43:=DW.fresh (q:=q37) hd12 (by omega);refine zT H rfl rfl hr37 fun {w44} hr44 hg44=>?_;have hx45:=OwnX.grownOther hx38 hg44 (fun k hk=>by have:=HL k hk; omega);have hz46:=hg44.size;have hv47:=View.kg hv40 hg44;have hd48:=DW.gO hd41 hg44 hov43;have hs49:=DStep.tR hs42 hg44;refine za H rfl fun H=>zN (j11 ?_);refine zK H [0,1,6,8,9] rfl fun H=>zs fun j50=>zr fun j51=>zm H rfl fun H=>y_neNil (b:=false) H rfl (.inl ⟨rfl,rfl⟩) rfl fun a H=>zN (j51 ?_);refine zj H rfl (wp_skip (tn (j50 ?_)));refine zs fun j52=>zr fun j53=>y_loadRow Tryz.underlying50 rfl (tok_size _ rfl) H rfl hr44 rfl fun a H=>zC pf_tkind H rfl (Calls.mono (tokKind_any hv47) ?_);rintro e w54 ⟨rfl,hb54⟩;refine zR fun H=>?_;have hx55:=OwnX.below hx45 hb54;have hz56:=hb54.size;have hv57:=View.below hv47 hb54;have hr58:=RowAt.bl hr44 hb54;have hd59:=DW.below hd48 hb54;have hs60:=DStep.tB hs49 hb54
    by_cases q61:(((s1.tok.kind:Nat):Int)) = ((1:Int))
    ·refine zet H rfl rfl fun H=>zN (j53 ?_);refine zK H [0,1,6,8,34] rfl fun H=>zi H rfl (zr fun j62=>zm H rfl fun H=>za H rfl fun H=>za H rfl fun H=>zN (j62 ?_));refine wp_ret (tr (br (tr (br (?_)))));have h4:=H.get 4 _ rfl;have h5:=H.get 5 _ rfl;refine bodyPost_ret (results_tmp2 rfl _ _ _) H.defers ?_
     have hR1:R = (l,true):=by rw [←hrun]; exact run_eof hpk hbad hle hS (by omega)
     exact ⟨.slice aoV l.length cV,by simp [h4,h5,hR1],by rw [hR1]; exact hx55,(hbw.trans (DStep.below hs60 HD.bp HD.base HD.ownLe))⟩
    ·refine zef H rfl rfl fun H=>zN (j53 ?_);refine zj H rfl (wp_skip (tn (j52 ?_)));refine zK H [0,1,6,8] rfl fun H=>y_reg (zm H rfl fun H=>y_loadRow Tryz.underlying50 rfl (tok_size _ rfl) H rfl hr58 rfl fun a H=>zC pf_ttok H rfl (Calls.mono (textToken_any hv57 (by omega) hF2.2.2) ?_));rintro e w63 ⟨rfl,hb63⟩;refine zR fun H=>?_;have hx64:=OwnX.below hx55 hb63;have hz65:=hb63.size;have hd68:=DW.below hd59 hb63;have hs69:=DStep.tB hs60 hb63;obtain ⟨q70,hq70⟩:∃ q,q = w63.heap.size:=⟨_,rfl⟩;refine y_oneTx H rfl rfl fun w70 hr70 hb70 hs70 a H=>?_;rw [←hq70] at H hr70;have hx71:=OwnX.below hx64 hb70;have hz72:=hb70.size;have hd75:=DW.below hd68 hb70;have hs76:=DStep.tB hs69 hb70;refine y_appTx (t:=s1.tok) H rfl hx71 rfl hr70 (by omega) (by omega) rfl fun v77 w77 ha77 a H=>za H rfl fun H=>?_;have hgr:=ha77.grown
     have hk9:∀ k,Value.ownBlock v77 = some k→(Value.slice aoV l.length cV).ownBlock = some k∨w70.heap.size = k:=fun k hk=>by
      rcases ha77.lies with e | e
      ·exact .inl (by rw [←e]; exact hk)
      ·rw [e] at hk; injection hk with hk; exact .inr hk
     have hlx:=OwnX.lt hx71;have hol:=DW.ownLt hd75;have hvb:Below B w70 w77:=⟨hgr.os,hgr.tape,hgr.output,hgr.size,fun k hk=>hgr.block k (by omega) (fun e=>by have:=(hlx k e.symm).1; omega)⟩
     have hk1:s1.tok.kind≠1:=by omega
     have hkk:=hF1.2.2.2.2.1 hk1;have hgz:=hgr.size;obtain ⟨aoW,cW,hvW⟩:=ha77.own.slice
     have hdW:=DW.kept hd75 hgr.size (hgr.block p (DW.lt hd75) (fun e=>hn1 e.symm)) (hgr.block g (DW.gl hd75) (fun e=>hn2 e.symm)) (World.ownsRow.kept (DW.own hd75) hgr (by
       cases hk:Value.ownBlock _ with
       | none=>exact .inl rfl
       | some k=>exact .inr (fun e=>hnk34 k e.symm hk))) (fun k hk h9=>hgr.block k hk (fun e=>by have:=(hlx k e.symm).1; have:=HD.b9; omega))
     refine wpList_nil (bn (tn (⟨⟨s1,l++[s1.tok],_,_,_,_,v77,f,H.c,hdW,ha77.own,?_,?_,?_,hF1.1,hF1.2.1.trans hbad,hF2.1,?_,?_,?_,?_⟩,?_⟩)))
     ·intro e
      rcases hk9 p e with e | e
      ·exact hn1 e
      ·omega
     ·intro e
      rcases hk9 g e with e | e
      ·exact hn2 e
      ·omega
     ·intro k hk e
      rcases hk9 k hk with h | h
      ·exact hnk34 k h e
      ·have:=hol k e; omega
     ·simp only [List.length_append,List.length_cons,List.length_nil]; omega
     ·rw [←hrun]; exact (run_more hpk hbad hle hS hk1).symm
     ·omega
     ·exact (hbw.trans (DStep.below hs76 HD.bp HD.base HD.ownLe)).trans hvb
     ·have h2:=(congrArg slenT (H.ev (x:=.tmp 6) rfl)).trans (congrArg slenT hvW);have h1:=HE.out
      show bs.length+1 - slenT _ < bs.length+1 - slenT _
      rw [h1,h2];simp only [slenT,List.length_append,List.length_cons,List.length_nil];omega
  ·have H:=Hs10;rw [hG] at hc9;refine zo H rfl (zl oneBoolT H rfl hc9 fun H=>zp H rfl rfl fun H=>zN (j7 ?_));refine zK H [0,1,6,21] rfl fun H=>zi H rfl (y_reg (zm H rfl fun H=>zC pf_peek H rfl (Calls.mono (peek_any HD hm (fun _=>hok)) ?_)));rintro e w78 ⟨s78,vr78,ve78,vst78,vi78,rfl,hd78,hds78,hlk78⟩;refine zR fun H=>?_;have hx79:=OwnX.step hox hds78 hn1 hn3;have hnk80:=step_far hds78 hn3 (fun k hk=>(OwnX.lt hox k hk).2);have hz81:=DStep.size hds78;have hs82:=DStep.trans hs0 hds78;have hrd:readT bs s78 = readT bs s:=(like_read hlk78).trans (read_peek hpk hbad hle)
   have hok2:s78.peeked = false→DOk2 s78.st s78.tok.kind s78.k:=fun h=>by rw [like_peeked hlk78 (peekT_peeked bs s)] at h; cases h
   refine zN (j5 ?_);refine zr fun j83=>zm H rfl fun H=>?_;have HP:=read_any hd78 hm hok2;rw [hrd] at HP;have Hs85:=H
   rcases hS:readT bs s with _ | s1
   ·have H:=Hs85;rw [hS] at HP;refine zC pf_read H rfl (Calls.mono HP ?_);rintro e w84 ⟨⟨te,xe,v84,rfl,_,ao84,n84,c84,tk84,rfl⟩,vr84,ve84,vst84,vi84,s1,hd84,hp84,hds84⟩;refine zR fun H=>?_;have hx86:=OwnX.step hx79 hds84 hn1 hnk80;have hnk87:=step_far hds84 hnk80 (fun k hk=>(OwnX.lt hx79 k hk).2);have hz88:=DStep.size hds84;have hs89:=DStep.trans hs82 hds84
    have hR1:R = (l,false):=by rw [←hrun]; exact run_none hpk hbad hle hS
    refine zm H rfl fun H=>zx H rfl rfl fun H=>zx H rfl rfl fun H=>?_;obtain ⟨q90,hq90⟩:∃ q,q = w84.heap.size:=⟨_,rfl⟩;refine y_allocRow alloc_tok H rfl fun w90 hr90 hb90 hs90 a H=>?_;rw [←hq90] at H hr90;have hx91:=OwnX.below hx86 hb90;have hz92:=hb90.size;have hs94:=DStep.tB hs89 hb90;refine zT H rfl rfl hr90 fun {w96} hr96 hg96=>?_;have hx97:=OwnX.grownOther hx91 hg96 (fun k hk=>by have:=HL k hk; omega);have hz98:=hg96.size;have hs100:=DStep.tR hs94 hg96;refine za H rfl fun H=>zN (j83 ?_);refine zs fun j101=>zr fun j102=>zm H rfl fun H=>y_neNil (b:=true) H rfl (.inr ⟨_,_,rfl,rfl⟩) rfl fun a H=>zN (j102 ?_);refine zK H [0,1,6,8,30] rfl fun H=>zi H rfl (zr fun j103=>zm H rfl fun H=>za H rfl fun H=>za H rfl fun H=>zN (j103 ?_));refine wp_ret (tr (br (tr (br (?_)))));have h4:=H.get 4 _ rfl;have h5:=H.get 5 _ rfl;refine bodyPost_ret (results_tmp2 rfl _ _ _) H.defers ?_;exact ⟨.slice aoV l.length cV,by simp [h4,h5,hR1],by rw [hR1]; exact hx97,(hbw.trans (DStep.below hs100 HD.bp HD.base HD.ownLe))⟩
   ·have H:=Hs85;rw [hS] at HP;refine zC pf_read H rfl (Calls.mono HP ?_);rintro e w84 ⟨vt84,ve84,vst84,vi84,rfl,hd84,hds84⟩;have hvt84:=DW.raw hd84;have Hs104:=H;obtain ⟨ao84,n84,c84,rfl⟩:=View.slice3 hvt84;have H:=Hs104;refine zR fun H=>?_;have hx105:=OwnX.step hx79 hds84 hn1 hnk80;have hnk106:=step_far hds84 hnk80 (fun k hk=>(OwnX.lt hx79 k hk).2);have hz107:=DStep.size hds84;have hs108:=DStep.trans hs82 hds84
    have hF:readF bs s = some s1:=by rw [←readT_plain hpk]; exact hS
    have hF1:=readF_ok hF hle;have hF2:=readF_keeps hF hle hok;refine zm H rfl fun H=>zx H rfl rfl fun H=>zx H rfl rfl fun H=>?_;obtain ⟨q109,hq109⟩:∃ q,q = w84.heap.size:=⟨_,rfl⟩;refine y_allocRow alloc_tok H rfl fun w109 hr109 hb109 hs109 a H=>?_;rw [←hq109] at H hr109;have hx110:=OwnX.below hx105 hb109;have hz111:=hb109.size;have hv112:=View.below hvt84 hb109;have hd113:=DW.below hd84 hb109;have hs114:=DStep.tB hs108 hb109;have hov115:=DW.fresh (q:=q109) hd84 (by omega);refine zT H rfl rfl hr109 fun {w116} hr116 hg116=>?_;have hx117:=OwnX.grownOther hx110 hg116 (fun k hk=>by have:=HL k hk; omega);have hz118:=hg116.size;have hv119:=View.kg hv112 hg116;have hd120:=DW.gO hd113 hg116 hov115;have hs121:=DStep.tR hs114 hg116;refine za H rfl fun H=>zN (j83 ?_);refine zs fun j122=>zr fun j123=>zm H rfl fun H=>y_neNil (b:=false) H rfl (.inl ⟨rfl,rfl⟩) rfl fun a H=>zN (j123 ?_);refine zK H [0,1,6,8,30] rfl fun H=>zj H rfl (wp_skip (tn (j122 ?_)));refine zs fun j124=>zr fun j125=>y_loadRow Tryz.underlying50 rfl (tok_size _ rfl) H rfl hr116 rfl fun a H=>zC pf_tkind H rfl (Calls.mono (tokKind_any hv119) ?_);rintro e w126 ⟨rfl,hb126⟩;refine zR fun H=>?_;have hx127:=OwnX.below hx117 hb126;have hz128:=hb126.size;have hv129:=View.below hv119 hb126;have hr130:=RowAt.bl hr116 hb126;have hd131:=DW.below hd120 hb126;have hs132:=DStep.tB hs121 hb126
    by_cases q133:(((s1.tok.kind:Nat):Int)) = ((1:Int))
    ·refine zet H rfl rfl fun H=>zN (j125 ?_);refine zi H rfl (zr fun j134=>zm H rfl fun H=>za H rfl fun H=>za H rfl fun H=>zN (j134 ?_));refine zK H [0,1,4,5,6,8] rfl fun H=>wp_ret (tr (br (tr (br (?_)))));have h4:=H.get 4 _ rfl;have h5:=H.get 5 _ rfl;refine bodyPost_ret (results_tmp2 rfl _ _ _) H.defers ?_
     have hR1:R = (l,true):=by rw [←hrun]; exact run_eof hpk hbad hle hS (by omega)
     exact ⟨.slice aoV l.length cV,by simp [h4,h5,hR1],by rw [hR1]; exact hx127,(hbw.trans (DStep.below hs132 HD.bp HD.base HD.ownLe))⟩
    ·refine zef H rfl rfl fun H=>zN (j125 ?_);refine zj H rfl (wp_skip (tn (j124 ?_)));refine y_reg (zm H rfl fun H=>y_loadRow Tryz.underlying50 rfl (tok_size _ rfl) H rfl hr130 rfl fun a H=>zC pf_ttok H rfl (Calls.mono (textToken_any hv129 (by omega) hF2.2.2) ?_));rintro e w135 ⟨rfl,hb135⟩;refine zR fun H=>?_;have hx136:=OwnX.below hx127 hb135;have hz137:=hb135.size;have hd140:=DW.below hd131 hb135;have hs141:=DStep.tB hs132 hb135;obtain ⟨q142,hq142⟩:∃ q,q = w135.heap.size:=⟨_,rfl⟩;refine y_oneTx H rfl rfl fun w142 hr142 hb142 hs142 a H=>?_;rw [←hq142] at H hr142;have hx143:=OwnX.below hx136 hb142;have hz144:=hb142.size;have hd147:=DW.below hd140 hb142;have hs148:=DStep.tB hs141 hb142;refine y_appTx (t:=s1.tok) H rfl hx143 rfl hr142 (by omega) (by omega) rfl fun v149 w149 ha149 a H=>za H rfl fun H=>?_;have hgr:=ha149.grown
     have hk9:∀ k,Value.ownBlock v149 = some k→(Value.slice aoV l.length cV).ownBlock = some k∨w142.heap.size = k:=fun k hk=>by
      rcases ha149.lies with e | e
      ·exact .inl (by rw [←e]; exact hk)
      ·rw [e] at hk; injection hk with hk; exact .inr hk
     have hlx:=OwnX.lt hx143;have hol:=DW.ownLt hd147;have hvb:Below B w142 w149:=⟨hgr.os,hgr.tape,hgr.output,hgr.size,fun k hk=>hgr.block k (by omega) (fun e=>by have:=(hlx k e.symm).1; omega)⟩
     have hk1:s1.tok.kind≠1:=by omega
     have hkk:=hF1.2.2.2.2.1 hk1;have hgz:=hgr.size;obtain ⟨aoW,cW,hvW⟩:=ha149.own.slice
     have hdW:=DW.kept hd147 hgr.size (hgr.block p (DW.lt hd147) (fun e=>hn1 e.symm)) (hgr.block g (DW.gl hd147) (fun e=>hn2 e.symm)) (World.ownsRow.kept (DW.own hd147) hgr (by
       cases hk:Value.ownBlock _ with
       | none=>exact .inl rfl
       | some k=>exact .inr (fun e=>hnk106 k e.symm hk))) (fun k hk h9=>hgr.block k hk (fun e=>by have:=(hlx k e.symm).1; have:=HD.b9; omega))
     refine wpList_nil (bn (tn (⟨⟨s1,l++[s1.tok],_,_,_,_,v149,f,H.c,hdW,ha149.own,?_,?_,?_,hF1.1,hF1.2.1.trans hbad,hF2.1,?_,?_,?_,?_⟩,?_⟩)))
     ·intro e
      rcases hk9 p e with e | e
      ·exact hn1 e
      ·omega
     ·intro e
      rcases hk9 g e with e | e
      ·exact hn2 e
      ·omega
     ·intro k hk e
      rcases hk9 k hk with h | h
      ·exact hnk106 k h e
      ·have:=hol k e; omega
     ·simp only [List.length_append,List.length_cons,List.length_nil]; omega
     ·rw [←hrun]; exact (run_more hpk hbad hle hS hk1).symm
     ·omega
     ·exact (hbw.trans (DStep.below hs148 HD.bp HD.base HD.ownLe)).trans hvb
     ·have h2:=(congrArg slenT (H.ev (x:=.tmp 6) rfl)).trans (congrArg slenT hvW);have h1:=HE.out
      show bs.length+1 - slenT _ < bs.length+1 - slenT _
      rw [h1,h2];simp only [slenT,List.length_append,List.length_cons,List.length_nil];omega
 ·refine zlf H rfl rfl fun H=>zm H rfl fun H=>zf H rfl fun H=>zf H rfl fun H=>zf H rfl fun H=>zf H rfl fun H=>zp H rfl rfl fun H=>zN (j7 ?_);refine zj H rfl (wp_skip (tn (j5 ?_)));refine zr fun j150=>zm H rfl fun H=>?_;have HP:=read_any HD hm (fun _=>hok);have Hs152:=H
  rcases hS:readT bs s with _ | s1
  ·have H:=Hs152;rw [hS] at HP;refine zC pf_read H rfl (Calls.mono HP ?_);rintro e w151 ⟨⟨te,xe,v151,rfl,_,ao151,n151,c151,tk151,rfl⟩,vr151,ve151,vst151,vi151,s1,hd151,hp151,hds151⟩;refine zR fun H=>?_;have hx153:=OwnX.step hox hds151 hn1 hn3;have hnk154:=step_far hds151 hn3 (fun k hk=>(OwnX.lt hox k hk).2);have hz155:=DStep.size hds151;have hs156:=DStep.trans hs0 hds151
   have hR1:R = (l,false):=by rw [←hrun]; exact run_none hpk hbad hle hS
   refine zm H rfl fun H=>zx H rfl rfl fun H=>zx H rfl rfl fun H=>?_;obtain ⟨q157,hq157⟩:∃ q,q = w151.heap.size:=⟨_,rfl⟩;refine y_allocRow alloc_tok H rfl fun w157 hr157 hb157 hs157 a H=>?_;rw [←hq157] at H hr157;have hx158:=OwnX.below hx153 hb157;have hz159:=hb157.size;have hs161:=DStep.tB hs156 hb157;refine zT H rfl rfl hr157 fun {w163} hr163 hg163=>?_;have hx164:=OwnX.grownOther hx158 hg163 (fun k hk=>by have:=HL k hk; omega);have hz165:=hg163.size;have hs167:=DStep.tR hs161 hg163;refine za H rfl fun H=>zN (j150 ?_);refine zK H [0,1,6,8,9] rfl fun H=>zs fun j168=>zr fun j169=>zm H rfl fun H=>y_neNil (b:=true) H rfl (.inr ⟨_,_,rfl,rfl⟩) rfl fun a H=>zN (j169 ?_);refine zi H rfl (zr fun j170=>zm H rfl fun H=>za H rfl fun H=>za H rfl fun H=>zN (j170 ?_));refine wp_ret (tr (br (tr (br (?_)))));have h4:=H.get 4 _ rfl;have h5:=H.get 5 _ rfl;refine bodyPost_ret (results_tmp2 rfl _ _ _) H.defers ?_;exact ⟨.slice aoV l.length cV,by simp [h4,h5,hR1],by rw [hR1]; exact hx164,(hbw.trans (DStep.below hs167 HD.bp HD.base HD.ownLe))⟩
  ·have H:=Hs152;rw [hS] at HP;refine zC pf_read H rfl (Calls.mono HP ?_);rintro e w151 ⟨vt151,ve151,vst151,vi151,rfl,hd151,hds151⟩;have hvt151:=DW.raw hd151;have Hs171:=H;obtain ⟨ao151,n151,c151,rfl⟩:=View.slice3 hvt151;have H:=Hs171;refine zR fun H=>?_;have hx172:=OwnX.step hox hds151 hn1 hn3;have hnk173:=step_far hds151 hn3 (fun k hk=>(OwnX.lt hox k hk).2);have hz174:=DStep.size hds151;have hs175:=DStep.trans hs0 hds151
   have hF:readF bs s = some s1:=by rw [←readT_plain hpk]; exact hS
   have hF1:=readF_ok hF hle;have hF2:=readF_keeps hF hle hok;refine zm H rfl fun H=>zx H rfl rfl fun H=>zx H rfl rfl fun H=>?_;obtain ⟨q176,hq176⟩:∃ q,q = w151.heap.size:=⟨_,rfl⟩;refine y_allocRow alloc_tok H rfl fun w176 hr176 hb176 hs176 a H=>?_;rw [←hq176] at H hr176;have hx177:=OwnX.below hx172 hb176;have hz178:=hb176.size;have hv179:=View.below hvt151 hb176;have hd180:=DW.below hd151 hb176;have hs181:=DStep.tB hs175 hb176;have hov182:=DW.fresh (q:=q176) hd151 (by omega);refine zT H rfl rfl hr176 fun {w183} hr183 hg183=>?_;have hx184:=OwnX.grownOther hx177 hg183 (fun k hk=>by have:=HL k hk; omega);have hz185:=hg183.size;have hv186:=View.kg hv179 hg183;have hd187:=DW.gO hd180 hg183 hov182;have hs188:=DStep.tR hs181 hg183;refine za H rfl fun H=>zN (j150 ?_);refine zK H [0,1,6,8,9] rfl fun H=>zs fun j189=>zr fun j190=>zm H rfl fun H=>y_neNil (b:=false) H rfl (.inl ⟨rfl,rfl⟩) rfl fun a H=>zN (j190 ?_);refine zj H rfl (wp_skip (tn (j189 ?_)));refine zs fun j191=>zr fun j192=>y_loadRow Tryz.underlying50 rfl (tok_size _ rfl) H rfl hr183 rfl fun a H=>zC pf_tkind H rfl (Calls.mono (tokKind_any hv186) ?_);rintro e w193 ⟨rfl,hb193⟩;refine zR fun H=>?_;have hx194:=OwnX.below hx184 hb193;have hz195:=hb193.size;have hv196:=View.below hv186 hb193;have hr197:=RowAt.bl hr183 hb193;have hd198:=DW.below hd187 hb193;have hs199:=DStep.tB hs188 hb193
   by_cases q200:(((s1.tok.kind:Nat):Int)) = ((1:Int))
   ·refine zet H rfl rfl fun H=>zN (j192 ?_);refine zK H [0,1,6,8,34] rfl fun H=>zi H rfl (zr fun j201=>zm H rfl fun H=>za H rfl fun H=>za H rfl fun H=>zN (j201 ?_));refine wp_ret (tr (br (tr (br (?_)))));have h4:=H.get 4 _ rfl;have h5:=H.get 5 _ rfl;refine bodyPost_ret (results_tmp2 rfl _ _ _) H.defers ?_
    have hR1:R = (l,true):=by rw [←hrun]; exact run_eof hpk hbad hle hS (by omega)
    exact ⟨.slice aoV l.length cV,by simp [h4,h5,hR1],by rw [hR1]; exact hx194,(hbw.trans (DStep.below hs199 HD.bp HD.base HD.ownLe))⟩
   ·refine zef H rfl rfl fun H=>zN (j192 ?_);refine zj H rfl (wp_skip (tn (j191 ?_)));refine zK H [0,1,6,8] rfl fun H=>y_reg (zm H rfl fun H=>y_loadRow Tryz.underlying50 rfl (tok_size _ rfl) H rfl hr197 rfl fun a H=>zC pf_ttok H rfl (Calls.mono (textToken_any hv196 (by omega) hF2.2.2) ?_));rintro e w202 ⟨rfl,hb202⟩;refine zR fun H=>?_;have hx203:=OwnX.below hx194 hb202;have hz204:=hb202.size;have hd207:=DW.below hd198 hb202;have hs208:=DStep.tB hs199 hb202;obtain ⟨q209,hq209⟩:∃ q,q = w202.heap.size:=⟨_,rfl⟩;refine y_oneTx H rfl rfl fun w209 hr209 hb209 hs209 a H=>?_;rw [←hq209] at H hr209;have hx210:=OwnX.below hx203 hb209;have hz211:=hb209.size;have hd214:=DW.below hd207 hb209;have hs215:=DStep.tB hs208 hb209;refine y_appTx (t:=s1.tok) H rfl hx210 rfl hr209 (by omega) (by omega) rfl fun v216 w216 ha216 a H=>za H rfl fun H=>?_;have hgr:=ha216.grown
    have hk9:∀ k,Value.ownBlock v216 = some k→(Value.slice aoV l.length cV).ownBlock = some k∨w209.heap.size = k:=fun k hk=>by
     rcases ha216.lies with e | e
     ·exact .inl (by rw [←e]; exact hk)
     ·rw [e] at hk; injection hk with hk; exact .inr hk
    have hlx:=OwnX.lt hx210;have hol:=DW.ownLt hd214;have hvb:Below B w209 w216:=⟨hgr.os,hgr.tape,hgr.output,hgr.size,fun k hk=>hgr.block k (by omega) (fun e=>by have:=(hlx k e.symm).1; omega)⟩
    have hk1:s1.tok.kind≠1:=by omega
    have hkk:=hF1.2.2.2.2.1 hk1;have hgz:=hgr.size;obtain ⟨aoW,cW,hvW⟩:=ha216.own.slice
    have hdW:=DW.kept hd214 hgr.size (hgr.block p (DW.lt hd214) (fun e=>hn1 e.symm)) (hgr.block g (DW.gl hd214) (fun e=>hn2 e.symm)) (World.ownsRow.kept (DW.own hd214) hgr (by
      cases hk:Value.ownBlock _ with
      | none=>exact .inl rfl
      | some k=>exact .inr (fun e=>hnk173 k e.symm hk))) (fun k hk h9=>hgr.block k hk (fun e=>by have:=(hlx k e.symm).1; have:=HD.b9; omega))
    refine wpList_nil (bn (tn (⟨⟨s1,l++[s1.tok],_,_,_,_,v216,f,H.c,hdW,ha216.own,?_,?_,?_,hF1.1,hF1.2.1.trans hbad,hF2.1,?_,?_,?_,?_⟩,?_⟩)))
    ·intro e
     rcases hk9 p e with e | e
     ·exact hn1 e
     ·omega
    ·intro e
     rcases hk9 g e with e | e
     ·exact hn2 e
     ·omega
    ·intro k hk e
     rcases hk9 k hk with h | h
     ·exact hnk173 k h e
     ·have:=hol k e; omega
    ·simp only [List.length_append,List.length_cons,List.length_nil]; omega
    ·rw [←hrun]; exact (run_more hpk hbad hle hS hk1).symm
    ·omega
    ·exact (hbw.trans (DStep.below hs215 HD.bp HD.base HD.ownLe)).trans hvb
    ·have h2:=(congrArg slenT (H.ev (x:=.tmp 6) rfl)).trans (congrArg slenT hvW);have h1:=HE.out
     show bs.length+1 - slenT _ < bs.length+1 - slenT _
     rw [h1,h2];simp only [slenT,List.length_append,List.length_cons,List.length_nil];omega
end Go.Proofs.YtgdnpnipahegaaaGreatDoor
namespace Go.Proofs.YtgdnpnipahegaaaGreatDoor
open Go.ChangeShapes Go.WideShapes Go.ChangeAt Go.RowKit
def Copied (bs:List UInt8) (w:World) (e:Ending) (w':World):Prop:=∃ v g,e = .returned v∧View w' g v bs∧w.heap.size≤g∧g < w'.heap.size∧Below w.heap.size w w'
theorem View.any {w:World} {g g':Nat} {v:Value} (h:View w g v []):View w g' v []:=by
 obtain ⟨ao,cap,hv,h1,h2,hn0,off,h3,h4⟩:=h;exact ⟨ao,cap,hv,h1,h2,hn0,off,fun h=>absurd rfl h,fun j hj=>by simp at hj⟩
set_option maxRecDepth 100000 in
theorem copied_any (v:Value) (bs:List UInt8) (g:Nat) (w:World) (hv:View w g v bs) (hm:bs.length≤100000000) :
  Calls Tryz.prog 14 #[v] w (Copied bs w):=by
 have hb0:=(Below.refl w.heap.size w).alloc (Nat.le_refl _) (.cells #[] 5);have hv1:=hv.alloc (.cells #[] 5);have ho1:OwnB (w.alloc (.cells #[] 5)) w.heap.size 5 (.slice (some ⟨w.heap.size,0,none⟩) 0 0) []:=
  ⟨by simp [byteCells],.inr ⟨w.heap.size,0,#[],rfl,Nat.le_refl _,heap_alloc_new w _,Nat.le_refl _,by simp,rfl,rfl⟩⟩
 go_enter Tryz.func14,Tryz.ntmps14
 go_wp2_with (at_builtin; refine wpList_append_view _ rfl _ _ 22 rfl _ 5 Tryz.underlying22 info5u _ _ rfl ho1 hb0 (Nat.le_refl _) _ _ _ rfl hv1 (by simp; omega) ?_; intro v1 w1 hown1 hb1 hsz1)
 go_ret
 rw [List.nil_append] at hown1;obtain ⟨g1,hv2,hg1⟩:=hown1.view
 by_cases hne:bs = []
 ·subst hne;have hz:=hb0.size;exact ⟨_,w.heap.size,rfl,hv2.any,Nat.le_refl _,by have:=hsz1.size; rw [size_allocT] at this; omega,hb1⟩
 ·rcases hown1.2 with ⟨_,h0⟩ | ⟨g2,cap,cur,rfl,h1,h2,_⟩
  ·exact absurd (List.eq_nil_of_length_eq_zero h0) hne
  ·have e:=hg1 g2 rfl;exact ⟨_,g1,rfl,hv2,by omega,hv2.lt hne,hb1⟩
theorem OwnX.low {w:World} {B B':Nat} {v:Value} {l:List TT} (h:OwnX w B v l) (hb:B'≤B):OwnX w B' v l:=by
 refine ⟨h.1,?_⟩
 rcases h.2 with hn | ⟨q,cap,cur,rfl,h1,rest⟩
 ·exact .inl hn
 ·exact .inr ⟨q,cap,cur,rfl,by omega,rest⟩
theorem XRes.low {B:Nat} {R:List TT × Bool} {w0 w w':World} {e:Ending} (h:XRes B R w0 e w') (h0:Below w.heap.size w w0) (hb:w.heap.size≤B):XRes w.heap.size R w e w':=by
 obtain ⟨v,h1,h2,h3⟩:=h;exact ⟨v,h1,h2.low hb,h0.trans (h3.mono hb)⟩
theorem newRead {p g:Nat} {bs:List UInt8} {v:Value} {w:World} (ps:List Bool) (vpk:Value) (h:DW p p g bs (.slice none 0 0) .nilIface (.slice none 0 0) v v DT.new w) (hm:bs.length≤10000000) (hps:BView w p vpk ps) (hpl:ps.length≤2147483647) :
  Calls Tryz.prog 12 #[.pointer (some ⟨p,0,none⟩),vpk] w (XRes p (allT bs ps) w):=
 textRead_any ps vpk h hm DOk2.new rfl rfl hps hpl
set_option maxRecDepth 100000 in
theorem textTokens_any (v:Value) (bs:List UInt8) (g:Nat) (w:World) (hv:View w g v bs) (hm:bs.length≤10000000) (hgl:Glob w) (h9:9≤w.heap.size) :
  Calls Tryz.prog 7 #[v] w (XRes w.heap.size (allT bs []) w):=by
 obtain ⟨ao,n,c,rfl⟩:=hv.slice3;have HV:=hid hv;have HG:=hid hgl;clear hv hgl
 go_enter Tryz.func7,Tryz.ntmps7
 go_wp2_with (first
  | (go_at_call 14; refine (copied_any _ bs g _ HV.out (by omega)).mono ?_; rintro e w1 ⟨v1,g1,rfl,hv1,hg1,hl1,hb1⟩; obtain ⟨ao1,n1,c1,rfl⟩:=hv1.slice3; have HV1:=hid hv1; have HB1:=hid hb1; have hz1:=hb1.size; clear hv1 hb1)
  | (go_at_call 13; refine (newDecoder_any _ bs g1 _ HV1.out hl1 (HG.out.below HB1.out) (by omega)).mono ?_; rintro e w2 ⟨rfl,hd2,hb2⟩; have HD2:=hid hd2; have HB2:=hid hb2; clear hd2 hb2)
  | (go_at_call 12; refine (newRead [] _ HD2.out hm (BView.nil _ _) (Nat.zero_le _)).mono ?_; rintro e w3 ⟨v3,rfl,ho3,hb3⟩)
  | fail)
 go_ret2
 have h3:XRes w1.heap.size (allT bs []) w2 (.returned (.tuple #[v3,.bool (allT bs []).2])) w3:=⟨v3,rfl,ho3,hb3⟩;exact h3.low (below_comp HB1.out HB2.out) hz1
set_option maxRecDepth 100000 in
theorem textPeeks_any (v vpk:Value) (bs:List UInt8) (ps:List Bool) (g:Nat) (w:World) (hv:View w g v bs) (hps:BView w w.heap.size vpk ps) (hpl:ps.length≤2147483647) (hm:bs.length≤10000000) (hgl:Glob w) (h9:9≤w.heap.size) :
  Calls Tryz.prog 8 #[v,vpk] w (XRes w.heap.size (allT bs ps) w):=by
 obtain ⟨ao,n,c,rfl⟩:=hv.slice3;have HV:=hid hv;have HG:=hid hgl;have HP:=hid hps
 obtain ⟨aoP,cP,rfl⟩:∃ ao c,vpk = .slice ao ps.length c:=by obtain ⟨ao,c,e,_⟩:=hps; exact ⟨ao,c,e⟩
 clear hv hgl hps
 go_enter Tryz.func8,Tryz.ntmps8
 go_wp2_with (first
  | (go_at_call 14; refine (copied_any _ bs g _ HV.out (by omega)).mono ?_; rintro e w1 ⟨v1,g1,rfl,hv1,hg1,hl1,hb1⟩; obtain ⟨ao1,n1,c1,rfl⟩:=hv1.slice3; have HV1:=hid hv1; have HB1:=hid hb1; have hz1:=hb1.size; clear hv1 hb1)
  | (go_at_call 13; refine (newDecoder_any _ bs g1 _ HV1.out hl1 (HG.out.below HB1.out) (by omega)).mono ?_; rintro e w2 ⟨rfl,hd2,hb2⟩; have HD2:=hid hd2; have HB2:=hid hb2; clear hd2 hb2)
  | (go_at_call 12; refine (newRead ps _ HD2.out hm (((HP.out.below HB1.out).mono hz1).below HB2.out) hpl).mono ?_; rintro e w3 ⟨v3,rfl,ho3,hb3⟩)
  | fail)
 go_ret2
 have h3:XRes w1.heap.size (allT bs ps) w2 (.returned (.tuple #[v3,.bool (allT bs ps).2])) w3:=⟨v3,rfl,ho3,hb3⟩;exact h3.low (below_comp HB1.out HB2.out) hz1
end Go.Proofs.YtgdnpnipahegaaaGreatDoor
namespace Go.Proofs.YtgdnpnipahegaaaGreatDoor
open Go.ChangeShapes Go.WideShapes Go.ChangeAt Go.RowKit
theorem txCells_at:∀ (l:List TT) (i q:Nat) (h:i < l.length),q < 6→(l.flatMap txCells)[i * 6+q]? = (txCells l[i])[q]?
 | [],i,q,h,_=>by simp at h
 | t::l,0,q,h,hq=>by
  rw [List.flatMap_cons,List.getElem?_append_left (by simp [txCells]; omega)];simp
 | t::l,i+1,q,h,hq=>by
  rw [List.flatMap_cons,List.getElem?_append_right (by simp [txCells]; omega)]
  have e:(i+1) * 6+q - (txCells t).length = i * 6+q:=by simp [txCells]; omega
  rw [e,txCells_at l i q (by simpa using h) hq];simp
theorem OwnX.cells {w:World} {B:Nat} {v:Value} {l:List TT} (h:OwnX w B v l):∃ ao cap,v = .slice ao l.length cap∧∀ i (hi:i < l.length),∃ g,ao = some ⟨g,0,none⟩∧g < w.heap.size∧∀ q,q < 6→w.cell? ⟨g,i * 6+q,none⟩ = (txCells l[i])[q]?:=by
 by_cases hne:l = []
 ·obtain ⟨ao,c,rfl⟩:=h.slice;exact ⟨ao,c,rfl,fun i hi=>by rw [hne] at hi; simp at hi⟩
 ·have hl:0 < l.length:=List.length_pos_iff.2 hne;obtain ⟨g,cap,rfl,hB,hlt⟩:=World.ownsRow.form h hl;refine ⟨_,cap,rfl,fun i hi=>⟨g,rfl,hlt,fun q hq=>?_⟩⟩;have h1:=txCells_at l i q hi hq
  have hq':q < (txCells l[i]).length:=by simpa [txCells] using hq
  rw [List.getElem?_eq_getElem hq'] at h1 ⊢;have h2:=World.ownsRow.cells h (g:=g) rfl _ _ h1;rwa [Addr.add_lit,Nat.zero_add] at h2
end Go.Proofs.YtgdnpnipahegaaaGreatDoor
namespace Go.Proofs.YtgdnpnipahegaaaGreatDoor
theorem numB_one (c f:UInt8) (y:List UInt8):numB (c::f::y) = if c.toNat = 48 then (if f.toNat = 120∨f.toNat = 88 then nHex y else if isOct f then nOct y else nRest 0 1 (f::y))
  else if 49≤c.toNat∧c.toNat≤57 then nRest 0 (1+runN isDg (f::y)) ((f::y).drop (runN isDg (f::y)))
  else if c.toNat = 46 then nRest 4 0 (c::f::y) else none:=rfl
theorem del_facts {d:UInt8} (h:delC d = true):letT d = false∧isDg d = false∧idC d = false∧isHex d = false∧isOct d = false∧isE d = false∧isF d = false∧isPM d = false∧d.toNat≠46∧d.toNat≠45∧d.toNat≠120∧d.toNat≠88:=by
 unfold delC at h;simp at h
 have hl:letT d = false:=by unfold letT; simp; omega
 have hd:isDg d = false:=by unfold isDg; simp; omega
 refine ⟨hl,hd,by unfold idC; rw [hl,hd]; try rfl,by unfold isHex; simp; omega,by unfold isOct; simp; omega,by unfold isE; simp; omega,by unfold isF; simp; omega,by unfold isPM; simp; omega,by omega,by omega,by omega,by omega⟩
theorem del_blank:delC 32 = true:=by decide
theorem runN_loc {p:UInt8→Bool} {d:UInt8} (h:p d = false) (r:List UInt8):∀ x:List UInt8,runN p (x++d::r) = runN p x
 | []=>by rw [List.nil_append,runN_cons,h]; try rfl
 | c::x=>by rw [List.cons_append,runN_cons,runN_cons,runN_loc h r x]
theorem drop_loc (x:List UInt8) (y:List UInt8) {n:Nat} (h:n≤x.length):(x++y).drop n = x.drop n++y:=List.drop_append_of_le_length h
theorem endT_loc {d e:UInt8} (hd:delC d = true) (he:delC e = true) (r s:List UInt8) (x:List UInt8):endT (x++d::r) = endT (x++e::s):=by
 cases x with
 | nil=>show delC d = delC e; rw [hd,he]
 | cons c x=>rfl
section
variable {d:UInt8}
theorem identP_loc (hd:delC d = true) (r:List UInt8) (x:List UInt8):identP (x++d::r) = identP (x++[32]):=by
 obtain ⟨a1,a2,a3,_⟩:=del_facts hd;obtain ⟨b1,b2,b3,_⟩:=del_facts del_blank
 cases x with
 | nil=>rw [List.nil_append,List.nil_append,identP_cons,identP_cons,a1,b1]; try rfl
 | cons c x=>
  have hl:=runN_le idC x;rw [List.cons_append,List.cons_append,identP_cons,identP_cons,runN_loc a3,runN_loc b3,drop_loc _ _ hl,drop_loc _ _ hl,endT_loc hd del_blank r []]
theorem identT_loc (hd:delC d = true) (r:List UInt8) (neg:Bool) (x:List UInt8):identT neg (x++d::r) = identT neg (x++[32]):=by
 obtain ⟨a1,a2,a3,a4,a5,a6,a7,a8,a9,a10,a11,a12⟩:=del_facts hd
 cases x with
 | nil=>
  have e1:(d.toNat == 45) = false:=by simp; omega
  rw [List.nil_append,List.nil_append,identT_cons,identT_cons,e1,Bool.and_false,if_neg (by simp),if_neg (by simp)];exact identP_loc hd r []
 | cons c x=>
  have h2:=identP_loc hd r (c::x);rw [List.cons_append,List.cons_append] at h2 ⊢;rw [identT_cons,identT_cons,identP_loc hd r x,h2]
theorem nFrac_loc (hd:delC d = true) (r:List UInt8) (k:Nat) (x:List UInt8):nFrac k (x++d::r) = nFrac k (x++[32])∧∀ k1 n1,nFrac k (x++[32]) = some (k1,n1)→n1≤x.length:=by
 obtain ⟨a1,a2,a3,a4,a5,a6,a7,a8,a9,a10,a11,a12⟩:=del_facts hd;obtain ⟨b1,b2,b3,b4,b5,b6,b7,b8,b9,b10,b11,b12⟩:=del_facts del_blank
 cases x with
 | nil=>
  have e1:nFrac k ([]++d::r) = some (k,0):=by show (if d.toNat = 46 then _ else _) = _; rw [if_neg a9]
  have e2:nFrac k ([]++[32]) = some (k,0):=by show (if (32:UInt8).toNat = 46 then (if ([]:List UInt8) = []∧k = 4 then none else some (4,1+runN isDg [])) else some (k,0)) = _; rw [if_neg b9]
  rw [e1,e2];exact ⟨rfl,fun k1 n1 h=>by cases h; exact Nat.zero_le _⟩
 | cons c x=>
  have e:∀ y,nFrac k (c::x++y) = if c.toNat = 46 then (if x++y = []∧k = 4 then none else some (4,1+runN isDg (x++y))) else some (k,0):=fun y=>rfl
  rw [e,e,runN_loc a2,runN_loc b2,if_neg (show ¬ (x++d::r = []∧k = 4) by simp),if_neg (show ¬ (x++[32] = []∧k = 4) by simp)];refine ⟨rfl,fun k1 n1 h=>?_⟩;have:=runN_le isDg x
  split at h
  ·cases h; simp; omega
  ·cases h; simp
theorem nExp_loc (hd:delC d = true) (r:List UInt8) (k:Nat) (x:List UInt8):nExp k (x++d::r) = nExp k (x++[32])∧∀ k1 n1,nExp k (x++[32]) = some (k1,n1)→n1≤x.length:=by
 obtain ⟨a1,a2,a3,a4,a5,a6,a7,a8,a9,a10,a11,a12⟩:=del_facts hd;obtain ⟨b1,b2,b3,b4,b5,b6,b7,b8,b9,b10,b11,b12⟩:=del_facts del_blank
 have e:∀ (c f:UInt8) (y:List UInt8),nExp k (c::f::y) = if isE c then (if isPM f then (if y = [] then none else some (4,2+runN isDg y)) else some (4,1+runN isDg (f::y))) else some (k,0):=fun c f y=>rfl
 match x with
 | []=>
  refine ⟨?_,fun k1 n1 h=>by cases h; exact Nat.zero_le _⟩
  cases r with
  | nil=>rfl
  | cons f r=>rw [List.nil_append,e,a6]; try rfl
 | [c]=>
  rw [List.singleton_append,List.singleton_append,e,e,a8,b8,runN_cons,runN_cons,a2,b2];refine ⟨rfl,fun k1 n1 h=>?_⟩
  split at h <;> cases h <;> simp
 | c::f::x=>
  have hl:=runN_le isDg x;have hl2:=runN_le isDg (f::x);have h1:=runN_loc a2 r (f::x);have h2:=runN_loc b2 [] (f::x);rw [List.cons_append] at h1 h2;rw [List.cons_append,List.cons_append,List.cons_append,List.cons_append,e,e,if_neg (show ¬ x++d::r = [] by simp),if_neg (show ¬ x++[32] = [] by simp),runN_loc a2,runN_loc b2,h1,h2];refine ⟨rfl,fun k1 n1 h=>?_⟩;simp only [List.length_cons] at hl2 ⊢
  split at h
  ·split at h <;> cases h <;> omega
  ·cases h; omega
theorem nSuf_loc (hd:delC d = true) (r:List UInt8) (k:Nat) (x:List UInt8):nSuf k (x++d::r) = nSuf k (x++[32])∧(nSuf k (x++[32])).2≤x.length:=by
 obtain ⟨a1,a2,a3,a4,a5,a6,a7,a8,a9,a10,a11,a12⟩:=del_facts hd
 cases x with
 | nil=>
  have e1:nSuf k ([]++d::r) = (k,0):=by show (if isF d then (4,1) else (k,0)) = _; rw [a7]; try rfl
  rw [e1];exact ⟨rfl,Nat.le_refl _⟩
 | cons c x=>
  refine ⟨rfl,?_⟩
  show (if isF c then (4,1) else (k,0):Nat × Nat).2≤_
  split <;> simp
theorem nRest_loc (hd:delC d = true) (r:List UInt8) (k n:Nat) (x:List UInt8):nRest k n (x++d::r) = nRest k n (x++[32]):=by
 obtain ⟨h1,h2⟩:=nFrac_loc hd r k x;unfold nRest;rw [h1]
 rcases hf:nFrac k (x++[32]) with _ | ⟨k1,n1⟩
 ·rfl
 ·have hn1:=h2 _ _ hf;obtain ⟨h3,h4⟩:=nExp_loc hd r k1 (x.drop n1);simp only;rw [drop_loc _ _ hn1,drop_loc _ _ hn1,h3]
  rcases he:nExp k1 (x.drop n1++[32]) with _ | ⟨k2,n2⟩
  ·rfl
  ·have hn2:=h4 _ _ he;simp only [List.length_drop] at hn2
   have h12:n1+n2≤x.length:=by omega
   obtain ⟨h5,h6⟩:=nSuf_loc hd r k2 (x.drop (n1+n2));simp only;rw [drop_loc _ _ h12,drop_loc _ _ h12,h5];simp only [List.length_drop] at h6
   have h13:n1+n2+(nSuf k2 (x.drop (n1+n2)++[32])).2≤x.length:=by omega
   rw [drop_loc _ _ h13,drop_loc _ _ h13,endT_loc hd del_blank r []]
theorem nHex_loc (hd:delC d = true) (r:List UInt8) (x:List UInt8):nHex (x++d::r) = nHex (x++[32]):=by
 obtain ⟨a1,a2,a3,a4,a5,a6,a7,a8,a9,a10,a11,a12⟩:=del_facts hd;obtain ⟨b1,b2,b3,b4,b5,b6,b7,b8,b9,b10,b11,b12⟩:=del_facts del_blank;have hl:=runN_le isHex x;unfold nHex;rw [runN_loc a4,runN_loc b4,drop_loc _ _ hl,drop_loc _ _ hl,endT_loc hd del_blank r []]
theorem nOct_loc (hd:delC d = true) (r:List UInt8) (x:List UInt8):nOct (x++d::r) = nOct (x++[32]):=by
 obtain ⟨a1,a2,a3,a4,a5,a6,a7,a8,a9,a10,a11,a12⟩:=del_facts hd;obtain ⟨b1,b2,b3,b4,b5,b6,b7,b8,b9,b10,b11,b12⟩:=del_facts del_blank;have hl:=runN_le isOct x;unfold nOct;rw [runN_loc a5,runN_loc b5,drop_loc _ _ hl,drop_loc _ _ hl,endT_loc hd del_blank r []]
theorem numB_loc (hd:delC d = true) (r:List UInt8) (x:List UInt8):numB (x++d::r) = numB (x++[32]):=by
 obtain ⟨a1,a2,a3,a4,a5,a6,a7,a8,a9,a10,a11,a12⟩:=del_facts hd;obtain ⟨b1,b2,b3,b4,b5,b6,b7,b8,b9,b10,b11,b12⟩:=del_facts del_blank
 have hdn:∀ (f:UInt8),isDg f = false→f.toNat≠46→∀ s,numB (f::s) = none:=by
  intro f hf h46 s;unfold isDg at hf;simp at hf
  have:numB (f::s) = if f.toNat = 48 then (match s with
   | []=>nRest 0 1 []
   | d::r2=>if d.toNat = 120∨d.toNat = 88 then nHex r2 else if isOct d then nOct r2 else nRest 0 1 (d::r2))
  else if 49≤f.toNat∧f.toNat≤57 then nRest 0 (1+runN isDg s) (s.drop (runN isDg s))
  else if f.toNat = 46 then nRest 4 0 (f::s) else none:=rfl
  rw [this,if_neg (by omega),if_neg (by omega),if_neg h46]
 match x with
 | []=>rw [List.nil_append,List.nil_append,hdn d a2 a9,hdn 32 b2 b9]
 | [c]=>
  rw [List.singleton_append,List.singleton_append,numB_one,numB_one,if_neg (show ¬ (d.toNat = 120∨d.toNat = 88) by omega),if_neg (show ¬ ((32:UInt8).toNat = 120∨(32:UInt8).toNat = 88) by decide),a5,b5,runN_cons,runN_cons,a2,b2];have h1:=nRest_loc hd r 0 1 [];have h2:=nRest_loc hd r 0 (1+0) [];have h3:=nRest_loc hd r 4 0 [c];simp only [List.nil_append,List.singleton_append] at h1 h2 h3;simp only [Bool.false_eq_true,if_false,List.drop_zero];simp only [Nat.add_zero] at h2 ⊢;rw [h1,h3]
 | c::f::x=>
  have hl2:=runN_le isDg (f::x);have h1:=runN_loc a2 r (f::x);have h2:=runN_loc b2 [] (f::x);have e1:=drop_loc (f::x) (d::r) hl2;have e2:=drop_loc (f::x) [32] hl2;have h3:=nRest_loc hd r 0 1 (f::x);have h4:=nRest_loc hd r 0 (1+runN isDg (f::x)) ((f::x).drop (runN isDg (f::x)));have h5:=nRest_loc hd r 4 0 (c::f::x);rw [List.cons_append] at h1 h2 e1 e2;simp only [List.cons_append] at h3 h4 h5 ⊢;rw [numB_one,numB_one,h1,h2,e1,e2,h3,h4,h5,nHex_loc hd r,nOct_loc hd r]
end
end Go.Proofs.YtgdnpnipahegaaaGreatDoor
namespace Go.Proofs.YtgdnpnipahegaaaGreatDoor
theorem u8take_take:∀ (k acc v:Nat) (l r:List UInt8),u8take k acc l = some v→u8take k acc (l.take k++r) = some v
 | 0,_,_,_,_,h=>h
 | k+1,acc,v,[],_,h=>by simp [u8take] at h
 | k+1,acc,v,c::l,r,h=>by
  unfold u8take at h;simp only [List.take_succ_cons,List.cons_append];unfold u8take
  split at h
  ·rename_i hc; rw [if_pos hc]; exact u8take_take k _ v l r h
  ·cases h
theorem u8char_take {l r:List UInt8} {c n:Nat} (h:u8char l = some (c,n)):u8char (l.take n++r) = some (c,n):=by
 have hs:=u8char_size h
 cases l with
 | nil=>cases h
 | cons b l=>
  obtain ⟨n,rfl⟩:∃ m,n = m+1:=⟨n - 1,by omega⟩;simp only [List.take_succ_cons,List.cons_append];rw [u8char_cons] at h ⊢
  by_cases h1:b.toNat < 128
  ·rw [if_pos h1] at h ⊢; exact h
  ·rw [if_neg h1] at h ⊢
   rcases hh:u8head b.toNat with _ | ⟨k,least,first⟩
   ·rw [hh] at h; cases h
   ·rw [hh] at h;simp only at h ⊢
    rcases ht:u8take k first l with _ | v'
    ·rw [ht] at h; cases h
    ·rw [ht] at h;simp only at h
     split at h
     ·rename_i hok
      simp only [Option.some.injEq,Prod.mk.injEq] at h;obtain ⟨rfl,hk⟩:=h
      obtain rfl:k = n:=by omega
      rw [u8take_take _ _ _ _ r ht];simp only;rw [if_pos hok]
     ·cases h
end Go.Proofs.YtgdnpnipahegaaaGreatDoor
namespace Go.Proofs.YtgdnpnipahegaaaGreatDoor
def okB:Bool→List UInt8→Bool
 | b,[]=>!b
 | true,c::l=>okB (c.toNat != 10) l
 | false,c::l=>if blankT c then okB false l else if c.toNat = 35 then okB true l else false
theorem skT_okB:∀ (b:Bool) (x y:List UInt8),okB b x = true→skT b (x++y) = x.length+skT false y
 | b,[],y,h=>by
  cases b with
  | false=>simp
  | true=>simp [okB] at h
 | true,c::l,y,h=>by
  rw [List.cons_append,skT_true,skT_okB _ l y h,List.length_cons]; omega
 | false,c::l,y,h=>by
  rw [List.cons_append,skT_false];unfold okB at h
  split
  ·rename_i hc
   rw [if_pos hc] at h;rw [skT_okB _ l y h,List.length_cons]; omega
  ·rename_i hc
   rw [if_neg hc] at h
   split
   ·rename_i h35
    rw [if_pos h35] at h;rw [skT_okB _ l y h,List.length_cons]; omega
   ·rename_i h35
    rw [if_neg h35] at h; cases h
theorem blanks_ok:(blankAny++blankSome++signTab).all (okB false) = true:=by decide
theorem blk_of {x:List UInt8} (h:x ∈ blankAny++blankSome++signTab) (y:List UInt8):skT false (x++y) = x.length+skT false y:=skT_okB _ x y (List.all_eq_true.1 blanks_ok x h)
theorem getDL_mem {tab:List (List UInt8)} {n:Nat} (h:n < tab.length):tab.getD n [] ∈ tab:=by
 rw [List.getD_eq_getElem?_getD,List.getElem?_eq_getElem h]; exact List.getElem_mem h
theorem pickL_lt (ps:List UInt8) (k n:Nat) (hn:0 < n):pickT ps k n < n:=by
 unfold pickT
 split
 ·exact hn
 ·exact Nat.mod_lt _ hn
def Blk (x:List UInt8):Prop:=∀ y,skT false (x++y) = x.length+skT false y
theorem Blk.nil:Blk []:=fun y=>by simp
theorem oneW_out (ps:List UInt8) (tab:List (List UInt8)) (s:WS) (h:0 < tab.length):∃ x ∈ tab,(oneW ps tab s).out = s.out++x∧(oneW ps tab s).l = s.l∧(oneW ps tab s).left = s.left:=
 ⟨_,getDL_mem (pickL_lt ps s.k tab.length h),rfl,rfl,rfl⟩
theorem blanksW_out (ps:List UInt8) (b:Bool) (s:WS):∃ x,Blk x∧(blanksW ps b s).out = s.out++x∧(blanksW ps b s).l = s.l∧(blanksW ps b s).left = s.left∧(b = true→∃ c y,x = c::y∧(blankT c = true∨c.toNat = 35)):=by
 cases b with
 | false=>
  obtain ⟨x,hx,h⟩:=oneW_out ps blankAny s (by decide);exact ⟨x,blk_of (by simp [hx]),h.1,h.2.1,h.2.2,fun h=>by cases h⟩
 | true=>
  obtain ⟨x,hx,h⟩:=oneW_out ps blankSome s (by decide)
  have:blankSome.all (fun x=>match x with
   | []=>false
   | c::_=>blankT c || c.toNat == 35) = true:=by decide
  have hh:=List.all_eq_true.1 this x hx;refine ⟨x,blk_of (by simp [hx]),h.1,h.2.1,h.2.2,fun _=>?_⟩
  cases x with
  | nil=>cases hh
  | cons c y=>exact ⟨c,y,rfl,by simpa using hh⟩
theorem skT_stop {c:UInt8} {l:List UInt8} (h1:blankT c = false) (h2:c.toNat≠35):skT false (c::l) = 0:=by rw [skT_false,h1,if_neg (by simp),if_neg h2]
theorem csT_stop {c:UInt8} {l:List UInt8} (h1:blankT c = false) (h2:c.toNat≠35):csT (c::l) = c::l:=by unfold csT; rw [skT_stop h1 h2]; try rfl
theorem csT_blk {x:List UInt8} (h:Blk x) (y:List UInt8):csT (x++y) = csT y:=by
 unfold csT;rw [h,←List.drop_drop,List.drop_left]
theorem csT_blk2 {x x2:List UInt8} (h:Blk x) (h2:Blk x2):Blk (x++x2):=fun y=>by rw [List.append_assoc,h,h2,List.length_append]; omega
theorem endT_blk {x r:List UInt8} (h:Blk x) (hr:endT r = true):endT (x++r) = true:=by
 cases x with
 | nil=>exact hr
 | cons c x=>
  have h1:=h [];rw [List.append_nil,skT_false,skT_nil,List.length_cons] at h1
  show delC c = true
  by_cases hb:blankT c = true
  ·unfold blankT at hb;unfold delC;simp at hb ⊢;omega
  ·rw [if_neg hb] at h1
   by_cases h35:c.toNat = 35
   ·unfold delC; rw [h35]; try rfl
   ·rw [if_neg h35] at h1; omega
theorem ident_ends {neg:Bool} {x r:List UInt8} {n:Nat} (h0:identT neg x = n) (h1:identT neg (x++[32]) = n) (hr:endT r = true):identT neg (x++r) = n:=by
 cases r with
 | nil=>rw [List.append_nil]; exact h0
 | cons d r=>rw [identT_loc hr r neg x]; exact h1
theorem numB_ends {x r:List UInt8} {o:Option (Nat × Nat)} (h0:numB x = o) (h1:numB (x++[32]) = o) (hr:endT r = true):numB (x++r) = o:=by
 cases r with
 | nil=>rw [List.append_nil]; exact h0
 | cons d r=>rw [numB_loc hr r x]; exact h1
def okId (neg:Bool) (x:List UInt8):Bool:=identT neg x == x.length && identT neg (x++[32]) == x.length && (match x with
 | []=>false
 | c::_=>!(blankT c || c.toNat == 35 || c.toNat == 91 || c.toNat == 34 || c.toNat == 39 || c.toNat == 125 || c.toNat == 62 || c.toNat == 44 || c.toNat == 59 || c.toNat == 123 || c.toNat == 60 || c.toNat == 93 || c.toNat == 58))
theorem idNames_ok:idNames.all (okId false) = true:=by decide
theorem lits_ok:litTab.all (okId true) = true:=by decide
def Head (c:UInt8):Prop:=blankT c = false∧c.toNat≠35∧c.toNat≠91∧c.toNat≠34∧c.toNat≠39∧c.toNat≠125∧c.toNat≠62∧c.toNat≠44∧c.toNat≠59∧c.toNat≠123∧c.toNat≠60∧c.toNat≠93∧c.toNat≠58
theorem okId_out {neg:Bool} {x:List UInt8} (h:okId neg x = true):(∀ r,endT r = true→identT neg (x++r) = x.length)∧∃ c y,x = c::y∧Head c:=by
 unfold okId at h;simp only [Bool.and_eq_true,beq_iff_eq] at h;obtain ⟨⟨h1,h2⟩,h3⟩:=h;refine ⟨fun r hr=>ident_ends h1 h2 hr,?_⟩
 cases x with
 | nil=>cases h3
 | cons c y=>
  simp at h3;exact ⟨c,y,rfl,by unfold Head; simp [h3]⟩
def okNum (x:List UInt8):Bool:=((numB x).map (·.2) == some x.length) && (numB (x++[32]) == numB x) && (identT true x == 0) && (identT true (x++[32]) == 0) && (match x with
 | []=>false
 | c::_=>isDg c || c.toNat == 46)
theorem decs_ok:(decTab++hexTab++octTab).all okNum = true:=by decide +kernel
theorem flts_ok:(fltTab.all fun f=>expTab.all fun e=>sufTab.all fun s=>okNum (f++e++s)) = true:=by decide +kernel
theorem okNum_out {x:List UInt8} (h:okNum x = true):(∃ k,∀ r,endT r = true→numB (x++r) = some (k,x.length))∧(∀ r,endT r = true→identT true (x++r) = 0)∧∃ c y,x = c::y∧(isDg c = true∨c.toNat = 46):=by
 unfold okNum at h;simp only [Bool.and_eq_true,beq_iff_eq] at h;obtain ⟨⟨⟨⟨h1,h2⟩,h3⟩,h4⟩,h5⟩:=h
 rcases hb:numB x with _ | ⟨k,n⟩
 ·rw [hb] at h1; cases h1
 ·rw [hb] at h1 h2;simp at h1;subst h1;refine ⟨⟨k,fun r hr=>numB_ends hb h2 hr⟩,fun r hr=>ident_ends h3 h4 hr,?_⟩
  cases x with
  | nil=>cases h5
  | cons c y=>exact ⟨c,y,rfl,by simpa using h5⟩
def okFld (x:List UInt8):Bool:=(numB x == some (0,x.length)) && (numB (x++[32]) == some (0,x.length)) && (identT false x == 0) && (identT false (x++[32]) == 0) && decide (tenV 0 x≤2147483647) && (match x with
 | []=>false
 | c::_=>isDg c)
theorem fields_ok:numNames.all okFld = true:=by decide +kernel
end Go.Proofs.YtgdnpnipahegaaaGreatDoor
