/-
 The thin package's reading of the text form, walked: all tokens up to the end, or to an error.
-/
import Derived.Test.YtgdnpnipahegaaaGreatDoorQ9
import Derived.Test.YtgdnpnipahegaaaGreatDoorQ31
import Derived.Test.YtgdnpnipahegaaaGreatDoorQ6
import Derived.Deep.QuietTactic
import Derived.BigQuiet
namespace Go.Proofs.YtgdnpnipahegaaaGreatDoor
open Go.ChangeShapes Go.WideShapes Go.ChangeAt Go.RowKit
section
theorem pf_peek:Av Tryz.prog 18:=⟨_,Tryz.func18,by kernel_rfl,by kernel_rfl⟩
theorem N6:Av Tryz.prog 21:=⟨_,Tryz.func21,by kernel_rfl,by kernel_rfl⟩
def XRes (B:Nat) (R:List TT × Bool) (w0:World) (e:Ending) (w':World):Prop:=∃ v,e = .returned (.tuple #[v,.bool R.2])∧OwnX w' B v R.1∧Below B w0 w'
variable {B p g:Nat} {bs:List UInt8} {vr ve vst vo vi:Value} {s:DT} {w:World}
set_option maxRecDepth 100000 in
set_option maxHeartbeats 100000000 in
theorem NV (ps:List Bool) (vpk:Value) (h:DW B p g bs vr ve vst vo vi s w) (hm:bs.length≤10000000) (hok0:DOk2 s.st s.tok.kind s.k) (hpk0:s.peeked = false) (hbad0:s.bad = false) (hps:BView w B vpk ps) (hpl:ps.length≤2147483647) :
  Calls Tryz.prog 12 #[.pointer (some ⟨p,0,none⟩),vpk] w (XRes B (FE bs ps (bs.length+1) s []) w):=by
 obtain ⟨R,hrun0⟩:∃ R,FE bs ps (bs.length+1) s [] = R:=⟨_,rfl⟩;rw [hrun0]
 obtain ⟨aoP,cP,rfl⟩:∃ ao c,vpk = .slice ao ps.length c:=by obtain ⟨ao,c,e,_⟩:=hps; exact ⟨ao,c,e⟩
 refine enter2 (M:=41) Tryz.func12 rfl rfl rfl fun a H=>zr fun j1=>za H rfl fun H=>za H rfl fun H=>zN (j1 ?_);refine zr fun j2=>za H rfl fun H=>zN (j2 ?_);refine wp_block ?_
 refine wp_loop (fun a wx=>∃ (s:DT) (l:List TT) (vr ve vst vi v:Value) (f:Nat),Has 41 [] a [(0,.pointer (some ⟨p,0,none⟩)),(1,.slice aoP ps.length cP),(6,v)]∧DW B p g bs vr ve vst vo vi s wx∧OwnX wx B v l∧v.ownBlock≠some p∧v.ownBlock≠some g∧(∀ k,v.ownBlock = some k→vst.ownBlock≠some k)∧
   s.peeked = false∧s.bad = false∧DOk2 s.st s.tok.kind s.k∧l.length≤s.k∧FE bs ps f s l = R∧bs.length+1≤f+s.k∧Below B w wx) (fun a _=>bs.length+1 - BU (a.eval (.tmp 6))) ?_ ?_
 ·exact ⟨s,[],vr,ve,vst,vi,_,bs.length+1,H.c,h,OwnX.nil _ _,by simp [Value.ownBlock],by simp [Value.ownBlock],by simp [Value.ownBlock],hpk0,hbad0,hok0,Nat.zero_le _,hrun0,by omega,Below.refl _ _⟩
 clear h hpk0 hbad0 hok0 hrun0;clear H;rintro a wk ⟨s,l,vr,ve,vst,vi,vO,f,H,HD,hox,hn1,hn2,hn3,hpk,hbad,hok,hll,hrun,hf,hbw⟩;have hle:=HD.le;have Hs3:=H;obtain ⟨f,rfl⟩:∃ f1,f = f1+1:=⟨f - 1,by omega⟩;have H:=Hs3;have Hs4:=H;obtain ⟨aoV,cV,rfl⟩:=hox.slice;have H:=Hs4;have HE:=hid (congrArg BU (H.ev (x:=.tmp 6) rfl));have HL:=hox.lt;have hlp:=HD.lt;have hgl:=HD.gl;have hgp:g≠p:=HD.gp
 have h9:9≤wk.heap.size:=by have:=HD.base; have:=HD.b9; omega
 have hBk:=HD.base;have hs0:=DStep.refl p vst wk;have HPS:=hps.below hbw;refine wp_block (zs fun j5=>zr fun j6=>zm H rfl fun H=>C7 Tryz.underlying28 H rfl rfl fun a H=>za H rfl fun H=>zN (j6 ?_));refine zK H [0,1,6,7] rfl fun H=>zr fun j7=>zm H rfl fun H=>zm H rfl fun H=>C7 Tryz.underlying32 H rfl rfl fun a H=>?_
 by_cases q8:(((l.length:Nat):Int)) < (((ps.length:Nat):Int))
 ·refine zlt H rfl rfl fun H=>zm H rfl fun H=>zo H rfl (zm H rfl fun H=>zo H rfl (zm H rfl fun H=>zo H rfl (P1 H rfl rfl (BView.below HPS (Below.refl _ _)) (by omega) rfl fun a ad9 H hc9=>?_)));have Hs10:=H
  rcases hG:ps.getD l.length false with _ | _
  ·have H:=Hs10;rw [hG] at hc9;refine zo H rfl (zl Pk H rfl hc9 fun H=>zp H rfl rfl fun H=>zN (j7 ?_));refine zj H rfl (wp_skip (tn (j5 ?_)));refine zr fun j11=>zm H rfl fun H=>?_;have HP:=JT HD hm (fun _=>hok);have Hs13:=H
   rcases hS:Cx bs s with _ | s1
   ·have H:=Hs13;rw [hS] at HP;refine zC Gx H rfl (Calls.mono HP ?_);rintro e w12 ⟨⟨te,xe,v12,rfl,_,ao12,n12,c12,tk12,rfl⟩,vr12,ve12,vst12,vi12,s1,hd12,hp12,hds12⟩;refine zR fun H=>?_;have hx14:=OwnX.step hox hds12 hn1 hn3;have hnk15:=F9 hds12 hn3 (fun k hk=>(OwnX.lt hox k hk).2);have hz16:=DStep.size hds12;have hs17:=DStep.trans hs0 hds12
    have hR1:R = (l,false):=by rw [←hrun]; exact LU hpk hbad hle hS
    refine zm H rfl fun H=>zx H rfl rfl fun H=>zx H rfl rfl fun H=>?_;obtain ⟨q18,hq18⟩:∃ q,q = w12.heap.size:=⟨_,rfl⟩;refine Az Bj H rfl fun w18 hr18 hb18 hs18 a H=>?_;rw [←hq18] at H hr18;have hx19:=OwnX.below hx14 hb18;have hz20:=hb18.size;have hs22:=DStep.tB hs17 hb18;refine zT H rfl rfl hr18 fun {w24} hr24 hg24=>?_;have hx25:=OwnX.grownOther hx19 hg24 (fun k hk=>by have:=HL k hk; omega);have hz26:=hg24.size;have hs28:=DStep.tR hs22 hg24;refine za H rfl fun H=>zN (j11 ?_);refine zK H [0,1,6,8,9] rfl fun H=>zs fun j29=>zr fun j30=>zm H rfl fun H=>Br (b:=true) H rfl (.inr ⟨_,_,rfl,rfl⟩) rfl fun a H=>zN (j30 ?_);refine zi H rfl (zr fun j31=>zm H rfl fun H=>za H rfl fun H=>za H rfl fun H=>zN (j31 ?_));refine wp_ret (tr (br (tr (br (?_)))));have h4:=H.get 4 _ rfl;have h5:=H.get 5 _ rfl;refine bodyPost_ret (results_tmp2 rfl _ _ _) H.defers ?_;exact ⟨.slice aoV l.length cV,by simp [h4,h5,hR1],by rw [hR1]; exact hx25,(hbw.trans (DStep.below hs28 HD.bp HD.base HD.ownLe))⟩
   ·have H:=Hs13;rw [hS] at HP;refine zC Gx H rfl (Calls.mono HP ?_);rintro e w12 ⟨vt12,ve12,vst12,vi12,rfl,hd12,hds12⟩;have hvt12:=DW.raw hd12;have Hs32:=H;obtain ⟨ao12,n12,c12,rfl⟩:=View.slice3 hvt12;have H:=Hs32;refine zR fun H=>?_;have hx33:=OwnX.step hox hds12 hn1 hn3;have hnk34:=F9 hds12 hn3 (fun k hk=>(OwnX.lt hox k hk).2);have hz35:=DStep.size hds12;have hs36:=DStep.trans hs0 hds12
    have hF:Db bs s = some s1:=by rw [←CT hpk]; exact hS
    have hF1:=Io hF hle;have hF2:=Ip hF hle hok;refine zm H rfl fun H=>zx H rfl rfl fun H=>zx H rfl rfl fun H=>?_;obtain ⟨q37,hq37⟩:∃ q,q = w12.heap.size:=⟨_,rfl⟩;refine Az Bj H rfl fun w37 hr37 hb37 hs37 a H=>?_;rw [←hq37] at H hr37;have hx38:=OwnX.below hx33 hb37;have hz39:=hb37.size;have hv40:=View.below hvt12 hb37;have hd41:=DW.below hd12 hb37;have hs42:=DStep.tB hs36 hb37;have hov43:=DW.fresh (q:=q37) hd12 (by omega);refine zT H rfl rfl hr37 fun {w44} hr44 hg44=>?_;have hx45:=OwnX.grownOther hx38 hg44 (fun k hk=>by have:=HL k hk; omega);have hz46:=hg44.size;have hv47:=View.kg hv40 hg44;have hd48:=DW.gO hd41 hg44 hov43;have hs49:=DStep.tR hs42 hg44;refine za H rfl fun H=>zN (j11 ?_);refine zK H [0,1,6,8,9] rfl fun H=>zs fun j50=>zr fun j51=>zm H rfl fun H=>Br (b:=false) H rfl (.inl ⟨rfl,rfl⟩) rfl fun a H=>zN (j51 ?_);refine zj H rfl (wp_skip (tn (j50 ?_)));refine zs fun j52=>zr fun j53=>AV Tryz.underlying50 rfl (AP _ rfl) H rfl hr44 rfl fun a H=>zC G4 H rfl (Calls.mono (Er hv47) ?_);rintro e w54 ⟨rfl,hb54⟩;refine zR fun H=>?_;have hx55:=OwnX.below hx45 hb54;have hz56:=hb54.size;have hv57:=View.below hv47 hb54;have hr58:=RowAt.bl hr44 hb54;have hd59:=DW.below hd48 hb54;have hs60:=DStep.tB hs49 hb54
    by_cases q61:(((s1.tok.kind:Nat):Int)) = ((1:Int))
    ·refine zet H rfl rfl fun H=>zN (j53 ?_);refine zK H [0,1,6,8,34] rfl fun H=>zi H rfl (zr fun j62=>zm H rfl fun H=>za H rfl fun H=>za H rfl fun H=>zN (j62 ?_));refine wp_ret (tr (br (tr (br (?_)))));have h4:=H.get 4 _ rfl;have h5:=H.get 5 _ rfl;refine bodyPost_ret (results_tmp2 rfl _ _ _) H.defers ?_
     have hR1:R = (l,true):=by rw [←hrun]; exact N2 hpk hbad hle hS (by omega)
     exact ⟨.slice aoV l.length cV,by simp [h4,h5,hR1],by rw [hR1]; exact hx55,(hbw.trans (DStep.below hs60 HD.bp HD.base HD.ownLe))⟩
    ·refine zef H rfl rfl fun H=>zN (j53 ?_);refine zj H rfl (wp_skip (tn (j52 ?_)));refine zK H [0,1,6,8] rfl fun H=>Ac (zm H rfl fun H=>AV Tryz.underlying50 rfl (AP _ rfl) H rfl hr58 rfl fun a H=>zC N6 H rfl (Calls.mono (GN hv57 (by omega) hF2.2.2) ?_));rintro e w63 ⟨rfl,hb63⟩;refine zR fun H=>?_;have hx64:=OwnX.below hx55 hb63;have hz65:=hb63.size;have hd68:=DW.below hd59 hb63;have hs69:=DStep.tB hs60 hb63;obtain ⟨q70,hq70⟩:∃ q,q = w63.heap.size:=⟨_,rfl⟩;refine NI H rfl rfl fun w70 hr70 hb70 hs70 a H=>?_;rw [←hq70] at H hr70;have hx71:=OwnX.below hx64 hb70;have hz72:=hb70.size;have hd75:=DW.below hd68 hb70;have hs76:=DStep.tB hs69 hb70;refine NK (t:=s1.tok) H rfl hx71 rfl hr70 (by omega) (by omega) rfl fun v77 w77 ha77 a H=>za H rfl fun H=>?_;have hgr:=ha77.grown
     have hk9:∀ k,Value.ownBlock v77 = some k→(Value.slice aoV l.length cV).ownBlock = some k∨w70.heap.size = k:=fun k hk=>by
      rcases ha77.lies with e | e
      ·exact .inl (by rw [←e]; exact hk)
      ·rw [e] at hk; injection hk with hk; exact .inr hk
     have hlx:=OwnX.lt hx71;have hol:=DW.ownLt hd75;have hvb:Below B w70 w77:=⟨hgr.os,hgr.tape,hgr.output,hgr.size,fun k hk=>hgr.block k (by omega) (fun e=>by have:=(hlx k e.symm).1; omega)⟩
     have hk1:s1.tok.kind≠1:=by omega
     have hkk:=hF1.2.2.2.2.1 hk1;have hgz:=hgr.size;obtain ⟨aoW,cW,hvW⟩:=ha77.own.slice
     have hdW:=DW.kept hd75 hgr.size (hgr.block p (DW.lt hd75) (fun e=>hn1 e.symm)) (hgr.block g (DW.gl hd75) (fun e=>hn2 e.symm)) (World.ownsRow.kept (DW.own hd75) hgr (by
       cases hk:Value.ownBlock _ with
       | none=>exact .inl rfl
       | some k=>exact .inr (fun e=>hnk34 k e.symm hk))) (fun k hk h9=>hgr.block k hk (fun e=>by have:=(hlx k e.symm).1; have:=HD.b9; omega))
     refine wpList_nil (bn (tn (⟨⟨s1,l++[s1.tok],_,_,_,_,v77,f,H.c,hdW,ha77.own,?_,?_,?_,hF1.1,hF1.2.1.trans hbad,hF2.1,?_,?_,?_,?_⟩,?_⟩)))
     ·intro e
      rcases hk9 p e with e | e
      ·exact hn1 e
      ·omega
     ·intro e
      rcases hk9 g e with e | e
      ·exact hn2 e
      ·omega
     ·intro k hk e
      rcases hk9 k hk with h | h
      ·exact hnk34 k h e
      ·have:=hol k e; omega
     ·simp only [List.length_append,List.length_cons,List.length_nil]; omega
     ·rw [←hrun]; exact (LV hpk hbad hle hS hk1).symm
     ·omega
     ·exact (hbw.trans (DStep.below hs76 HD.bp HD.base HD.ownLe)).trans hvb
     ·have h2:=(congrArg BU (H.ev (x:=.tmp 6) rfl)).trans (congrArg BU hvW);have h1:=HE.out
      show bs.length+1 - BU _ < bs.length+1 - BU _
      rw [h1,h2];simp only [BU,List.length_append,List.length_cons,List.length_nil];omega
  ·have H:=Hs10;rw [hG] at hc9;refine zo H rfl (zl Pk H rfl hc9 fun H=>zp H rfl rfl fun H=>zN (j7 ?_));refine zK H [0,1,6,21] rfl fun H=>zi H rfl (Ac (zm H rfl fun H=>zC pf_peek H rfl (Calls.mono (To HD hm (fun _=>hok)) ?_)));rintro e w78 ⟨s78,vr78,ve78,vst78,vi78,rfl,hd78,hds78,hlk78⟩;refine zR fun H=>?_;have hx79:=OwnX.step hox hds78 hn1 hn3;have hnk80:=F9 hds78 hn3 (fun k hk=>(OwnX.lt hox k hk).2);have hz81:=DStep.size hds78;have hs82:=DStep.trans hs0 hds78;have hrd:Cx bs s78 = Cx bs s:=(Sd hlk78).trans (Kp hpk hbad hle)
   have hok2:s78.peeked = false→DOk2 s78.st s78.tok.kind s78.k:=fun h=>by rw [PA hlk78 (N8 bs s)] at h; cases h
   refine zN (j5 ?_);refine zr fun j83=>zm H rfl fun H=>?_;have HP:=JT hd78 hm hok2;rw [hrd] at HP;have Hs85:=H
   rcases hS:Cx bs s with _ | s1
   ·have H:=Hs85;rw [hS] at HP;refine zC Gx H rfl (Calls.mono HP ?_);rintro e w84 ⟨⟨te,xe,v84,rfl,_,ao84,n84,c84,tk84,rfl⟩,vr84,ve84,vst84,vi84,s1,hd84,hp84,hds84⟩;refine zR fun H=>?_;have hx86:=OwnX.step hx79 hds84 hn1 hnk80;have hnk87:=F9 hds84 hnk80 (fun k hk=>(OwnX.lt hx79 k hk).2);have hz88:=DStep.size hds84;have hs89:=DStep.trans hs82 hds84
    have hR1:R = (l,false):=by rw [←hrun]; exact LU hpk hbad hle hS
    refine zm H rfl fun H=>zx H rfl rfl fun H=>zx H rfl rfl fun H=>?_;obtain ⟨q90,hq90⟩:∃ q,q = w84.heap.size:=⟨_,rfl⟩;refine Az Bj H rfl fun w90 hr90 hb90 hs90 a H=>?_;rw [←hq90] at H hr90;have hx91:=OwnX.below hx86 hb90;have hz92:=hb90.size;have hs94:=DStep.tB hs89 hb90;refine zT H rfl rfl hr90 fun {w96} hr96 hg96=>?_;have hx97:=OwnX.grownOther hx91 hg96 (fun k hk=>by have:=HL k hk; omega);have hz98:=hg96.size;have hs100:=DStep.tR hs94 hg96;refine za H rfl fun H=>zN (j83 ?_);refine zs fun j101=>zr fun j102=>zm H rfl fun H=>Br (b:=true) H rfl (.inr ⟨_,_,rfl,rfl⟩) rfl fun a H=>zN (j102 ?_);refine zK H [0,1,6,8,30] rfl fun H=>zi H rfl (zr fun j103=>zm H rfl fun H=>za H rfl fun H=>za H rfl fun H=>zN (j103 ?_));refine wp_ret (tr (br (tr (br (?_)))));have h4:=H.get 4 _ rfl;have h5:=H.get 5 _ rfl;refine bodyPost_ret (results_tmp2 rfl _ _ _) H.defers ?_;exact ⟨.slice aoV l.length cV,by simp [h4,h5,hR1],by rw [hR1]; exact hx97,(hbw.trans (DStep.below hs100 HD.bp HD.base HD.ownLe))⟩
   ·have H:=Hs85;rw [hS] at HP;refine zC Gx H rfl (Calls.mono HP ?_);rintro e w84 ⟨vt84,ve84,vst84,vi84,rfl,hd84,hds84⟩;have hvt84:=DW.raw hd84;have Hs104:=H;obtain ⟨ao84,n84,c84,rfl⟩:=View.slice3 hvt84;have H:=Hs104;refine zR fun H=>?_;have hx105:=OwnX.step hx79 hds84 hn1 hnk80;have hnk106:=F9 hds84 hnk80 (fun k hk=>(OwnX.lt hx79 k hk).2);have hz107:=DStep.size hds84;have hs108:=DStep.trans hs82 hds84
    have hF:Db bs s = some s1:=by rw [←CT hpk]; exact hS
    have hF1:=Io hF hle;have hF2:=Ip hF hle hok;refine zm H rfl fun H=>zx H rfl rfl fun H=>zx H rfl rfl fun H=>?_;obtain ⟨q109,hq109⟩:∃ q,q = w84.heap.size:=⟨_,rfl⟩;refine Az Bj H rfl fun w109 hr109 hb109 hs109 a H=>?_;rw [←hq109] at H hr109;have hx110:=OwnX.below hx105 hb109;have hz111:=hb109.size;have hv112:=View.below hvt84 hb109;have hd113:=DW.below hd84 hb109;have hs114:=DStep.tB hs108 hb109;have hov115:=DW.fresh (q:=q109) hd84 (by omega);refine zT H rfl rfl hr109 fun {w116} hr116 hg116=>?_;have hx117:=OwnX.grownOther hx110 hg116 (fun k hk=>by have:=HL k hk; omega);have hz118:=hg116.size;have hv119:=View.kg hv112 hg116;have hd120:=DW.gO hd113 hg116 hov115;have hs121:=DStep.tR hs114 hg116;refine za H rfl fun H=>zN (j83 ?_);refine zs fun j122=>zr fun j123=>zm H rfl fun H=>Br (b:=false) H rfl (.inl ⟨rfl,rfl⟩) rfl fun a H=>zN (j123 ?_);refine zK H [0,1,6,8,30] rfl fun H=>zj H rfl (wp_skip (tn (j122 ?_)));refine zs fun j124=>zr fun j125=>AV Tryz.underlying50 rfl (AP _ rfl) H rfl hr116 rfl fun a H=>zC G4 H rfl (Calls.mono (Er hv119) ?_);rintro e w126 ⟨rfl,hb126⟩;refine zR fun H=>?_;have hx127:=OwnX.below hx117 hb126;have hz128:=hb126.size;have hv129:=View.below hv119 hb126;have hr130:=RowAt.bl hr116 hb126;have hd131:=DW.below hd120 hb126;have hs132:=DStep.tB hs121 hb126
    by_cases q133:(((s1.tok.kind:Nat):Int)) = ((1:Int))
    ·refine zet H rfl rfl fun H=>zN (j125 ?_);refine zi H rfl (zr fun j134=>zm H rfl fun H=>za H rfl fun H=>za H rfl fun H=>zN (j134 ?_));refine zK H [0,1,4,5,6,8] rfl fun H=>wp_ret (tr (br (tr (br (?_)))));have h4:=H.get 4 _ rfl;have h5:=H.get 5 _ rfl;refine bodyPost_ret (results_tmp2 rfl _ _ _) H.defers ?_
     have hR1:R = (l,true):=by rw [←hrun]; exact N2 hpk hbad hle hS (by omega)
     exact ⟨.slice aoV l.length cV,by simp [h4,h5,hR1],by rw [hR1]; exact hx127,(hbw.trans (DStep.below hs132 HD.bp HD.base HD.ownLe))⟩
    ·refine zef H rfl rfl fun H=>zN (j125 ?_);refine zj H rfl (wp_skip (tn (j124 ?_)));refine Ac (zm H rfl fun H=>AV Tryz.underlying50 rfl (AP _ rfl) H rfl hr130 rfl fun a H=>zC N6 H rfl (Calls.mono (GN hv129 (by omega) hF2.2.2) ?_));rintro e w135 ⟨rfl,hb135⟩;refine zR fun H=>?_;have hx136:=OwnX.below hx127 hb135;have hz137:=hb135.size;have hd140:=DW.below hd131 hb135;have hs141:=DStep.tB hs132 hb135;obtain ⟨q142,hq142⟩:∃ q,q = w135.heap.size:=⟨_,rfl⟩;refine NI H rfl rfl fun w142 hr142 hb142 hs142 a H=>?_;rw [←hq142] at H hr142;have hx143:=OwnX.below hx136 hb142;have hz144:=hb142.size;have hd147:=DW.below hd140 hb142;have hs148:=DStep.tB hs141 hb142;refine NK (t:=s1.tok) H rfl hx143 rfl hr142 (by omega) (by omega) rfl fun v149 w149 ha149 a H=>za H rfl fun H=>?_;have hgr:=ha149.grown
     have hk9:∀ k,Value.ownBlock v149 = some k→(Value.slice aoV l.length cV).ownBlock = some k∨w142.heap.size = k:=fun k hk=>by
      rcases ha149.lies with e | e
      ·exact .inl (by rw [←e]; exact hk)
      ·rw [e] at hk; injection hk with hk; exact .inr hk
     have hlx:=OwnX.lt hx143;have hol:=DW.ownLt hd147;have hvb:Below B w142 w149:=⟨hgr.os,hgr.tape,hgr.output,hgr.size,fun k hk=>hgr.block k (by omega) (fun e=>by have:=(hlx k e.symm).1; omega)⟩
     have hk1:s1.tok.kind≠1:=by omega
     have hkk:=hF1.2.2.2.2.1 hk1;have hgz:=hgr.size;obtain ⟨aoW,cW,hvW⟩:=ha149.own.slice
     have hdW:=DW.kept hd147 hgr.size (hgr.block p (DW.lt hd147) (fun e=>hn1 e.symm)) (hgr.block g (DW.gl hd147) (fun e=>hn2 e.symm)) (World.ownsRow.kept (DW.own hd147) hgr (by
       cases hk:Value.ownBlock _ with
       | none=>exact .inl rfl
       | some k=>exact .inr (fun e=>hnk106 k e.symm hk))) (fun k hk h9=>hgr.block k hk (fun e=>by have:=(hlx k e.symm).1; have:=HD.b9; omega))
     refine wpList_nil (bn (tn (⟨⟨s1,l++[s1.tok],_,_,_,_,v149,f,H.c,hdW,ha149.own,?_,?_,?_,hF1.1,hF1.2.1.trans hbad,hF2.1,?_,?_,?_,?_⟩,?_⟩)))
     ·intro e
      rcases hk9 p e with e | e
      ·exact hn1 e
      ·omega
     ·intro e
      rcases hk9 g e with e | e
      ·exact hn2 e
      ·omega
     ·intro k hk e
      rcases hk9 k hk with h | h
      ·exact hnk106 k h e
      ·have:=hol k e; omega
     ·simp only [List.length_append,List.length_cons,List.length_nil]; omega
     ·rw [←hrun]; exact (LV hpk hbad hle hS hk1).symm
     ·omega
     ·exact (hbw.trans (DStep.below hs148 HD.bp HD.base HD.ownLe)).trans hvb
     ·have h2:=(congrArg BU (H.ev (x:=.tmp 6) rfl)).trans (congrArg BU hvW);have h1:=HE.out
      show bs.length+1 - BU _ < bs.length+1 - BU _
      rw [h1,h2];simp only [BU,List.length_append,List.length_cons,List.length_nil];omega
 ·refine zlf H rfl rfl fun H=>zm H rfl fun H=>zf H rfl fun H=>zf H rfl fun H=>zf H rfl fun H=>zf H rfl fun H=>zp H rfl rfl fun H=>zN (j7 ?_);refine zj H rfl (wp_skip (tn (j5 ?_)));refine zr fun j150=>zm H rfl fun H=>?_;have HP:=JT HD hm (fun _=>hok);have Hs152:=H
  rcases hS:Cx bs s with _ | s1
  ·have H:=Hs152;rw [hS] at HP;refine zC Gx H rfl (Calls.mono HP ?_);rintro e w151 ⟨⟨te,xe,v151,rfl,_,ao151,n151,c151,tk151,rfl⟩,vr151,ve151,vst151,vi151,s1,hd151,hp151,hds151⟩;refine zR fun H=>?_;have hx153:=OwnX.step hox hds151 hn1 hn3;have hnk154:=F9 hds151 hn3 (fun k hk=>(OwnX.lt hox k hk).2);have hz155:=DStep.size hds151;have hs156:=DStep.trans hs0 hds151
   have hR1:R = (l,false):=by rw [←hrun]; exact LU hpk hbad hle hS
   refine zm H rfl fun H=>zx H rfl rfl fun H=>zx H rfl rfl fun H=>?_;obtain ⟨q157,hq157⟩:∃ q,q = w151.heap.size:=⟨_,rfl⟩;refine Az Bj H rfl fun w157 hr157 hb157 hs157 a H=>?_;rw [←hq157] at H hr157;have hx158:=OwnX.below hx153 hb157;have hz159:=hb157.size;have hs161:=DStep.tB hs156 hb157;refine zT H rfl rfl hr157 fun {w163} hr163 hg163=>?_;have hx164:=OwnX.grownOther hx158 hg163 (fun k hk=>by have:=HL k hk; omega);have hz165:=hg163.size;have hs167:=DStep.tR hs161 hg163;refine za H rfl fun H=>zN (j150 ?_);refine zK H [0,1,6,8,9] rfl fun H=>zs fun j168=>zr fun j169=>zm H rfl fun H=>Br (b:=true) H rfl (.inr ⟨_,_,rfl,rfl⟩) rfl fun a H=>zN (j169 ?_);refine zi H rfl (zr fun j170=>zm H rfl fun H=>za H rfl fun H=>za H rfl fun H=>zN (j170 ?_));refine wp_ret (tr (br (tr (br (?_)))));have h4:=H.get 4 _ rfl;have h5:=H.get 5 _ rfl;refine bodyPost_ret (results_tmp2 rfl _ _ _) H.defers ?_;exact ⟨.slice aoV l.length cV,by simp [h4,h5,hR1],by rw [hR1]; exact hx164,(hbw.trans (DStep.below hs167 HD.bp HD.base HD.ownLe))⟩
  ·have H:=Hs152;rw [hS] at HP;refine zC Gx H rfl (Calls.mono HP ?_);rintro e w151 ⟨vt151,ve151,vst151,vi151,rfl,hd151,hds151⟩;have hvt151:=DW.raw hd151;have Hs171:=H;obtain ⟨ao151,n151,c151,rfl⟩:=View.slice3 hvt151;have H:=Hs171;refine zR fun H=>?_;have hx172:=OwnX.step hox hds151 hn1 hn3;have hnk173:=F9 hds151 hn3 (fun k hk=>(OwnX.lt hox k hk).2);have hz174:=DStep.size hds151;have hs175:=DStep.trans hs0 hds151
   have hF:Db bs s = some s1:=by rw [←CT hpk]; exact hS
   have hF1:=Io hF hle;have hF2:=Ip hF hle hok;refine zm H rfl fun H=>zx H rfl rfl fun H=>zx H rfl rfl fun H=>?_;obtain ⟨q176,hq176⟩:∃ q,q = w151.heap.size:=⟨_,rfl⟩;refine Az Bj H rfl fun w176 hr176 hb176 hs176 a H=>?_;rw [←hq176] at H hr176;have hx177:=OwnX.below hx172 hb176;have hz178:=hb176.size;have hv179:=View.below hvt151 hb176;have hd180:=DW.below hd151 hb176;have hs181:=DStep.tB hs175 hb176;have hov182:=DW.fresh (q:=q176) hd151 (by omega);refine zT H rfl rfl hr176 fun {w183} hr183 hg183=>?_;have hx184:=OwnX.grownOther hx177 hg183 (fun k hk=>by have:=HL k hk; omega);have hz185:=hg183.size;have hv186:=View.kg hv179 hg183;have hd187:=DW.gO hd180 hg183 hov182;have hs188:=DStep.tR hs181 hg183;refine za H rfl fun H=>zN (j150 ?_);refine zK H [0,1,6,8,9] rfl fun H=>zs fun j189=>zr fun j190=>zm H rfl fun H=>Br (b:=false) H rfl (.inl ⟨rfl,rfl⟩) rfl fun a H=>zN (j190 ?_);refine zj H rfl (wp_skip (tn (j189 ?_)));refine zs fun j191=>zr fun j192=>AV Tryz.underlying50 rfl (AP _ rfl) H rfl hr183 rfl fun a H=>zC G4 H rfl (Calls.mono (Er hv186) ?_);rintro e w193 ⟨rfl,hb193⟩;refine zR fun H=>?_;have hx194:=OwnX.below hx184 hb193;have hz195:=hb193.size;have hv196:=View.below hv186 hb193;have hr197:=RowAt.bl hr183 hb193;have hd198:=DW.below hd187 hb193;have hs199:=DStep.tB hs188 hb193
   by_cases q200:(((s1.tok.kind:Nat):Int)) = ((1:Int))
   ·refine zet H rfl rfl fun H=>zN (j192 ?_);refine zK H [0,1,6,8,34] rfl fun H=>zi H rfl (zr fun j201=>zm H rfl fun H=>za H rfl fun H=>za H rfl fun H=>zN (j201 ?_));refine wp_ret (tr (br (tr (br (?_)))));have h4:=H.get 4 _ rfl;have h5:=H.get 5 _ rfl;refine bodyPost_ret (results_tmp2 rfl _ _ _) H.defers ?_
    have hR1:R = (l,true):=by rw [←hrun]; exact N2 hpk hbad hle hS (by omega)
    exact ⟨.slice aoV l.length cV,by simp [h4,h5,hR1],by rw [hR1]; exact hx194,(hbw.trans (DStep.below hs199 HD.bp HD.base HD.ownLe))⟩
   ·refine zef H rfl rfl fun H=>zN (j192 ?_);refine zj H rfl (wp_skip (tn (j191 ?_)));refine zK H [0,1,6,8] rfl fun H=>Ac (zm H rfl fun H=>AV Tryz.underlying50 rfl (AP _ rfl) H rfl hr197 rfl fun a H=>zC N6 H rfl (Calls.mono (GN hv196 (by omega) hF2.2.2) ?_));rintro e w202 ⟨rfl,hb202⟩;refine zR fun H=>?_;have hx203:=OwnX.below hx194 hb202;have hz204:=hb202.size;have hd207:=DW.below hd198 hb202;have hs208:=DStep.tB hs199 hb202;obtain ⟨q209,hq209⟩:∃ q,q = w202.heap.size:=⟨_,rfl⟩;refine NI H rfl rfl fun w209 hr209 hb209 hs209 a H=>?_;rw [←hq209] at H hr209;have hx210:=OwnX.below hx203 hb209;have hz211:=hb209.size;have hd214:=DW.below hd207 hb209;have hs215:=DStep.tB hs208 hb209;refine NK (t:=s1.tok) H rfl hx210 rfl hr209 (by omega) (by omega) rfl fun v216 w216 ha216 a H=>za H rfl fun H=>?_;have hgr:=ha216.grown
    have hk9:∀ k,Value.ownBlock v216 = some k→(Value.slice aoV l.length cV).ownBlock = some k∨w209.heap.size = k:=fun k hk=>by
     rcases ha216.lies with e | e
     ·exact .inl (by rw [←e]; exact hk)
     ·rw [e] at hk; injection hk with hk; exact .inr hk
    have hlx:=OwnX.lt hx210;have hol:=DW.ownLt hd214;have hvb:Below B w209 w216:=⟨hgr.os,hgr.tape,hgr.output,hgr.size,fun k hk=>hgr.block k (by omega) (fun e=>by have:=(hlx k e.symm).1; omega)⟩
    have hk1:s1.tok.kind≠1:=by omega
    have hkk:=hF1.2.2.2.2.1 hk1;have hgz:=hgr.size;obtain ⟨aoW,cW,hvW⟩:=ha216.own.slice
    have hdW:=DW.kept hd214 hgr.size (hgr.block p (DW.lt hd214) (fun e=>hn1 e.symm)) (hgr.block g (DW.gl hd214) (fun e=>hn2 e.symm)) (World.ownsRow.kept (DW.own hd214) hgr (by
      cases hk:Value.ownBlock _ with
      | none=>exact .inl rfl
      | some k=>exact .inr (fun e=>hnk173 k e.symm hk))) (fun k hk h9=>hgr.block k hk (fun e=>by have:=(hlx k e.symm).1; have:=HD.b9; omega))
    refine wpList_nil (bn (tn (⟨⟨s1,l++[s1.tok],_,_,_,_,v216,f,H.c,hdW,ha216.own,?_,?_,?_,hF1.1,hF1.2.1.trans hbad,hF2.1,?_,?_,?_,?_⟩,?_⟩)))
    ·intro e
     rcases hk9 p e with e | e
     ·exact hn1 e
     ·omega
    ·intro e
     rcases hk9 g e with e | e
     ·exact hn2 e
     ·omega
    ·intro k hk e
     rcases hk9 k hk with h | h
     ·exact hnk173 k h e
     ·have:=hol k e; omega
    ·simp only [List.length_append,List.length_cons,List.length_nil]; omega
    ·rw [←hrun]; exact (LV hpk hbad hle hS hk1).symm
    ·omega
    ·exact (hbw.trans (DStep.below hs215 HD.bp HD.base HD.ownLe)).trans hvb
    ·have h2:=(congrArg BU (H.ev (x:=.tmp 6) rfl)).trans (congrArg BU hvW);have h1:=HE.out
     show bs.length+1 - BU _ < bs.length+1 - BU _
     rw [h1,h2];simp only [BU,List.length_append,List.length_cons,List.length_nil];omega
end
section
def Copied (bs:List UInt8) (w:World) (e:Ending) (w':World):Prop:=∃ v g,e = .returned v∧View w' g v bs∧w.heap.size≤g∧g < w'.heap.size∧Below w.heap.size w w'
theorem View.any {w:World} {g g':Nat} {v:Value} (h:View w g v []):View w g' v []:=by
 obtain ⟨ao,cap,hv,h1,h2,hn0,off,h3,h4⟩:=h;exact ⟨ao,cap,hv,h1,h2,hn0,off,fun h=>absurd rfl h,fun j hj=>by simp at hj⟩
set_option maxRecDepth 100000 in
theorem MC (v:Value) (bs:List UInt8) (g:Nat) (w:World) (hv:View w g v bs) (hm:bs.length≤100000000) :
  Calls Tryz.prog 14 #[v] w (Copied bs w):=by
 have hb0:=(Below.refl w.heap.size w).alloc (Nat.le_refl _) (.cells #[] 5);have hv1:=hv.alloc (.cells #[] 5);have ho1:OwnB (w.alloc (.cells #[] 5)) w.heap.size 5 (.slice (some ⟨w.heap.size,0,none⟩) 0 0) []:=
  ⟨by simp [byteCells],.inr ⟨w.heap.size,0,#[],rfl,Nat.le_refl _,heap_alloc_new w _,Nat.le_refl _,by simp,rfl,rfl⟩⟩
 go_enter Tryz.func14,Tryz.ntmps14
 go_wp2_with (at_builtin; refine F6 _ rfl _ _ 22 rfl _ 5 Tryz.underlying22 Ag _ _ rfl ho1 hb0 (Nat.le_refl _) _ _ _ rfl hv1 (by simp; omega) ?_; intro v1 w1 hown1 hb1 hsz1)
 go_ret
 rw [List.nil_append] at hown1;obtain ⟨g1,hv2,hg1⟩:=hown1.view
 by_cases hne:bs = []
 ·subst hne;have hz:=hb0.size;exact ⟨_,w.heap.size,rfl,hv2.any,Nat.le_refl _,by have:=hsz1.size; rw [BV] at this; omega,hb1⟩
 ·rcases hown1.2 with ⟨_,h0⟩ | ⟨g2,cap,cur,rfl,h1,h2,_⟩
  ·exact absurd (List.eq_nil_of_length_eq_zero h0) hne
  ·have e:=hg1 g2 rfl;exact ⟨_,g1,rfl,hv2,by omega,hv2.lt hne,hb1⟩
theorem OwnX.low {w:World} {B B':Nat} {v:Value} {l:List TT} (h:OwnX w B v l) (hb:B'≤B):OwnX w B' v l:=by
 refine ⟨h.1,?_⟩
 rcases h.2 with hn | ⟨q,cap,cur,rfl,h1,rest⟩
 ·exact .inl hn
 ·exact .inr ⟨q,cap,cur,rfl,by omega,rest⟩
theorem XRes.low {B:Nat} {R:List TT × Bool} {w0 w w':World} {e:Ending} (h:XRes B R w0 e w') (h0:Below w.heap.size w w0) (hb:w.heap.size≤B):XRes w.heap.size R w e w':=by
 obtain ⟨v,h1,h2,h3⟩:=h;exact ⟨v,h1,h2.low hb,h0.trans (h3.mono hb)⟩
theorem Ri {p g:Nat} {bs:List UInt8} {v:Value} {w:World} (ps:List Bool) (vpk:Value) (h:DW p p g bs (.slice none 0 0) .nilIface (.slice none 0 0) v v DT.new w) (hm:bs.length≤10000000) (hps:BView w p vpk ps) (hpl:ps.length≤2147483647) :
  Calls Tryz.prog 12 #[.pointer (some ⟨p,0,none⟩),vpk] w (XRes p (Gp bs ps) w):=
 NV ps vpk h hm DOk2.new rfl rfl hps hpl
set_option maxRecDepth 100000 in
theorem C9 (v:Value) (bs:List UInt8) (g:Nat) (w:World) (hv:View w g v bs) (hm:bs.length≤10000000) (hgl:Glob w) (h9:9≤w.heap.size) :
  Calls Tryz.prog 7 #[v] w (XRes w.heap.size (Gp bs []) w):=by
 obtain ⟨ao,n,c,rfl⟩:=hv.slice3;have HV:=hid hv;have HG:=hid hgl;clear hv hgl
 go_enter Tryz.func7,Tryz.ntmps7
 go_wp2_with (first
  | (go_at_call 14; refine (MC _ bs g _ HV.out (by omega)).mono ?_; rintro e w1 ⟨v1,g1,rfl,hv1,hg1,hl1,hb1⟩; obtain ⟨ao1,n1,c1,rfl⟩:=hv1.slice3; have HV1:=hid hv1; have HB1:=hid hb1; have hz1:=hb1.size; clear hv1 hb1)
  | (go_at_call 13; refine (Iu _ bs g1 _ HV1.out hl1 (HG.out.below HB1.out) (by omega)).mono ?_; rintro e w2 ⟨rfl,hd2,hb2⟩; have HD2:=hid hd2; have HB2:=hid hb2; clear hd2 hb2)
  | (go_at_call 12; refine (Ri [] _ HD2.out hm (BView.nil _ _) (Nat.zero_le _)).mono ?_; rintro e w3 ⟨v3,rfl,ho3,hb3⟩)
  | fail)
 go_ret2
 have h3:XRes w1.heap.size (Gp bs []) w2 (.returned (.tuple #[v3,.bool (Gp bs []).2])) w3:=⟨v3,rfl,ho3,hb3⟩;exact h3.low (Ad HB1.out HB2.out) hz1
set_option maxRecDepth 100000 in
theorem I2 (v vpk:Value) (bs:List UInt8) (ps:List Bool) (g:Nat) (w:World) (hv:View w g v bs) (hps:BView w w.heap.size vpk ps) (hpl:ps.length≤2147483647) (hm:bs.length≤10000000) (hgl:Glob w) (h9:9≤w.heap.size) :
  Calls Tryz.prog 8 #[v,vpk] w (XRes w.heap.size (Gp bs ps) w):=by
 obtain ⟨ao,n,c,rfl⟩:=hv.slice3;have HV:=hid hv;have HG:=hid hgl;have HP:=hid hps
 obtain ⟨aoP,cP,rfl⟩:∃ ao c,vpk = .slice ao ps.length c:=by obtain ⟨ao,c,e,_⟩:=hps; exact ⟨ao,c,e⟩
 clear hv hgl hps
 go_enter Tryz.func8,Tryz.ntmps8
 go_wp2_with (first
  | (go_at_call 14; refine (MC _ bs g _ HV.out (by omega)).mono ?_; rintro e w1 ⟨v1,g1,rfl,hv1,hg1,hl1,hb1⟩; obtain ⟨ao1,n1,c1,rfl⟩:=hv1.slice3; have HV1:=hid hv1; have HB1:=hid hb1; have hz1:=hb1.size; clear hv1 hb1)
  | (go_at_call 13; refine (Iu _ bs g1 _ HV1.out hl1 (HG.out.below HB1.out) (by omega)).mono ?_; rintro e w2 ⟨rfl,hd2,hb2⟩; have HD2:=hid hd2; have HB2:=hid hb2; clear hd2 hb2)
  | (go_at_call 12; refine (Ri ps _ HD2.out hm (((HP.out.below HB1.out).mono hz1).below HB2.out) hpl).mono ?_; rintro e w3 ⟨v3,rfl,ho3,hb3⟩)
  | fail)
 go_ret2
 have h3:XRes w1.heap.size (Gp bs ps) w2 (.returned (.tuple #[v3,.bool (Gp bs ps).2])) w3:=⟨v3,rfl,ho3,hb3⟩;exact h3.low (Ad HB1.out HB2.out) hz1
end
section
theorem LD:∀ (l:List TT) (i q:Nat) (h:i < l.length),q < 6→(l.flatMap BG)[i * 6+q]? = (BG l[i])[q]?
 | [],i,q,h,_=>by simp at h
 | t::l,0,q,h,hq=>by
  rw [List.flatMap_cons,List.getElem?_append_left (by simp [BG]; omega)];simp
 | t::l,i+1,q,h,hq=>by
  rw [List.flatMap_cons,List.getElem?_append_right (by simp [BG]; omega)]
  have e:(i+1) * 6+q - (BG t).length = i * 6+q:=by simp [BG]; omega
  rw [e,LD l i q (by simpa using h) hq];simp
theorem OwnX.cells {w:World} {B:Nat} {v:Value} {l:List TT} (h:OwnX w B v l):∃ ao cap,v = .slice ao l.length cap∧∀ i (hi:i < l.length),∃ g,ao = some ⟨g,0,none⟩∧g < w.heap.size∧∀ q,q < 6→w.cell? ⟨g,i * 6+q,none⟩ = (BG l[i])[q]?:=by
 by_cases hne:l = []
 ·obtain ⟨ao,c,rfl⟩:=h.slice;exact ⟨ao,c,rfl,fun i hi=>by rw [hne] at hi; simp at hi⟩
 ·have hl:0 < l.length:=List.length_pos_iff.2 hne;obtain ⟨g,cap,rfl,hB,hlt⟩:=World.ownsRow.form h hl;refine ⟨_,cap,rfl,fun i hi=>⟨g,rfl,hlt,fun q hq=>?_⟩⟩;have h1:=LD l i q hi hq
  have hq':q < (BG l[i]).length:=by simpa [BG] using hq
  rw [List.getElem?_eq_getElem hq'] at h1 ⊢;have h2:=World.ownsRow.cells h (g:=g) rfl _ _ h1;rwa [Addr.add_lit,Nat.zero_add] at h2
theorem IH {w w':World} {g n:Nat} {t:TT} (hb:Below w.heap.size w w') (hg:g < w.heap.size) (h:∀ q,q < 6→w.cell? ⟨g,n+q,none⟩ = (BG t)[q]?) :
  ∃ k a p s r x,BG t = [.int .i64 k,.int .i64 a,.int .i64 p,.bool s,.string r,.string x]∧w'.cell? ⟨g,n,none⟩ = some (.int .i64 k)∧w'.cell? ⟨g,n+1,none⟩ = some (.int .i64 a)∧w'.cell? ⟨g,n+2,none⟩ = some (.int .i64 p)∧w'.cell? ⟨g,n+3,none⟩ = some (.bool s)∧w'.cell? ⟨g,n+4,none⟩ = some (.string r)∧w'.cell? ⟨g,n+5,none⟩ = some (.string x):=by
 have k:∀ q,q < 6→w'.cell? ⟨g,n+q,none⟩ = (BG t)[q]?:=fun q hq=>(hb.cell (p:=⟨g,n+q,none⟩) hg).trans (h q hq);exact ⟨_,_,_,_,_,_,rfl,k 0 (by omega),k 1 (by omega),k 2 (by omega),k 3 (by omega),k 4 (by omega),k 5 (by omega)⟩
set_option maxRecDepth 100000 in
set_option maxHeartbeats 4000000 in
theorem Sw (v1 v2:Value) (l:List TT) (B1 B2:Nat) (w:World) (h1:OwnX w B1 v1 l) (h2:OwnX w B2 v2 l) (hl:l.length≤100000000) :
  Calls Tryz.prog 9 #[v1,v2] w fun e w'=>e = .returned (.bool true)∧Below w.heap.size w w':=by
 obtain ⟨ao1,c1,rfl,HC1⟩:=h1.cells;obtain ⟨ao2,c2,rfl,HC2⟩:=h2.cells;replace HC1:=hid HC1;replace HC2:=hid HC2;clear h1 h2
 go_enter Tryz.func9,Tryz.ntmps9
 go_wp2_with fail
 go_loopw [13] (fun i wr=>∃ j:Nat,j≤l.length∧i = .int .i64 j∧Below w.heap.size w wr) (fun i _=>l.length - (intOf i).toNat)
 case atStart=>exact ⟨0,Nat.zero_le _,rfl,Below.refl _ _⟩
 case round=>
  obtain ⟨j,hj,rfl,hbr⟩:=hrel
  by_cases hlt:j < l.length
  ·obtain ⟨g1,rfl,hg1,k1⟩:=HC1.out j hlt;obtain ⟨g2,rfl,hg2,k2⟩:=HC2.out j hlt;generalize l[j] = t at *;obtain ⟨k,a,p,s,r,x,ht,a0,a1,a2,a3,a4,a5⟩:=IH hbr hg1 k1;obtain ⟨k',a',p',s',r',x',ht',b0,b1,b2,b3,b4,b5⟩:=IH hbr hg2 k2;rw [ht] at ht'
   obtain ⟨rfl,rfl,rfl,rfl,rfl,rfl⟩:k = k'∧a = a'∧p = p'∧s = s'∧r = r'∧x = x':=by simpa using ht'
   clear k1 k2 ht ht';have HBR:=hid hbr;clear hbr
   go_upto_region 6 with fail
   go_quiet (fail)
   go_wp2_with fail
   go_roundw
   case rel=>exact ⟨j+1,by omega,by go_num,HBR.out.trans ⟨rfl,rfl,rfl,Nat.le_refl _,fun _ _=>rfl⟩⟩
   case measure=>simp [intOf]; omega
  ·go_wp2_with fail
   go_ret
   exact ⟨rfl,hbr⟩
end
end Go.Proofs.YtgdnpnipahegaaaGreatDoor
