/-
 The reference's writer of the text form, walked: a scalar.
-/
import Derived.Test.YtgdnpnipahegaaaGreatDoorQ9
import Derived.Test.YtgdnpnipahegaaaGreatDoorQ12
namespace Go.Proofs.YtgdnpnipahegaaaGreatDoor
open Go.ChangeShapes Go.WideShapes Go.ChangeAt Go.RowKit
section
theorem Kx (ps:List UInt8) (s:WS):(BH ps s).l = s.l:=by
 unfold BH
 have h1:(if Af ps s.k 3 = 2 then BK ps Dk (AW [45] (Ab ps s)) else Ab ps s).l = s.l:=by split <;> rfl
 generalize (if Af ps s.k 3 = 2 then BK ps Dk (AW [45] (Ab ps s)) else Ab ps s) = s1 at *;simp only
 repeat' split
 all_goals exact h1
theorem charW_l (ps:List UInt8) (q:Nat) (s:WS):(BF ps q s).l = s.l:=by
 unfold BF;simp only
 split
 ·rfl
 ·split
  ·rfl
  ·split
   ·rfl
   ·split
    ·rfl
    ·split <;> rfl
theorem PW (ps:List UInt8) (q:Nat):∀ (n:Nat) (s:WS),(Dr ps q n s).l = s.l
 | 0,_=>rfl
 | n+1,s=>(PW ps q n (BF ps q s)).trans (charW_l ps q s)
theorem SY (ps:List UInt8) (s:WS):(EB ps s).l = s.l:=by
 unfold EB;exact PW ps _ _ _
theorem F5 (ps:List UInt8) (b:Bool) (s:WS):(Am ps b s).l = s.l:=by cases b <;> rfl
theorem NX (ps:List UInt8):∀ (n:Nat) (s:WS),(Gu ps n s).l = s.l
 | 0,_=>rfl
 | n+1,s=>by
  rw [Hm];refine (NX ps n _).trans ?_
  split
  ·exact (F5 ps _ _).trans (SY ps s)
  ·exact SY ps s
theorem H6 (ps:List UInt8) (b:Bool) (s:WS):s.out.length≤(Am ps b s).out.length:=by cases b <;> (unfold Am BK; simp)
theorem Uu (ps:List UInt8) (q:Nat) (s:WS):s.out.length≤(BF ps q s).out.length:=by
 unfold BF AW BK Ab;simp only
 repeat' split
 all_goals simp
theorem Nz (ps:List UInt8) (q:Nat):∀ (n:Nat) (s:WS),s.out.length≤(Dr ps q n s).out.length
 | 0,_=>Nat.le_refl _
 | n+1,s=>Nat.le_trans (Uu ps q s) (Nz ps q n (BF ps q s))
theorem QW (ps:List UInt8) (s:WS):s.out.length≤(EB ps s).out.length:=by
 unfold EB;simp only [AW,List.length_append];exact Nat.le_trans (Nat.le_trans (by simp [Ab]) (Nz ps _ _ _)) (Nat.le_add_right _ _)
theorem Ma (ps:List UInt8) (s:WS):s.out.length≤(BH ps s).out.length:=by
 unfold BH
 have h1:s.out.length≤(if Af ps s.k 3 = 2 then BK ps Dk (AW [45] (Ab ps s)) else Ab ps s).out.length:=by split <;> (simp [BK,AW,Ab]; try omega)
 generalize (if Af ps s.k 3 = 2 then BK ps Dk (AW [45] (Ab ps s)) else Ab ps s) = s1 at *;simp only [BK,Ab]
 repeat' split
 all_goals (simp only [List.length_append]; omega)
variable {B p g:Nat} {ps:List UInt8} {vp vo vl:Value} {s:WS} {w:World}
set_option maxRecDepth 100000 in
set_option maxHeartbeats 100000000 in
theorem LS (h:TW B p g ps vp vo vl s w) (hps:ps.length≤2147483647) (hk:s.k≤ps.length) (hol:s.out.length≤80000000) (hll:s.l.length≤100000000) :
  Calls Tryz.prog 25 #[.pointer (some ⟨p,0,none⟩)] w (Kh B p g ps vp vo vl (Bn ps s) w):=by
 have hs0:=WStep.refl p vo vl w;have hlp:=h.lt;have hgl:=h.gl;refine enter1 (M:=37) Tryz.func25 rfl rfl rfl fun a H=>zr fun j1=>zm H rfl fun H=>zc H rfl fun H=>zg AY H rfl fun H=>Ah AH H rfl (h.row 2 _ rfl).1 rfl fun a H=>?_;obtain ⟨gv2,hv2⟩:=h.outV;refine zL Tryz.underlying22 H rfl hv2 fun H=>za H rfl fun H=>zN (j1 ?_);refine zs fun j3=>zr fun j4=>zm H rfl fun H=>zC B7 H rfl (Calls.mono (BJ B p g ps vp _ _ s 5 _ h (by decide) (by decide) hps hk) ?_);rintro e w5 ⟨rfl,hd5,hg5⟩;refine zR fun H=>?_;have hds5:=WStep.of_grown (vo:=vo) (vl:=vl) hg5;have hpl5:=Bl ps s.k (n:=5) (by decide);have hz6:=hds5.size;have hs7:=WStep.trans hs0 hds5;obtain ⟨s8,hses8,hd5,hks8,hos8⟩:=nmG (Grow.pick ps s) hk hd5;refine zN (j4 ?_);refine wp_block (zs fun j9=>zr fun j10=>?_)
 by_cases q11:(((Af ps s.k 5:Nat):Int)) = ((0:Int))
 ·refine zet H rfl rfl fun H=>za H rfl fun H=>zN (j10 ?_);refine zK H [0,2,10,24] rfl fun H=>zi H rfl (wp_skip (tn (j9 ?_)));refine zi H rfl (Ac (zm H rfl fun H=>zC M5 H rfl (Calls.mono (L9 hd5 hps hks8 (by omega)) ?_)));rintro e w12 ⟨rfl,vo12,vl12,hd12,hds12⟩;refine zR fun H=>?_;have hz13:=hds12.size;have hs14:=WStep.trans hs7 hds12;obtain ⟨s15,hses15,hd12,hks15,hos15⟩:=nmG (Grow.number ps s8) hks8 hd12;refine wpList_nil (bn (tn (j3 ?_)))
  have hlk16:s15.l = s.l:=by subst hses8 hses15; exact Kx ps _
  have hge:s.out.length≤s15.out.length:=by subst hses8 hses15; exact Ma ps (Ab ps s)
  refine Ac (zm H rfl fun H=>zm H rfl fun H=>?_)
  have hll17:s15.l.length≤100000000:=by rw [show s15.l = s.l from hlk16]; exact hll
  refine zC EE H rfl (Calls.mono (DZ 3 ((s).out.length) hd12 (by omega) hll17) ?_);rintro e w18 ⟨rfl,vo18,vl18,hd18,hds18⟩;refine zR fun H=>?_;have hz19:=hds18.size;have hs20:=WStep.trans hs14 hds18;obtain ⟨s21,hses21,hd18,hks21,hos21⟩:=nmG (Grow.tok ps 3 ((s).out.length) s15) hks15 hd18;refine wpList_nil (DX (by rfl) H ?_);refine ⟨rfl,_,_,?_,hs20⟩;have c22:=(by omega:(Af ps s.k 5) = 0);have c23:=(by omega:Af ps s.k 5 = 0∨Af ps s.k 5 = 1);rw [show Bn ps s = s21 from by subst hses8 hses15 hses21; unfold Bn Ab; first | (simp only [c23,↓reduceIte]; done) | (simp only [c23,↓reduceIte]; rfl)];exact hd18
 ·refine zef H rfl rfl fun H=>za H rfl fun H=>zN (j10 ?_);refine zK H [0,2,10,24] rfl fun H=>zj H rfl (Ac ?_)
  by_cases q24:(((Af ps s.k 5:Nat):Int)) = ((1:Int))
  ·refine zet H rfl rfl fun H=>za H rfl fun H=>zN (j9 ?_);refine zi H rfl (Ac (zm H rfl fun H=>zC M5 H rfl (Calls.mono (L9 hd5 hps hks8 (by omega)) ?_)));rintro e w25 ⟨rfl,vo25,vl25,hd25,hds25⟩;refine zR fun H=>?_;have hz26:=hds25.size;have hs27:=WStep.trans hs7 hds25;obtain ⟨s28,hses28,hd25,hks28,hos28⟩:=nmG (Grow.number ps s8) hks8 hd25;refine wpList_nil (bn (tn (j3 ?_)))
   have hlk29:s28.l = s.l:=by subst hses8 hses28; exact Kx ps _
   have hge:s.out.length≤s28.out.length:=by subst hses8 hses28; exact Ma ps (Ab ps s)
   refine Ac (zm H rfl fun H=>zm H rfl fun H=>?_)
   have hll30:s28.l.length≤100000000:=by rw [show s28.l = s.l from hlk29]; exact hll
   refine zC EE H rfl (Calls.mono (DZ 3 ((s).out.length) hd25 (by omega) hll30) ?_);rintro e w31 ⟨rfl,vo31,vl31,hd31,hds31⟩;refine zR fun H=>?_;have hz32:=hds31.size;have hs33:=WStep.trans hs27 hds31;obtain ⟨s34,hses34,hd31,hks34,hos34⟩:=nmG (Grow.tok ps 3 ((s).out.length) s28) hks28 hd31;refine wpList_nil (DX (by rfl) H ?_);refine ⟨rfl,_,_,?_,hs33⟩;have c35:=(by omega:¬ ((Af ps s.k 5) = 0));have c36:=(by omega:(Af ps s.k 5) = 1);have c37:=(by omega:Af ps s.k 5 = 0∨Af ps s.k 5 = 1);rw [show Bn ps s = s34 from by subst hses8 hses28 hses34; unfold Bn Ab; first | (simp only [c37,↓reduceIte]; done) | (simp only [c37,↓reduceIte]; rfl)];exact hd31
  ·refine zef H rfl rfl fun H=>za H rfl fun H=>zN (j9 ?_);refine zK H [0,2,10,24] rfl fun H=>zj H rfl (zr fun j38=>?_)
   by_cases q39:(((Af ps s.k 5:Nat):Int)) = ((2:Int))
   ·refine zet H rfl rfl fun H=>za H rfl fun H=>zN (j38 ?_);refine zi H rfl (Ac (zm H rfl fun H=>?_));obtain ⟨q40,hq40⟩:∃ q,q = w5.heap.size:=⟨_,rfl⟩;refine A6 (tab:=Jp) H rfl (by decide) (by decide) (by kernel_rfl) rfl fun w40 hr40 hb40 hs40 a H=>?_;rw [←hq40] at H hr40;have hz41:=hb40.size;have hd42:=TW.below hd5 hb40;have hs43:=WStep.trans hs7 (WStep.of_below hb40);have hov44:=TW.fresh (q:=q40) hd5 (by omega);refine zC B8 H rfl (Calls.mono (BD Jp hd42 hps hks8 (by decide) (by decide) hr40 (by omega) hov44 (by omega) (Ar (by decide))) ?_);rintro e w45 ⟨rfl,vo45,vl45,hd45,hds45⟩;refine zR fun H=>?_;have hz46:=hds45.size;have hs47:=WStep.trans hs43 hds45;obtain ⟨s48,hses48,hd45,hks48,hos48⟩:=nmG (Grow.one ps Jp s8 (Ar (m:=40) (by decide))) hks8 hd45;refine wpList_nil (bn (tn (j3 ?_)))
    have hlk49:s48.l = s.l:=by subst hses8 hses48; rfl
    have hge:s.out.length≤s48.out.length:=by subst hses8 hses48; simp [BK]
    refine Ac (zm H rfl fun H=>zm H rfl fun H=>?_)
    have hll50:s48.l.length≤100000000:=by rw [show s48.l = s.l from hlk49]; exact hll
    refine zC EE H rfl (Calls.mono (DZ 3 ((s).out.length) hd45 (by omega) hll50) ?_);rintro e w51 ⟨rfl,vo51,vl51,hd51,hds51⟩;refine zR fun H=>?_;have hz52:=hds51.size;have hs53:=WStep.trans hs47 hds51;obtain ⟨s54,hses54,hd51,hks54,hos54⟩:=nmG (Grow.tok ps 3 ((s).out.length) s48) hks48 hd51;refine wpList_nil (DX (by rfl) H ?_);refine ⟨rfl,_,_,?_,hs53⟩;have c55:=(by omega:¬ ((Af ps s.k 5) = 0));have c56:=(by omega:¬ ((Af ps s.k 5) = 1));have c57:=(by omega:(Af ps s.k 5) = 2);have c58:=(by omega:¬ (Af ps s.k 5 = 0∨Af ps s.k 5 = 1));have c59:=(by omega:Af ps s.k 5 = 2);rw [show Bn ps s = s54 from by subst hses8 hses48 hses54; unfold Bn Ab; first | (simp only [And.intro c58 c59,↓reduceIte]; done) | (simp only [And.intro c58 c59,↓reduceIte]; rfl)];exact hd51
   ·refine zef H rfl rfl fun H=>za H rfl fun H=>zN (j38 ?_);refine zK H [0,2,29] rfl fun H=>zj H rfl (zr fun j60=>zm H rfl fun H=>zC B7 H rfl (Calls.mono (BJ B p g ps vp _ _ s8 3 _ hd5 (by decide) (by decide) hps hks8) ?_));rintro e w61 ⟨rfl,hd61,hg61⟩;refine zR fun H=>?_;have hds61:=WStep.of_grown (vo:=vo) (vl:=vl) hg61;have hpl61:=Bl ps s8.k (n:=3) (by decide);have hz62:=hds61.size;have hs63:=WStep.trans hs7 hds61;obtain ⟨s64,hses64,hd61,hks64,hos64⟩:=nmG (Grow.pick ps s8) hks8 hd61;refine Cf (r:=((1+(Af ps s8.k 3):Nat):Int)) H rfl rfl fun H=>za H rfl fun H=>zN (j60 ?_);obtain ⟨Z,hZ0⟩:∃ Z,Gu ps ((1+(Af ps s8.k 3))) s64 = Z:=⟨_,rfl⟩;refine wp_block (wp_loop (fun a wx=>∃ (n:Nat) (sc:WS) (vo1 vl1:Value),Has 37 [] a [(0,.pointer (some ⟨p,0,none⟩)),(2,.int .i64 (((s).out.length:Nat):Int)),(3,.int .i64 (n:Int))]∧TW B p g ps vp vo1 vl1 sc wx∧WStep p vo vl w vo1 vl1 wx∧Gu ps n sc = Z∧sc.k≤ps.length∧sc.out.length+400 * n≤81000000∧n≤3∧s.out.length≤sc.out.length) (fun a _=>Ax (a.eval (.tmp 3))) ?_ ?_)
    ·exact ⟨_,_,_,_,H.c,hd61,hs63,hZ0,hks64,by omega,by omega,by have h1:=congrArg (fun x:WS=>x.out.length) hses8; have h2:=congrArg (fun x:WS=>x.out.length) hses64; simp only at h1 h2; omega⟩
    rintro a wk65 ⟨n,sc,vo1,vl1,H,hdc,hsc,hZ,hkc,hoc,hn8,hso⟩;have HE:=hid (congrArg Ax (H.ev (x:=.tmp 3) rfl));have hlpk:=hdc.lt;have hglk:=hdc.gl;have hss:=hsc.size;have Hs66:=H
    rcases n with _ | n
    ·have H:=Hs66;have Hs67:=H;obtain rfl:sc = Z:=hZ;have H:=Hs67;refine zs fun j68=>zr fun j69=>zm H rfl fun H=>zgf H rfl rfl fun H=>zN (j69 ?_);refine zj H rfl (wp_exit (te (te (A9 (bn (tn (j3 ?_)))))));refine zK H [0,2,3] rfl fun H=>?_
     have hlk70:sc.l = s.l:=by subst hses8 hses64 hZ0; exact NX ps _ _
     refine Ac (zm H rfl fun H=>zm H rfl fun H=>?_)
     have hll71:sc.l.length≤100000000:=by rw [show sc.l = s.l from hlk70]; exact hll
     refine zC EE H rfl (Calls.mono (DZ 3 ((s).out.length) hdc (by omega) hll71) ?_);rintro e w72 ⟨rfl,vo72,vl72,hd72,hds72⟩;refine zR fun H=>?_;have hz73:=hds72.size;have hs74:=WStep.trans hsc hds72;obtain ⟨s75,hses75,hd72,hks75,hos75⟩:=nmG (Grow.tok ps 3 ((s).out.length) sc) hkc hd72;refine wpList_nil (DX (by rfl) H ?_);refine ⟨rfl,_,_,?_,hs74⟩;have c76:=(by omega:¬ ((Af ps s.k 5) = 0));have c77:=(by omega:¬ ((Af ps s.k 5) = 1));have c78:=(by omega:¬ ((Af ps s.k 5) = 2));have c79:=(by omega:¬ (Af ps s.k 5 = 0∨Af ps s.k 5 = 1));have c80:=(by omega:¬ Af ps s.k 5 = 2);rw [show Bn ps s = s75 from by subst hses8 hses64 hZ0 hses75; unfold Bn Ab; first | (simp only [And.intro c79 c80,↓reduceIte]; done) | (simp only [And.intro c79 c80,↓reduceIte]; rfl)];exact hd72
    ·have H:=Hs66;refine zs fun j81=>zr fun j82=>zm H rfl fun H=>zgt H rfl rfl fun H=>zN (j82 ?_);refine zi H rfl (wp_skip (tn (j81 ?_)));refine zs fun j83=>wp_block (zr fun j84=>zm H rfl fun H=>zC pf_str H rfl (Calls.mono (str_any hdc hps hkc (by omega)) ?_));rintro e w85 ⟨rfl,vo85,vl85,hd85,hds85⟩;refine zR fun H=>?_;have hz86:=hds85.size;have hs87:=WStep.trans hsc hds85;obtain ⟨s88,hses88,hd85,hks88,hos88⟩:=nmG (Grow.str ps sc) hkc hd85;refine zN (j84 ?_);refine zK H [0,2,3] rfl fun H=>zr fun j89=>zm H rfl fun H=>?_
     by_cases q90:(((n+1:Nat):Int)) > ((1:Int))
     ·refine zgt H rfl rfl fun H=>zN (j89 ?_);refine zi H rfl (Ac (zm H rfl fun H=>zC Cn H rfl (Calls.mono (B0 false hd85 hps hks88 (by omega)) ?_)));rintro e w91 ⟨rfl,vo91,vl91,hd91,hds91⟩;refine zR fun H=>?_;have hz92:=hds91.size;have hs93:=WStep.trans hs87 hds91;obtain ⟨s94,hses94,hd91,hks94,hos94⟩:=nmG (Grow.blanks ps false s88) hks88 hd91;refine wpList_nil (bn (tn (j83 ?_)));refine Ac (zm H rfl fun H=>DY (r:=((n:Nat):Int)) H rfl rfl fun H=>za H rfl fun H=>?_);have c95:=(by omega:1 < n+1);rw [Hm,show (if 1 < n+1 then Am ps false (EB ps sc) else EB ps sc) = s94 from by subst hses88 hses94; simp only [c95,↓reduceIte]] at hZ;refine zN (⟨⟨n,_,_,_,H.c,hd91,hs93,hZ,hks94,by omega,by omega,by have:=QW ps sc; have:=H6 ps false (EB ps sc); subst hses88 hses94; omega⟩,?_⟩);have h2:=congrArg Ax (H.ev (x:=.tmp 3) rfl);have h1:=HE.out
      show Ax _ < Ax _
      rw [h1,h2];simp only [Ax];omega
     ·refine zgf H rfl rfl fun H=>zN (j89 ?_);refine zK H [0,2,3,21] rfl fun H=>zj H rfl (wp_skip (bn (tn (j83 ?_))));refine Ac (zm H rfl fun H=>DY (r:=((n:Nat):Int)) H rfl rfl fun H=>za H rfl fun H=>?_);have c96:=(by omega:¬ (1 < n+1));rw [Hm,show (if 1 < n+1 then Am ps false (EB ps sc) else EB ps sc) = s88 from by subst hses88; simp only [c96,↓reduceIte]] at hZ;refine zN (⟨⟨n,_,_,_,H.c,hd85,hs87,hZ,hks88,by omega,by omega,by have:=QW ps sc; subst hses88; omega⟩,?_⟩);have h2:=congrArg Ax (H.ev (x:=.tmp 3) rfl);have h1:=HE.out
      show Ax _ < Ax _
      rw [h1,h2];simp only [Ax];omega
end
section
structure GrowL (ps:List UInt8) (c d:Nat) (s s':WS):Prop where
 k:s.k≤ps.length→s'.k≤ps.length
 len:s'.out.length+10000 * s'.left≤s.out.length+10000 * s.left+c
 ll:s'.l.length+10 * s'.left≤s.l.length+10 * s.left+d
 left:s'.left≤s.left
section
variable {ps:List UInt8} {c d c' d':Nat} {s s1 s2:WS}
theorem GrowL.of (h:Grow ps c s s1) (hl:s1.l.length≤s.l.length+d):GrowL ps c d s s1:=⟨h.k,by have:=h.len; have:=h.left; omega,by have:=h.left; omega,by have:=h.left; omega⟩
theorem GrowL.trans (h:GrowL ps c d s s1) (k:GrowL ps c' d' s1 s2):GrowL ps (c+c') (d+d') s s2:=⟨fun e=>k.k (h.k e),by have:=h.len; have:=k.len; omega,by have:=h.ll; have:=k.ll; omega,Nat.le_trans k.left h.left⟩
theorem GrowL.weak (h:GrowL ps c d s s1) (hc:c≤c') (hd:d≤d'):GrowL ps c' d' s s1:=⟨h.k,by have:=h.len; omega,by have:=h.ll; omega,h.left⟩
theorem GrowL.all (h:GrowL ps c d s s1) (k:s.k≤ps.length):s1.k≤ps.length∧s1.out.length+10000 * s1.left≤s.out.length+10000 * s.left+c∧s1.l.length+10 * s1.left≤s.l.length+10 * s.left+d∧s1.left≤s.left:=⟨h.k k,h.len,h.ll,h.left⟩
theorem GrowL.refl (ps:List UInt8) (s:WS):GrowL ps 0 0 s s:=⟨id,Nat.le_refl _,Nat.le_refl _,Nat.le_refl _⟩
theorem GrowL.picked (ps:List UInt8) (s:WS):GrowL ps 0 0 s (Ab ps s):=.of (Grow.picked ps s) (Nat.le_refl _)
theorem GrowL.put (ps:List UInt8) (x:List UInt8) (s:WS):GrowL ps x.length 0 s (AW x s):=.of (Grow.put ps x s) (Nat.le_refl _)
theorem GrowL.blanks (ps:List UInt8) (b:Bool) (s:WS):GrowL ps 40 0 s (Am ps b s):=.of (Grow.blanks ps b s) (by rw [F5]; omega)
theorem GrowL.one (ps:List UInt8) (tab:List (List UInt8)) (s:WS) (h:∀ x ∈ tab,x.length≤40):GrowL ps 40 0 s (BK ps tab s):=.of (Grow.one ps tab s (Ar h)) (Nat.le_refl _)
theorem GrowL.tok (ps:List UInt8) (kd fr:Nat) (s:WS):GrowL ps 0 1 s (Cu kd fr s):=.of (Grow.tok ps kd fr s) (by simp [Cu])
theorem GrowL.sep (ps:List UInt8) (s:WS):GrowL ps 0 0 s (Gn s):=⟨id,Nat.le_refl _,by
 unfold Gn;simp only [List.length_append,List.length_dropLast]
 cases h:s.l.getLast? with
 | none=>simp
 | some t=>
  have:0 < s.l.length:=by cases hl:s.l with
   | nil=>rw [hl] at h; cases h
   | cons a b=>simp
  simp; omega,Nat.le_refl _⟩
theorem Qe (ps:List UInt8) (s:WS):(Bn ps s).l.length = s.l.length+1:=by
 have h:∀ s2:WS,s2.l = s.l→(Cu 3 s.out.length s2).l.length = s.l.length+1:=fun s2 h=>by simp [Cu,h]
 unfold Bn;simp only;refine h _ ?_
 split
 ·exact Kx ps _
 ·split
  ·rfl
  ·exact NX ps _ _
theorem GrowL.scalar (ps:List UInt8) (s:WS):GrowL ps 1300 1 s (Bn ps s):=.of (Grow.scalar ps s) (by rw [Qe]; omega)
theorem Pg (ps:List UInt8):∀ (l:List (List UInt8)) (str:List UInt8) (s:WS),(Dc ps l str s).2.l = s.l
 | [],_,_=>rfl
 | x::l,str,s=>by
  unfold Dc;refine (Pg ps l _ _).trans ?_
  split
  ·exact F5 ps _ _
  ·rfl
theorem Grow.parts (ps:List UInt8):∀ (l:List (List UInt8)) (str:List UInt8) (s:WS),(∀ x ∈ l,x.length≤20)→Grow ps (60 * l.length) s (Dc ps l str s).2
 | [],_,s,_=>⟨id,by show s.out.length≤_; omega,rfl⟩
 | x::l,str,s,h=>by
  unfold Dc;have hx:=h x (by simp)
  have h1:Grow ps 60 s (if x = [46]∨x = [47] then Am ps false (AW x s) else AW x s):=by
   split
   ·exact ((Grow.put ps x s).trans (Grow.blanks ps false _)).weak (by omega)
   ·exact (Grow.put ps x s).weak (by omega)
  exact (h1.trans (Grow.parts ps l _ _ (fun y hy=>h y (by simp [hy])))).weak (by simp; omega)
theorem IZ (i:Nat):(Cm.getD i []).length≤7∧∀ x ∈ Cm.getD i [],x.length≤20:=by
 have key:∀ l ∈ Cm,l.length≤7∧∀ x ∈ l,x.length≤20:=by decide
 rw [List.getD_eq_getElem?_getD]
 cases hi:Cm[i]? with
 | none=>exact ⟨Nat.zero_le _,fun x hx=>by simp at hx⟩
 | some l=>exact key l (List.mem_of_getElem? hi)
theorem Grow.typed (ps:List UInt8) (s:WS):Grow ps 600 s (DG ps s).2:=by
 unfold DG;have ht:=IZ (Af ps s.k 5);simp only;refine ((Grow.picked ps s).trans ((Grow.put ps _ _).trans ((Grow.blanks ps false _).trans ((Grow.parts ps _ _ _ ht.2).trans ((Grow.blanks ps false _).trans (Grow.put ps _ _)))))).weak ?_;simp only [List.length_cons,List.length_nil];omega
theorem ON (ps:List UInt8) (s:WS):(DG ps s).2.l = s.l:=by
 unfold DG;simp only;refine (F5 ps _ _).trans ((Pg ps _ _ _).trans ((F5 ps _ _).trans rfl))
theorem Grow.add (ps:List UInt8) (kd nk fr:Nat) (str:List UInt8) (s:WS):Grow ps 0 s (Oy kd nk fr str s):=⟨id,Nat.le_refl _,rfl⟩
theorem Grow.name (ps:List UInt8) (s:WS):Grow ps 700 s (DK ps s):=by
 unfold DK;simp only
 split
 ·exact ((Grow.picked ps s).trans ((Grow.one ps EF _ (Ar (m:=40) (by decide))).trans (Grow.add ps _ _ _ _ _))).weak (by decide)
 ·split
  ·exact ((Grow.picked ps s).trans ((Grow.typed ps _).trans (Grow.add ps _ _ _ _ _))).weak (by decide)
  ·exact ((Grow.picked ps s).trans ((Grow.one ps FI _ (Ar (m:=40) (by decide))).trans (Grow.add ps _ _ _ _ _))).weak (by decide)
theorem Pu (ps:List UInt8) (s:WS):∃ t,(DK ps s).l = s.l++[t]:=by
 unfold DK;simp only
 split
 ·exact ⟨_,rfl⟩
 ·split
  ·exact ⟨_,by unfold Oy; simp only [ON]; rfl⟩
  ·exact ⟨_,rfl⟩
theorem GrowL.name (ps:List UInt8) (s:WS):GrowL ps 700 1 s (DK ps s):=.of (Grow.name ps s) (by obtain ⟨t,h⟩:=Pu ps s; rw [h]; simp)
theorem nmL {B p g:Nat} {vp vo vl:Value} {w:World} (h:GrowL ps c d s s1) (hk:s.k≤ps.length) (ht:TW B p g ps vp vo vl s1 w):∃ s2:WS,s1 = s2∧TW B p g ps vp vo vl s2 w∧s2.k≤ps.length∧s2.out.length+10000 * s2.left≤s.out.length+10000 * s.left+c∧s2.l.length+10 * s2.left≤s.l.length+10 * s.left+d∧s2.left≤s.left:=⟨s1,rfl,ht,h.all hk⟩
def msgT (ps:List UInt8) (inner:WS→WS) (op cl:UInt8) (s:WS):WS:=
 let s1:=AW [op] s
 let s2:=AW [cl] (inner (Am ps false (Cu 4 (s1.out.length - 1) s1)))
 Cu 5 (s2.out.length - 1) s2
theorem Ix (inner:WS→WS) (s:WS):Cb ps inner s = if 0 < Af ps s.k 2 then msgT ps inner 60 62 (Ab ps s) else msgT ps inner 123 125 (Ab ps s):=by
 unfold Cb msgT
 by_cases h:0 < Af ps s.k 2
 ·simp only [h]; rfl
 ·simp only [h]; rfl
theorem GrowL.msgT {inner:WS→WS} (hi:∀ s,GrowL ps 0 0 s (inner s)) (op cl:UInt8) (s:WS):GrowL ps 42 2 s (msgT ps inner op cl s):=by
 unfold Proofs.YtgdnpnipahegaaaGreatDoor.msgT;exact ((GrowL.put ps [op] s).trans ((GrowL.tok ps _ _ _).trans ((GrowL.blanks ps false _).trans ((hi _).trans ((GrowL.put ps [cl] _).trans (GrowL.tok ps _ _ _)))))).weak (by simp) (by simp)
theorem GrowL.message {inner:WS→WS} (hi:∀ s,GrowL ps 0 0 s (inner s)) (s:WS):GrowL ps 42 2 s (Cb ps inner s):=by
 rw [Ix]
 split
 ·exact ((GrowL.picked ps s).trans (GrowL.msgT hi _ _ _)).weak (by decide) (by decide)
 ·exact ((GrowL.picked ps s).trans (GrowL.msgT hi _ _ _)).weak (by decide) (by decide)
def DH (s:WS):WS:={ s with left:=s.left - 1 }
theorem GrowL.spent (ps:List UInt8) {s:WS} (h:0 < s.left) (h1:GrowL ps c d (DH s) s1) (hc:c≤10000) (hd:d≤10):GrowL ps 0 0 s s1:=
 ⟨fun e=>h1.k e,by have:=h1.len; simp only [DH] at this; omega,by have:=h1.ll; simp only [DH] at this; omega,by have:=h1.left; simp only [DH] at this; omega⟩
def KW (ps:List UInt8) (inner:WS→WS) (deep:Nat) (s1:WS):WS:=if deep < 8 then (if Af ps s1.k 3 = 2 then Cb ps inner (Ab ps s1) else Bn ps (Ab ps s1)) else Bn ps s1
def H0 (ps:List UInt8) (n:Nat) (s3:WS):WS:=if 1 < n+1∧0 < s3.left then Am ps false (AW [44] s3) else s3
theorem Gi (inner:WS→WS) (deep n:Nat) (s:WS):listL ps inner deep (n+1) s = if s.left = 0 then s else listL ps inner deep n (H0 ps n (Am ps false (KW ps inner deep (DH s)))):=rfl
theorem GrowL.item {inner:WS→WS} (hi:∀ s,GrowL ps 0 0 s (inner s)) (deep:Nat) (s:WS):GrowL ps 1300 2 s (KW ps inner deep s):=by
 unfold KW
 split
 ·split
  ·exact ((GrowL.picked ps s).trans (GrowL.message hi _)).weak (by decide) (by decide)
  ·exact ((GrowL.picked ps s).trans (GrowL.scalar ps _)).weak (by decide) (by decide)
 ·exact (GrowL.scalar ps _).weak (by decide) (by decide)
theorem GrowL.comma (ps:List UInt8) (n:Nat) (s:WS):GrowL ps 41 0 s (H0 ps n s):=by
 unfold H0
 split
 ·exact ((GrowL.put ps [44] s).trans (GrowL.blanks ps false _)).weak (by decide) (by decide)
 ·exact (GrowL.refl ps s).weak (by decide) (by decide)
theorem GrowL.listL {inner:WS→WS} (hi:∀ s,GrowL ps 0 0 s (inner s)) (deep:Nat):∀ (n:Nat) (s:WS),GrowL ps 0 0 s (listL ps inner deep n s)
 | 0,s=>GrowL.refl ps s
 | n+1,s=>by
  rw [Gi]
  split
  ·exact GrowL.refl ps s
  ·refine (GrowL.spent ps (by omega) ((GrowL.item hi deep _).trans ((GrowL.blanks ps false _).trans (GrowL.comma ps n _))) (by decide) (by decide)).trans (GrowL.listL hi deep n _)
theorem GrowL.list {inner:WS→WS} (hi:∀ s,GrowL ps 0 0 s (inner s)) (deep:Nat) (s:WS):GrowL ps 42 2 s (Hf ps inner deep s):=by
 unfold Hf;exact ((GrowL.put ps [91] s).trans ((GrowL.tok ps _ _ _).trans ((GrowL.blanks ps false _).trans ((GrowL.picked ps _).trans ((GrowL.listL hi deep _ _).trans ((GrowL.put ps [93] _).trans (GrowL.tok ps _ _ _))))))).weak (by decide) (by decide)
def OH (ps:List UInt8) (inner:WS→WS) (deep kind:Nat) (s3:WS):WS:=if kind = 4 then Cb ps inner s3 else if kind = 5 then Hf ps inner deep s3 else Bn ps s3
def MN (ps:List UInt8) (s4:WS):WS:=if 0 < Af ps s4.k 3 then Am ps false (BK ps Gb (Ab ps s4)) else Am ps true (Ab ps s4)
def PU (ps:List UInt8) (kind:Nat) (s2:WS):WS:=if kind < 4 then Am ps false (AW [58] (Gn s2)) else if 0 < Af ps s2.k 2 then Am ps false (AW [58] (Gn (Ab ps s2))) else Ab ps s2
def kndT (ps:List UInt8) (deep:Nat) (s:WS):Nat:=if 8 < deep then 0 else Af ps s.k 6
theorem KE (inner:WS→WS) (deep:Nat) (s:WS):En ps inner deep s = MN ps (Am ps false (OH ps inner deep (kndT ps deep (Am ps false (DK ps s))) (PU ps (kndT ps deep (Am ps false (DK ps s))) (Ab ps (Am ps false (DK ps s)))))):=rfl
theorem GrowL.val {inner:WS→WS} (hi:∀ s,GrowL ps 0 0 s (inner s)) (deep kind:Nat) (s:WS):GrowL ps 1300 2 s (OH ps inner deep kind s):=by
 unfold OH
 split
 ·exact (GrowL.message hi s).weak (by decide) (by decide)
 ·split
  ·exact (GrowL.list hi deep s).weak (by decide) (by decide)
  ·exact (GrowL.scalar ps s).weak (by decide) (by decide)
theorem GrowL.beh (ps:List UInt8) (s:WS):GrowL ps 100 0 s (MN ps s):=by
 unfold MN
 split
 ·exact ((GrowL.picked ps s).trans ((GrowL.one ps Gb _ (by decide)).trans (GrowL.blanks ps false _))).weak (by decide) (by decide)
 ·exact ((GrowL.picked ps s).trans (GrowL.blanks ps true _)).weak (by decide) (by decide)
theorem GrowL.col (ps:List UInt8) (kind:Nat) (s:WS):GrowL ps 50 0 s (PU ps kind s):=by
 unfold PU
 split
 ·exact ((GrowL.sep ps s).trans ((GrowL.put ps [58] _).trans (GrowL.blanks ps false _))).weak (by decide) (by decide)
 ·split
  ·exact ((GrowL.picked ps s).trans ((GrowL.sep ps _).trans ((GrowL.put ps [58] _).trans (GrowL.blanks ps false _)))).weak (by decide) (by decide)
  ·exact (GrowL.picked ps s).weak (by decide) (by decide)
theorem GrowL.field {inner:WS→WS} (hi:∀ s,GrowL ps 0 0 s (inner s)) (deep:Nat) (s:WS):GrowL ps 3000 5 s (En ps inner deep s):=by
 rw [KE];exact ((GrowL.name ps s).trans ((GrowL.blanks ps false _).trans ((GrowL.picked ps _).trans ((GrowL.col ps _ _).trans ((GrowL.val hi deep _ _).trans ((GrowL.blanks ps false _).trans (GrowL.beh ps _))))))).weak (by decide) (by decide)
theorem FJ (inner:WS→WS) (deep f:Nat) (s:WS):fieldsL ps inner deep (f+1) s = if s.left = 0∨ps.length≤s.k then s else if Af ps s.k 5 = 0 then Ab ps s else fieldsL ps inner deep f (En ps inner deep (DH (Ab ps s))):=rfl
theorem GrowL.fieldsL {inner:WS→WS} (hi:∀ s,GrowL ps 0 0 s (inner s)) (deep:Nat):∀ (f:Nat) (s:WS),GrowL ps 0 0 s (fieldsL ps inner deep f s)
 | 0,s=>GrowL.refl ps s
 | f+1,s=>by
  rw [FJ]
  split
  ·exact GrowL.refl ps s
  ·split
   ·exact GrowL.picked ps s
   ·exact ((GrowL.picked ps s).trans (GrowL.spent ps (s:=Ab ps s) (by show 0 < s.left; omega) (GrowL.field hi deep _) (by decide) (by decide))).trans (GrowL.fieldsL hi deep f _)
theorem GrowL.fieldsW (ps:List UInt8):∀ (d deep:Nat) (s:WS),GrowL ps 0 0 s (fieldsW ps d deep s)
 | 0,_,s=>GrowL.refl ps s
 | d+1,deep,s=>GrowL.fieldsL (GrowL.fieldsW ps d (deep+1)) deep _ s
end
end
section
section
variable {N:Nat} {D:List Deferred} {a:Act} {l:List (Nat × Value)} {L rest:List Oper} {Q:Exit→Act→World→Prop} {S:World→Prop} {w:World} {d fuel:Nat} {op:Op} {ty:TypeId} {pos:String} {af:Array Edge} {listed:Array Bool}
theorem R9 (u v:List UInt8):(⟨u.toArray⟩:ByteArray)++⟨v.toArray⟩ = ⟨(u++v).toArray⟩:=by
 apply ByteArray.ext;simp
theorem y_sadd {x y:Operand} {u v:List UInt8} (H:Has N D a l) (hx:ev l x = some (.string ⟨u.toArray⟩)) (hy:ev l y = some (.string ⟨v.toArray⟩)) (hlen:u.length+v.length≤1000000000) (hd:Nat.blt d N = true)
  (h:∀ a,Has N D a ((d,.string ⟨(u++v).toArray⟩)::l)→wpList Tryz.prog L.toArray Q rest a w):wpList Tryz.prog L.toArray Q (⟨some d,.binOp .add 9 x y 9,ty,pos,af,none⟩::rest) a w:=
 Cj H hd (by
  have h1:=H.ev hx;have h2:=H.ev hy;simp only [execOp,h1,h2];simp [go_sem,R9]
  omega) h
theorem NG {x y:Operand} {u v:List UInt8} {b:Bool} (H:Has N D a l) (hx:ev l x = some (.string ⟨u.toArray⟩)) (hy:ev l y = some (.string ⟨v.toArray⟩)) (hb:decide (u = v) = b) (hd:Nat.blt d N = true)
  (h:∀ a,Has N D a ((d,.bool b)::l)→wpList Tryz.prog L.toArray Q rest a w):wpList Tryz.prog L.toArray Q (⟨some d,.binOp .eql 9 x y 9,ty,pos,af,none⟩::rest) a w:=
 Cj H hd (by
  have h1:=H.ev hx;have h2:=H.ev hy;subst hb;simp only [execOp,h1,h2];simp [go_sem]
  exact Bool.eq_iff_iff.2 (by simp)) h
theorem T1:(Tryz.prog.info? 60).map (fun i=>(i.zero,i.size,i.bytes)) = some (some (.slice none 0 0),1,24):=by kernel_rfl
theorem one60:Ds Tryz.prog 60:=fun w=>by simp [isAgg,Sem.run_bind,go_sem]
theorem Ug (v0 v1 v2 v3 v4:Addr) (n0 n1 n2 n3 n4:Nat):Instr.fill (fun i=>some (i * 1,1)) ((Array.range (5 * 1)).map ((Value.slice none 0 0).cells[· % (Value.slice none 0 0).cells.size]!)) [(0,.slice (some v0) n0 n0),(1,.slice (some v1) n1 n1),(2,.slice (some v2) n2 n2),(3,.slice (some v3) n3 n3),(4,.slice (some v4) n4 n4)] = some #[.slice (some v0) n0 n0,.slice (some v1) n1 n1,.slice (some v2) n2 n2,.slice (some v3) n3 n3,.slice (some v4) n4 n4]:=by kernel_rfl
def UE (w:World) (q q0 q1 q2 q3 q4:Nat):Prop:=RowAt w q [.slice (some ⟨q0,0,none⟩) 3 3,.slice (some ⟨q1,0,none⟩) 5 5,.slice (some ⟨q2,0,none⟩) 1 1,.slice (some ⟨q3,0,none⟩) 7 7,.slice (some ⟨q4,0,none⟩) 3 3]
theorem y_grid {x0 x1 x2 x3 x4:Operand} {q0 q1 q2 q3 q4:Nat} (H:Has N D a l) (hp:evp l [(0,x0),(1,x1),(2,x2),(3,x3),(4,x4)] = some [(0,.slice (some ⟨q0,0,none⟩) 3 3),(1,.slice (some ⟨q1,0,none⟩) 5 5),(2,.slice (some ⟨q2,0,none⟩) 1 1),(3,.slice (some ⟨q3,0,none⟩) 7 7),(4,.slice (some ⟨q4,0,none⟩) 3 3)]) (hd:Nat.blt d N = true)
  (h:∀ w',UE w' w.heap.size q0 q1 q2 q3 q4→Below w.heap.size w w'→w'.heap.size = w.heap.size+1→∀ a,Has N D a ((d,.slice (some ⟨w.heap.size,0,none⟩) 5 5)::l)→wpList Tryz.prog L.toArray Q rest a w'):wpList Tryz.prog L.toArray Q (⟨some d,.buildSlice 75 5 #[(0,x0),(1,x1),(2,x2),(3,x3),(4,x4)],ty,pos,af,none⟩::rest) a w:=by
 obtain ⟨inf,hi1,hz,hz1,hz2⟩:=info_parts T1;have h1:=H.evp hp;have:=run_buildSlice (P:=Tryz.prog) w 75 60 5 #[(0,.slice (some ⟨q0,0,none⟩) 3 3),(1,.slice (some ⟨q1,0,none⟩) 5 5),(2,.slice (some ⟨q2,0,none⟩) 1 1),(3,.slice (some ⟨q3,0,none⟩) 7 7),(4,.slice (some ⟨q4,0,none⟩) 3 3)] _ inf _ Tryz.underlying75 hi1 hz (by rw [hz1]; decide) (by rw [hz1]; decide) (by rw [hz1]; exact Ug ..);simp at h1;refine Cj H hd (v:=.slice (some ⟨w.heap.size,0,none⟩) 5 5) (w':=w.alloc (.cells #[.slice (some ⟨q0,0,none⟩) 3 3,.slice (some ⟨q1,0,none⟩) 5 5,.slice (some ⟨q2,0,none⟩) 1 1,.slice (some ⟨q3,0,none⟩) 7 7,.slice (some ⟨q4,0,none⟩) 3 3] 60)) (by simp [execOp,h1,this,Result.andThen]) ?_;exact h _ (BW (heap_alloc_new w _)) ((Below.refl _ w).alloc (Nat.le_refl _) _) (BV w _)
theorem SB {P:Program} {t e:TypeId} {x i:Operand} {k:IntKind} {n m cp q:Nat} (ht:P.underlying t = some (.slice e)) (hz:(P.info? e).map (·.size) = some 1) (H:Has N D a l) (hx:ev l x = some (.slice (some ⟨q,0,none⟩) m cp)) (hi:ev l i = some (.int k (n:Int))) (hn:n < m) (hd:Nat.blt d N = true)
  (h:∀ a,Has N D a ((d,.pointer (some ⟨q,n,none⟩))::l)→wpList P L.toArray Q rest a w):wpList P L.toArray Q (⟨some d,.indexAddr t x i,ty,pos,af,none⟩::rest) a w:=
 Cj H hd (by
  have h1:=H.ev hx;have h2:=H.ev hi
  cases hq:P.info? e with
  | none=>simp [hq] at hz
  | some inf=>
   have hs:inf.size = 1:=by simpa [hq] using hz
   simp [execOp,h1,h2,Instr.indexAt,asIntOf,run_underlying ht,sizeOf,typeInfo,hq,hs,Addr.add_lit,Result.andThen,if_pos hn]) h
def tp0:List (List UInt8):=[[97],[46],[98]]
def tp1:List (List UInt8):=[[116,121,112,101,46,101,120,97,109,112,108,101,46,99,111,109],[47],[120],[46],[89]]
def tp2:List (List UInt8):=[[113]]
def tp3:List (List UInt8):=[[117,126,49,36,38,43],[47],[112],[47],[110,45,49],[46],[50]]
def tp4:List (List UInt8):=[[104,37,50,70,120],[47],[110]]
theorem T6 {q q0 q1 q2 q3 q4 i:Nat} {G:Nat→Prop} (h:UE w q q0 q1 q2 q3 q4) (hi:i < 5) (h0:TabAt w q0 tp0) (h1:TabAt w q1 tp1) (h2:TabAt w q2 tp2) (h3:TabAt w q3 tp3) (h4:TabAt w q4 tp4) (g0:G q0) (g1:G q1) (g2:G q2) (g3:G q3) (g4:G q4) :
  ∃ k,w.cell? ⟨q,i,none⟩ = some (.slice (some ⟨k,0,none⟩) (Cm.getD i []).length (Cm.getD i []).length)∧TabAt w k (Cm.getD i [])∧G k:=by
 match i,hi with
 | 0,_=>exact ⟨q0,(h 0 _ rfl).1,h0,g0⟩
 | 1,_=>exact ⟨q1,(h 1 _ rfl).1,h1,g1⟩
 | 2,_=>exact ⟨q2,(h 2 _ rfl).1,h2,g2⟩
 | 3,_=>exact ⟨q3,(h 3 _ rfl).1,h3,g3⟩
 | 4,_=>exact ⟨q4,(h 4 _ rfl).1,h4,g4⟩
 | n+5,h=>omega
theorem AX {P:Program} {v:Value} {j k:Nat} {b:Bool} (i:Nat) (H:Has N D a l) (hi:L.toArray[i]? = some ⟨some d,op,ty,pos,af,some (j,b)⟩) (hs:Region.noSelect L.toArray = true) (hf:Region.free .any L.toArray listed i = true) (hr:(Region.ready .any L.toArray listed).contains i = true)
  (hn:EG L j = some k) (hv:Bf l k = some (.bool b)) (hy:∀ w,S w→(execOp a.eval ⟨some d,op,ty,pos,af,some (j,b)⟩).run P w = .ok (.value v) w) (hS:S w) (hd:Nat.blt d N = true)
  (h:∀ a,Has N D a ((d,v)::l)→wpAnyH P .any L.toArray (NoPanic Q) S fuel (listed.setIfInBounds i true) a w):wpAnyH P .any L.toArray (NoPanic Q) S (fuel+1) listed a w:=
 wpAnyH_take hi hs hf hr (fun _ _ _ h=>h.elim) (.inl ⟨by unfold Region.wanted; simp only; rw [ES H hn hv]; simp,hy⟩) hS (h _ (H.put hd))
theorem Ce {P:Program} {j k:Nat} {b:Bool} {v:Value} (i:Nat) (H:Has N D a l) (hi:L.toArray[i]? = some ⟨some d,op,ty,pos,af,some (j,b)⟩) (hs:Region.noSelect L.toArray = true) (hf:Region.free .any L.toArray listed i = true) (hr:(Region.ready .any L.toArray listed).contains i = true)
  (hn:EG L j = some k) (hv:Bf l k = some v) (hb:v = .bool (!b)∨v = undef) (hS:S w) (hd:Nat.blt d N = true)
  (h:∀ a,Has N D a ((d,undef)::l)→wpAnyH P .any L.toArray (NoPanic Q) S fuel (listed.setIfInBounds i true) a w):wpAnyH P .any L.toArray (NoPanic Q) S (fuel+1) listed a w:=
 wpAnyH_take hi hs hf hr (fun _ _ _ h=>h.elim) (.inr ⟨by unfold Region.wanted; simp only; rw [ES H hn hv]; rcases hb with rfl | rfl; cases b <;> rfl; rfl,rfl⟩) hS (h _ (H.put hd))
theorem Rs {P:Program} (i:Nat) {j k:Nat} {b:Bool} {dd:Option Tmp} (H:Has N D a l) (hr:Region.ready .any L.toArray listed = [i]) (hi:L.toArray[i]? = some ⟨dd,op,ty,pos,af,some (j,b)⟩) (hn:EG L j = some k) (hv:Bf l k = some (.bool b))
  (h:wpList P L.toArray (Exit.then (fun a' w'=>S w'∧wpAnyH P .any L.toArray (NoPanic Q) S fuel (listed.setIfInBounds i true) a' w') (NoPanic Q)) [⟨dd,op,ty,pos,af,some (j,b)⟩] a w):wpAnyH P .any L.toArray (NoPanic Q) S (fuel+1) listed a w:=by
 refine wpAnyH_all hr (by simp) fun m hm=>?_
 obtain rfl:m = i:=by simpa using hm
 have hw:Region.wanted ⟨dd,op,ty,pos,af,some (j,b)⟩ (yielded L.toArray a.tmps) = true:=by unfold Region.wanted; simp only; rw [ES H hn hv]; simp
 unfold wpList at h;rw [if_pos hw] at h;unfold wpOp;simp only [hi];rw [if_pos hw]
 rcases h with h | ⟨h1,h2⟩
 ·exact .inl (ID h)
 ·exact .inr ⟨h1,h2⟩
variable {dd:Option Tmp} {gd:Option (Nat × Bool)} {P:Program}
theorem Q3 {t t':TypeId} {x y:Operand} {k:IntKind} {m n:Int} {b:Bool} (H:Has N D a l) (hx:ev l x = some (.int k m)) (hy:ev l y = some (.int k n)) (hb:decide (n < m) = b):∀ w,S w→(execOp a.eval ⟨dd,.binOp .gtr t x y t',ty,pos,af,gd⟩).run P w = .ok (.value (.bool b)) w:=fun w _=>by
 have h1:=H.ev hx;have h2:=H.ev hy;subst hb;simp only [execOp,h1,h2];simp [go_sem]
theorem r_lss {t t':TypeId} {x y:Operand} {k:IntKind} {m n:Int} {b:Bool} (H:Has N D a l) (hx:ev l x = some (.int k m)) (hy:ev l y = some (.int k n)) (hb:decide (m < n) = b):∀ w,S w→(execOp a.eval ⟨dd,.binOp .lss t x y t',ty,pos,af,gd⟩).run P w = .ok (.value (.bool b)) w:=fun w _=>by
 have h1:=H.ev hx;have h2:=H.ev hy;subst hb;simp only [execOp,h1,h2];simp [go_sem]
theorem Fz {c x y:Operand} {b:Bool} {v:Value} (H:Has N D a l) (hc:ev l c = some (.bool b)) (hx:ev l (bif b then x else y) = some v):∀ w,S w→(execOp a.eval ⟨dd,.pick c x y,ty,pos,af,gd⟩).run P w = .ok (.value v) w:=fun w _=>by
 have h1:=H.ev hc;have h2:=H.ev hx
 cases b <;> simp [execOp,h1,asBool] at h2 ⊢ <;> exact h2
theorem r_idxQ {x i:Operand} {k:IntKind} {n m cp q:Nat} (H:Has N D a l) (hx:ev l x = some (.slice (some ⟨q,0,none⟩) m cp)) (hi:ev l i = some (.int k (n:Int))) (hn:n < m):∀ w,S w→(execOp a.eval ⟨dd,.indexAddr 23 x i,ty,pos,af,gd⟩).run Tryz.prog w = .ok (.value (.pointer (some ⟨q,n * 6,none⟩))) w:=fun w _=>by
 obtain ⟨inf,hi1,hz,hz1,hz2⟩:=info_parts Te;have h1:=H.ev hx;have h2:=H.ev hi;simp [execOp,h1,h2,Instr.indexAt,asIntOf,run_underlying Tryz.underlying23,sizeOf,typeInfo,hi1,hz1,Addr.add_lit,Result.andThen,if_pos hn]
theorem Ta {x:Operand} {q o:Nat} (H:Has N D a l) (hx:ev l x = some (.pointer (some ⟨q,o,none⟩))):∀ w,S w→(execOp a.eval ⟨dd,.fieldAddr 27 x 3,ty,pos,af,gd⟩).run Tryz.prog w = .ok (.value (.pointer (some ⟨q,o+3,none⟩))) w:=fun w _=>by
 have h1:=H.ev hx
 have h2:∀ w,(Instr.fieldAt 27 (.pointer (some ⟨q,o,none⟩)) 3).run Tryz.prog w = .ok (.pointer (some ⟨q,o+3,none⟩)) w:=fun w=>by simp [go_sem,Instr.fieldAt]
 simp [execOp,h1,h2 w,Result.andThen]
theorem Uf:∀ (ls:List TX) (t:TX),((ls++[t]).flatMap CG).set (ls.length * 6+3) (.bool true) = (ls++[{ t with sep:=true }]).flatMap CG:=by
 intro ls t
 have hl:(ls.flatMap CG).length = ls.length * 6:=by
  induction ls with
  | nil=>rfl
  | cons x l ih=>simp [CG,ih]; omega
 rw [List.flatMap_append,List.flatMap_append,List.set_append_right _ _ (by omega),hl,show ls.length * 6+3 - ls.length * 6 = 3 by omega]
 try rfl
theorem TW.sepAt {B p g q c:Nat} {ps:List UInt8} {vp vo:Value} {s:WS} {ls:List TX} {t:TX} (h:TW B p g ps vp vo (.slice (some ⟨q,0,none⟩) s.l.length c) s w) (hl:s.l = ls++[t]) :
  (w.cell? ⟨q,(s.l.length - 1) * 6+3,none⟩).isSome = true∧w.frozen? ⟨q,(s.l.length - 1) * 6+3,none⟩ = false∧TW B p g ps vp vo (.slice (some ⟨q,0,none⟩) s.l.length c) (Gn s) (w.setCell ⟨q,(s.l.length - 1) * 6+3,none⟩ (.bool true))∧
   WStep p vo (.slice (some ⟨q,0,none⟩) s.l.length c) w vo (.slice (some ⟨q,0,none⟩) s.l.length c) (w.setCell ⟨q,(s.l.length - 1) * 6+3,none⟩ (.bool true)):=by
 have hown:w.ownsRow B 27 6 (.slice (some ⟨q,0,none⟩) s.l.length c) s.l.length (s.l.flatMap CG):=h.l
 have hlen:s.l.length = ls.length+1:=by rw [hl]; simp
 have hi:(s.l.length - 1) * 6+3 = ls.length * 6+3:=by omega
 have hst:=World.ownsRow.stored hown (ls.length * 6+3) (.bool true);have hq:p≠q:=fun e=>h.nl (by rw [e]; try rfl)
 have hsep:(Gn s).l = ls++[{ t with sep:=true }]:=by simp [Gn,hl]
 have hcell:w.cell? ⟨q,ls.length * 6+3,none⟩ = some (.bool t.sep):=by
  have h1:(s.l.flatMap CG)[ls.length * 6+3]? = some (.bool t.sep):=by
   have hk:(ls.flatMap CG).length = ls.length * 6:=by
    have e:=hown.1;rw [hl,List.flatMap_append,List.length_append,List.length_append] at e;simp [CG] at e ⊢;omega
   rw [hl,List.flatMap_append,List.getElem?_append_right (by omega),hk,show ls.length * 6+3 - ls.length * 6 = 3 by omega]
   try rfl
  have h2:=World.ownsRow.cells hown (g:=q) rfl _ _ h1;rwa [Addr.add_lit,Nat.zero_add] at h2
 rw [hi];refine ⟨by rw [hcell]; try rfl,World.ownsRow.frozenAt hown _,?_,?_⟩
 ·have ho:=World.ownsRow.kept h.out hst.2 (.inr fun e=>h.ol q e rfl);refine { row:=h.row.kept (hst.2.block p h.lt fun e=>hq (by injection e)),out:=ho,l:=?_,v:=h.v.kept (hst.2.block g h.gl fun e=>?_),hp:=h.hp,hg:=h.hg,no:=h.no,nl:=h.nl,ol:=h.ol }
  ·unfold OwnQ;rw [hsep,show (ls++[({ t with sep:=true }:TX)]).length = s.l.length by simp [hlen],←Uf,←hl];exact hst.1
  ·injection e with e
   have h1:=(h.lLt q rfl).1;have h2:=h.hg;omega
 ·exact ⟨hst.2.os,hst.2.tape,hst.2.output,hst.2.size,fun k hk _ _ h3=>hst.2.block k hk fun e=>h3 (by injection e with e; rw [e]; try rfl),fun _ h=>.inl h,fun _ h=>.inl h⟩
end
end
end Go.Proofs.YtgdnpnipahegaaaGreatDoor
