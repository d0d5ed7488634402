/-
 The package's reader over what the reference's writer of the text form writes: its tokens, each at its place, up to the end. Plain functions.
-/
import Derived.Test.YtgdnpnipahegaaaGreatDoorQ32
import Derived.Test.YtgdnpnipahegaaaGreatDoorQ14
import Derived.Test.YtgdnpnipahegaaaGreatDoorQ31
import Derived.Lib.SlBytesConst
import Derived.Lib.SmallJoins
namespace Go.Proofs.YtgdnpnipahegaaaGreatDoor
section
theorem Q6 {x:List UInt8} (h:QP false x = true):NameLex x 1 x:=by
 obtain ⟨h1,c,y,rfl,hc⟩:=Oj h;unfold Head at hc;refine ⟨⟨c,y,rfl,by unfold Kp; exact ⟨hc.1,by omega⟩⟩,fun bs n r hd hr=>?_⟩;have hi:=h1 r hr;refine ⟨⟨2,1,false,0,n,c::y,[]⟩,?_,rfl,rfl,rfl,rfl,rfl,by rw [if_neg (by decide)]⟩
 ·rw [Fh bs n (c::y).length |>.symm];unfold Bf;rw [hd,List.cons_append];simp only;rw [←List.cons_append,if_neg (by omega),hi,if_pos (by simp)];unfold Ax;rw [Jg hd]
  try rfl
theorem lex_num {x:List UInt8} (h:Sb x = true):NameLex x 3 x:=by
 unfold Sb at h;simp only [Bool.and_eq_true,beq_iff_eq,decide_eq_true_eq] at h;obtain ⟨⟨⟨⟨⟨h1,h2⟩,h3⟩,h4⟩,h5⟩,h6⟩:=h
 cases x with
 | nil=>cases h6
 | cons c y=>
  have hc:48≤c.toNat∧c.toNat≤57:=by unfold AX at h6; simpa using h6
  refine ⟨⟨c,y,rfl,by unfold Kp; exact ⟨CX (by omega),by omega⟩⟩,fun bs n r hd hr=>?_⟩;have hi:=IW h3 h4 hr;have hn:=Mn h1 h2 hr;refine ⟨⟨2,3,false,0,n,c::y,[]⟩,?_,rfl,rfl,rfl,rfl,rfl,by rw [if_neg (by decide)]⟩
  ·rw [Fh bs n (c::y).length |>.symm];unfold Bf;rw [hd,List.cons_append];simp only
   have hnum:EM (c::(y++r)) = some ⟨0,false,(c::y).length,0⟩:=by
    rw [Dz,if_neg (by omega),←List.cons_append,hn]
   have hs:Fe ⟨0,false,(c::y).length,0⟩ (c::(y++r)) = c::y:=by
    unfold Fe;simp only;rw [if_neg (by simp),if_neg (by simp),←List.cons_append,List.take_left]
   rw [←List.cons_append] at hnum hs ⊢;rw [if_neg (by omega),hi,if_neg (by simp),hnum];simp only;rw [hs,if_pos ⟨trivial,trivial,h5⟩];unfold Ax;rw [Jg hd]
   try rfl
theorem Sv {x name:List UInt8} (hok:D4 name = true) (h:∀ r,tnT (csT (x++r)) [] = some (name,r)):NameLex (91::x) 2 name:=by
 refine ⟨⟨91,x,rfl,by unfold Kp; decide⟩,fun bs n r hd hr=>?_⟩
 have hd1:bs.drop (n+1) = x++r:=by rw [←List.drop_drop,hd]; try rfl
 have hlen:bs.length = n+(91::x).length+r.length:=by
  have:=congrArg List.length hd;simp at this ⊢; omega
 have htn:tnF (bs.length+1) (csT (bs.drop (n+1))) [] = some (name,r):=by
  rw [hd1,MW (by have:=C3 (x++r); simp at this hlen; omega),h]
 refine ⟨⟨2,2,false,0,n,91::x,name⟩,?_,rfl,rfl,rfl,rfl,rfl,by rw [if_pos rfl]⟩;unfold Bf;rw [hd,List.cons_append];simp only;rw [if_pos (by decide)];unfold D5;rw [htn];simp only;rw [if_pos hok]
 have e:bs.length - r.length = n+(91::x).length:=by omega
 rw [e,show n+(91::x).length - n = (91::x).length by omega,Jg hd]
 try rfl
theorem Mr (ps:List UInt8) (s:WS):∃ x nk str,NameLex x nk str∧(DG ps s).out = s.out++x∧(DG ps s).l = s.l++[⟨2,nk,s.out.length,false,x,str⟩]∧(DG ps s).left = s.left:=by
 unfold DG;simp only
 split
 ·obtain ⟨x,hx,h1,h2,h3⟩:=Ds ps EB (Ab ps s) (by decide)
  have hd:(BH ps EB (Ab ps s)).out.drop s.out.length = x:=by rw [h1]; exact List.drop_left
  refine ⟨x,3,x,lex_num (List.all_eq_true.1 Re x hx),h1,?_,h3⟩;unfold Nw;simp only [hd,h2];rfl
 ·split
  ·obtain ⟨x,h1,h2,h3,h4,h5⟩:=O6 ps (Ab ps s)
   have hd:(DD ps (Ab ps s)).2.out.drop s.out.length = 91::x:=by rw [h1]; exact List.drop_left
   refine ⟨91::x,2,_,Sv h4 h5,h1,?_,h3⟩;unfold Nw;simp only [hd,h2];rfl
  ·obtain ⟨x,hx,h1,h2,h3⟩:=Ds ps Fs (Ab ps s) (by decide)
   have hd:(BH ps Fs (Ab ps s)).out.drop s.out.length = x:=by rw [h1]; exact List.drop_left
   refine ⟨x,1,x,Q6 (List.all_eq_true.1 PA x hx),h1,?_,h3⟩;unfold Nw;simp only [hd,h2];rfl
theorem OB {x:List UInt8} (h:QP true x = true):ScalLex x:=by
 obtain ⟨h1,c,y,rfl,hc⟩:=Oj h;unfold Head at hc;refine ⟨⟨c,y,rfl,hc.1,by omega⟩,fun bs n r hd hr=>?_⟩;have hi:=h1 r hr.1;refine ⟨⟨3,3,false,0,n,c::y,[]⟩,?_,rfl,rfl,fun _=>rfl⟩
 ·rw [Fh bs n (c::y).length |>.symm];unfold Bg;rw [hd,List.cons_append];simp only;rw [←List.cons_append,if_neg (by omega),hi,if_pos (by simp)];unfold Ax;rw [Jg hd]
theorem Py {b x r:List UInt8} (hb:Blk b) (hx:∃ c y,x = c::y∧(AX c = true∨c.toNat = 46)):A8 true (45::(b++(x++r))) = 0:=by
 rw [CU,if_pos (by decide)]
 have:Dl (b++(x++r)) = 0:=by
  have key:∀ c l,(F2 c = false)→Dl (c::l) = 0:=fun c l h=>by rw [Cu,h]; simp
  cases b with
  | nil=>
   obtain ⟨c,y,rfl,hc⟩:=hx;refine key c _ ?_;unfold AX at hc;unfold F2;simp at hc ⊢;omega
  | cons c b=>
   refine key c _ ?_;have h1:=hb [];rw [List.append_nil,CM,Ig,List.length_cons] at h1
   by_cases hbl:Cc c = true
   ·unfold Cc at hbl;unfold F2;simp at hbl ⊢;omega
   ·rw [if_neg hbl] at h1
    by_cases h35:c.toNat = 35
    ·unfold F2; rw [h35]; try rfl
    ·rw [if_neg h35] at h1; omega
 rw [if_pos this]
theorem Q4 {x:List UInt8} (h:Jt x = true):ScalLex x:=by
 obtain ⟨⟨k,h1⟩,h2,c,y,rfl,hc⟩:=Mj h
 have hcb:46≤c.toNat∧c.toNat≤57∧c.toNat≠47:=by unfold AX at hc; simp at hc; omega
 refine ⟨⟨c,y,rfl,CX (by omega),by omega⟩,fun bs n r hd hr=>?_⟩;have hi:=h2 r hr.1;have hn:=h1 r hr.1;refine ⟨⟨3,1,false,k,n,c::y,Fe ⟨k,false,(c::y).length,0⟩ (c::y++r)⟩,?_,rfl,rfl,fun _=>rfl⟩;rw [Fh bs n (c::y).length |>.symm]
 have hnum:EM (c::(y++r)) = some ⟨k,false,(c::y).length,0⟩:=by
  rw [Dz,if_neg (by omega),←List.cons_append,hn]
 unfold Bg;rw [hd,List.cons_append];simp only;rw [←List.cons_append] at hnum ⊢;rw [if_neg (by omega),hi,if_neg (by simp),hnum];simp only;rw [List.take_left,if_neg (by decide)]
 try rfl
theorem Q5 {b x:List UInt8} (hb:Blk b) (h:Jt x = true):ScalLex (45::(b++x)):=by
 obtain ⟨⟨k,h1⟩,h2,hx⟩:=Mj h;refine ⟨⟨45,_,rfl,by decide,by decide⟩,fun bs n r hd hr=>?_⟩;have hn:=h1 r hr.1;have hi:=Py (r:=r) hb hx
 have hsk:skT false (b++(x++r)) = b.length:=by
  rw [hb];obtain ⟨c,y,rfl,hc⟩:=hx
  have hcb:46≤c.toNat∧c.toNat≤57:=by unfold AX at hc; simp at hc; omega
  rw [List.cons_append,Ey (CX (by omega)) (by omega)]
  try rfl
 have hnum:EM (45::(b++(x++r))) = some ⟨k,true,1+b.length+x.length,b.length⟩:=by
  rw [Dz,if_pos (by decide),hsk,List.drop_left,hn]
 have hl:(45::(b++x)).length = 1+b.length+x.length:=by simp; omega
 have e:45::(b++x)++r = 45::(b++(x++r)):=by simp
 refine ⟨⟨3,1,false,k+128,n,45::(b++x),Fe ⟨k,true,1+b.length+x.length,b.length⟩ (45::(b++(x++r)))⟩,?_,rfl,rfl,fun _=>rfl⟩;rw [Fh bs n _ |>.symm,hl];unfold Bg;rw [hd,e];simp only;rw [if_neg (by decide),hi,if_neg (by simp),hnum];simp only;rw [if_pos (by decide),←hl,←e,List.take_left]
theorem Ok (ps:List UInt8) (s:WS):∃ x,ScalLex x∧(BD ps s).out = s.out++x∧(BD ps s).l = s.l∧(BD ps s).left = s.left:=by
 -- the number behind the sign
 have body:∀ s1:WS,∃ x,Jt x = true∧(let n:=Ah ps s1.k 4
   let s2:=Ab ps s1
   if n = 0 then BH ps Fb s2 else if n = 1 then BH ps E8 s2 else if n = 2 then BH ps E0 s2
   else BH ps EU (BH ps EG (BH ps Ei s2))).out = s1.out++x∧(let n:=Ah ps s1.k 4
   let s2:=Ab ps s1
   if n = 0 then BH ps Fb s2 else if n = 1 then BH ps E8 s2 else if n = 2 then BH ps E0 s2
   else BH ps EU (BH ps EG (BH ps Ei s2))).l = s1.l∧(let n:=Ah ps s1.k 4
   let s2:=Ab ps s1
   if n = 0 then BH ps Fb s2 else if n = 1 then BH ps E8 s2 else if n = 2 then BH ps E0 s2
   else BH ps EU (BH ps EG (BH ps Ei s2))).left = s1.left:=by
  intro s1;simp only
  have tab:∀ t,t.all Jt = true→0 < t.length→∃ x,Jt x = true∧(BH ps t (Ab ps s1)).out = s1.out++x∧(BH ps t (Ab ps s1)).l = s1.l∧(BH ps t (Ab ps s1)).left = s1.left:=by
   intro t ht h0;obtain ⟨x,hx,h1,h2,h3⟩:=Ds ps t (Ab ps s1) h0;exact ⟨x,List.all_eq_true.1 ht x hx,h1,h2,h3⟩
  have hall:=decs_ok;rw [List.all_append,List.all_append,Bool.and_eq_true,Bool.and_eq_true] at hall
  split
  ·exact tab Fb hall.1.1 (by decide)
  ·split
   ·exact tab E8 hall.1.2 (by decide)
   ·split
    ·exact tab E0 hall.2 (by decide)
    ·obtain ⟨x,hx,h1,h2,h3⟩:=Ds ps Ei (Ab ps s1) (by decide);obtain ⟨y,hy,g1,g2,g3⟩:=Ds ps EG (BH ps Ei (Ab ps s1)) (by decide);obtain ⟨z,hz,f1,f2,f3⟩:=Ds ps EU (BH ps EG (BH ps Ei (Ab ps s1))) (by decide);have:=List.all_eq_true.1 (List.all_eq_true.1 (List.all_eq_true.1 flts_ok x hx) y hy) z hz;refine ⟨x++y++z,this,?_,by rw [f2,g2,h2]; try rfl,by rw [f3,g3,h3]; try rfl⟩;rw [f1,g1,h1]; simp [Ab]
 unfold BD;simp only
 split
 ·obtain ⟨b,hb,e1,e2,e3⟩:=Ds ps Di (AU [45] (Ab ps s)) (by decide);obtain ⟨x,hx,h1,h2,h3⟩:=body (BH ps Di (AU [45] (Ab ps s)));refine ⟨45::(b++x),Q5 (PO (by simp [hb])) hx,?_,h2.trans (by rw [e2]; try rfl),h3.trans (by rw [e3]; try rfl)⟩;refine h1.trans ?_;rw [e1]; simp [AU,Ab]
 ·obtain ⟨x,hx,h1,h2,h3⟩:=body (Ab ps s);exact ⟨x,Q4 hx,h1,h2,h3⟩
def Td (x:List UInt8):Prop:=(∃ c y,x = c::y∧(c.toNat = 34∨c.toNat = 39))∧∀ bs f n r out,bs.drop n = x++r→x.length < f→Fo (csT r) = false→∃ s,C5 bs f n out = some (s,goT bs (n+x.length) 0)
theorem G1 (bs:List UInt8) (f k:Nat) (out:List UInt8):C5 bs (f+1) k out = match bs.drop k with
  | []=>some (out,k)
  | c::r=>if c.toNat = 34∨c.toNat = 39 then (match AZ c.toNat r [] with
    | none=>none
    | some (s,m)=>C5 bs f (goT bs k (r.length+1 - m)) (out++s))
   else some (out,k):=rfl
theorem NR {bs x r:List UInt8} {n f:Nat} {out:List UInt8} (hx:Str1 x) (hd:bs.drop n = x++r):∃ s,C5 bs (f+1) n out = C5 bs f (goT bs (n+x.length) 0) (out++s):=by
 obtain ⟨c,y,rfl,hc,hy⟩:=hx;obtain ⟨s,hs⟩:=hy r;refine ⟨s,?_⟩;rw [G1,hd,List.cons_append];simp only;rw [if_pos hc,hs];simp only;rw [Fh,show (y++r).length+1 - r.length = (c::y).length by simp; omega]
theorem QD {x:List UInt8} (hx:Str1 x):Td x:=by
 refine ⟨?_,fun bs f n r out hd hf hr=>?_⟩
 ·obtain ⟨c,y,h1,h2,_⟩:=hx; exact ⟨c,y,h1,h2⟩
 ·have hp:0 < x.length:=by obtain ⟨c,y,rfl,_⟩:=hx; simp
  obtain ⟨g,rfl⟩:∃ g,f = g+1+1:=⟨f - 2,by omega⟩;obtain ⟨s,hs⟩:=NR (f:=g+1) (out:=out) hx hd;refine ⟨out++s,hs.trans ?_⟩
  have hd2:bs.drop (goT bs (n+x.length) 0) = csT r:=by
   rw [OO,←List.drop_drop,hd,List.drop_left]
  rw [G1,hd2]
  rcases hcs:csT r with _ | ⟨c,l⟩
  ·rfl
  ·simp only;rw [hcs] at hr;simp only [Fo,Bool.or_eq_false_iff,beq_eq_false_iff_ne] at hr;rw [if_neg (by omega)]
theorem QC {x b y:List UInt8} (hx:Str1 x) (hb:Blk b) (hy:Td y):Td (x++(b++y)):=by
 refine ⟨?_,fun bs f n r out hd hf hr=>?_⟩
 ·obtain ⟨c,z,rfl,h2,_⟩:=hx; exact ⟨c,_,rfl,h2⟩
 ·obtain ⟨g,rfl⟩:∃ g,f = g+1:=⟨f - 1,by omega⟩
  have hp:0 < x.length:=by obtain ⟨c,y,rfl,_⟩:=hx; simp
  have hd0:bs.drop n = x++(b++(y++r)):=by rw [hd]; simp only [List.append_assoc]
  obtain ⟨s,hs⟩:=NR (f:=g) (out:=out) hx hd0
  have hd1:bs.drop (n+x.length) = b++(y++r):=by rw [←List.drop_drop,hd0,List.drop_left]
  have hk:skT false (y++r) = 0:=by
   obtain ⟨c,z,rfl,h2⟩:=hy.1;exact Ey (CX (by omega)) (by omega)
  have hg:goT bs (n+x.length) 0 = n+x.length+b.length:=by rw [F3,hd1,hb,hk]; omega
  have hd2:bs.drop (n+x.length+b.length) = y++r:=by rw [←List.drop_drop,hd1,List.drop_left]
  obtain ⟨s2,hs2⟩:=hy.2 bs g (n+x.length+b.length) r (out++s) hd2 (by simp at hf; omega) hr;refine ⟨s2,?_⟩;rw [hs,hg,hs2,List.length_append,List.length_append]
  congr 3
  omega
theorem L4 (ps:List UInt8):∀ (m:Nat) (s:WS),∃ x,Td x∧(Gb ps (m+1) s).out = s.out++x∧(Gb ps (m+1) s).l = s.l∧(Gb ps (m+1) s).left = s.left
 | 0,s=>by
  obtain ⟨x,hx,h1,h2,h3⟩:=NS ps s;exact ⟨x,QD hx,h1,h2,h3⟩
 | m+1,s=>by
  obtain ⟨x,hx,h1,h2,h3⟩:=NS ps s;obtain ⟨b,hb,e1,e2,e3,_⟩:=A4 ps false (Ex ps s);obtain ⟨y,hy,f1,f2,f3⟩:=L4 ps m (Al ps false (Ex ps s))
  have e:Gb ps (m+1+1) s = Gb ps (m+1) (Al ps false (Ex ps s)):=by
   rw [Gb,if_pos (by omega)]
  rw [e];exact ⟨x++(b++y),QC hx hb hy,by rw [f1,e1,h1]; simp,by rw [f2,e2,h2],by rw [f3,e3,h3]⟩
theorem Sw {x:List UInt8} (h:Td x):ScalLex x:=by
 obtain ⟨⟨c,y,rfl,hc⟩,h2⟩:=h;refine ⟨⟨c,y,rfl,CX (by omega),by omega⟩,fun bs n r hd hr=>?_⟩
 have hlen:bs.length = n+(c::y).length+r.length:=by
  have:=congrArg List.length hd;simp at this ⊢; omega
 obtain ⟨s,hs⟩:=h2 bs (bs.length+1) n r [] hd (by omega) hr.2;refine ⟨⟨3,2,false,0,n,(bs.drop n).take (goT bs (n+(c::y).length) 0 - n),s⟩,?_,rfl,rfl,fun hq=>?_⟩
 ·unfold Bg;rw [hd,List.cons_append];simp only;rw [if_pos hc,hs]
 ·exfalso
  simp only [Fo,Bool.or_eq_false_iff,beq_eq_false_iff_ne] at hq;omega
theorem Gc (ps:List UInt8) (s:WS):∃ x,ScalLex x∧(Bn ps s).out = s.out++x∧(Bn ps s).l = s.l++[⟨3,0,s.out.length,false,x,[]⟩]∧(Bn ps s).left = s.left:=by
 have fin:∀ s2:WS,(∃ x,ScalLex x∧s2.out = s.out++x∧s2.l = s.l∧s2.left = s.left)→∃ x,ScalLex x∧(Cp 3 s.out.length s2).out = s.out++x∧(Cp 3 s.out.length s2).l = s.l++[⟨3,0,s.out.length,false,x,[]⟩]∧(Cp 3 s.out.length s2).left = s.left:=by
  rintro s2 ⟨x,hx,h1,h2,h3⟩;refine ⟨x,hx,h1,?_,h3⟩;unfold Cp;simp only [h2,h1,List.drop_left]
 unfold Bn;simp only;refine fin _ ?_
 split
 ·exact Ok ps (Ab ps s)
 ·split
  ·obtain ⟨x,hx,h1,h2,h3⟩:=Ds ps IU (Ab ps s) (by decide);exact ⟨x,OB (List.all_eq_true.1 lits_ok x hx),h1,h2,h3⟩
  ·rw [Nat.add_comm 1];obtain ⟨x,hx,h1,h2,h3⟩:=L4 ps (Ah ps (Ab ps s).k 3) (Ab ps (Ab ps s));exact ⟨x,Sw hx,h1,h2,h3⟩
end
section
variable {bs:List UInt8} {ps:List UInt8}
def ReadsW (bs st:List UInt8) (last:Nat) (post:Nat→Prop) (s s':WS):Prop:=
 ∀ a,At bs s.out.length st last a→∃ a' Y Z last',Chain bs a Y a'∧s'.l = s.l++Z∧ToksOk Y Z∧At bs s'.out.length st last' a'∧post last'
theorem ReadsW.comp {st:List UInt8} {last:Nat} {post1 post2:Nat→Prop} {s s1 s2:WS} (h1:ReadsW bs st last post1 s s1) (h2:∀ last1,post1 last1→ReadsW bs st last1 post2 s1 s2):ReadsW bs st last post2 s s2:=by
 intro a ha;obtain ⟨a1,Y1,Z1,l1,c1,e1,t1,A1,p1⟩:=h1 a ha;obtain ⟨a2,Y2,Z2,l2,c2,e2,t2,A2,p2⟩:=h2 l1 p1 a1 A1;exact ⟨a2,Y1++Y2,Z1++Z2,l2,c1.trans c2,by rw [e2,e1,List.append_assoc],t1.append t2,A2,p2⟩
theorem EW {a a':DT} {t:TX} {k:Nat} (h:BK bs a = some a') (hk:a'.tok.kind = k) (hk2:¬ Cm k∧k≠1) (ht:TokOk a'.tok t):Chain bs a [a'.tok] a'∧ToksOk [a'.tok] [t]:=
 ⟨.tok h (by rw [hk]; exact hk2.1) (by rw [hk]; exact hk2.2) (.nil _),.cons ht .nil⟩
theorem DS {st r:List UInt8} {last:Nat} {b:Bool} {s:WS} (hb:bs = (Al ps b s).out++r):ReadsW bs st last (· = last) s (Al ps b s):=by
 obtain ⟨x,hx,e1,e2,_,_⟩:=A4 ps b s;intro a ha;refine ⟨a,[],[],last,.nil _,by rw [e2,List.append_nil],.nil,?_,rfl⟩;rw [e1] at hb ⊢;exact ha.blank (r:=r) (by rw [hb,List.append_assoc]) hx
def NoQ (r:List UInt8):Prop:=Fo (csT r) = false
def ML (f:WS→WS):Prop:=∀ s,∃ X,(f s).out = s.out++X∧(X = []∨∃ c y,X = c::y∧Kp c)
def Iq (open_ n:Nat):Prop:=n = open_∨Cs n∨Cm n
structure GoodF (ps:List UInt8) (f:WS→WS):Prop where
 adds:ML f
 reads:∀ (bs st r:List UInt8) (last open_:Nat) (s:WS),Fx st last→Iq open_ last→NoQ r→bs = (f s).out++r→ReadsW bs st last (Iq open_) s (f s)
theorem Jx {c:UInt8} {r:List UInt8} (h1:Cc c = false) (h2:c.toNat≠35) (h3:c.toNat≠34∧c.toNat≠39):NoQ (c::r):=by
 unfold NoQ;rw [JF h1 h2];simp [Fo,h3]
theorem KC {b r:List UInt8} (hb:Blk b) (h:NoQ r):NoQ (b++r):=by unfold NoQ; rw [KE hb]; exact h
theorem OH:GoodF ps id:=⟨fun s=>⟨[],by simp,.inl rfl⟩,fun bs st r last open_ s _ hE _ _ a ha=>⟨a,[],[],last,.nil _,by simp,.nil,ha,hE⟩⟩
theorem Sh {X r:List UInt8} (hX:X = []∨∃ c y,X = c::y∧Kp c) (hr:NoQ r):NoQ (X++r):=by
 rcases hX with rfl | ⟨c,y,rfl,hc⟩
 ·exact hr
 ·exact Jx hc.1 hc.2.1 ⟨hc.2.2.1,hc.2.2.2.1⟩
theorem Iy (inner:WS→WS) (hi:ML inner) (s:WS):∃ c X,(B8 ps inner s).out = s.out++c::X∧(c.toNat = 123∨c.toNat = 60):=by
 unfold B8;simp only;obtain ⟨b,_,e1,_⟩:=A4 ps false (Cp 4 ((AU [if 0 < Ah ps s.k 2 then 60 else 123] (Ab ps s)).out.length - 1) (AU [if 0 < Ah ps s.k 2 then 60 else 123] (Ab ps s)));obtain ⟨X,f1,_⟩:=hi (Al ps false (Cp 4 ((AU [if 0 < Ah ps s.k 2 then 60 else 123] (Ab ps s)).out.length - 1) (AU [if 0 < Ah ps s.k 2 then 60 else 123] (Ab ps s))));refine ⟨if 0 < Ah ps s.k 2 then 60 else 123,b++X++[if 0 < Ah ps s.k 2 then 62 else 125],?_,by split <;> simp⟩;simp only [Cp,AU,Ab] at e1 f1 ⊢;rw [f1,e1]; simp
theorem Iu {inner:WS→WS} (hi:GoodF ps inner) {st r:List UInt8} {last:Nat} {s:WS} (hV:Hi st last) (hb:bs = (B8 ps inner s).out++r):ReadsW bs st last (· = 5) s (B8 ps inner s):=by
 unfold B8 at hb ⊢;simp only at hb ⊢
 obtain ⟨c,hc⟩:∃ c:UInt8,c = if 0 < Ah ps s.k 2 then 60 else 123:=⟨_,rfl⟩
 obtain ⟨d,hd⟩:∃ d:UInt8,d = if 0 < Ah ps s.k 2 then 62 else 125:=⟨_,rfl⟩
 have hcd:c.toNat = 123∧d.toNat = 125∨c.toNat = 60∧d.toNat = 62:=by
  rw [hc,hd]; split
  ·exact .inr ⟨rfl,rfl⟩
  ·exact .inl ⟨rfl,rfl⟩
 rw [←hc,←hd] at hb ⊢;clear hc hd;generalize hs1:Cp 4 ((AU [c] (Ab ps s)).out.length - 1) (AU [c] (Ab ps s)) = s1 at hb ⊢
 have o1:s1.out = s.out++[c]:=by rw [←hs1]; try rfl
 have l1:s1.l = s.l++[⟨4,0,s.out.length,false,[c],[]⟩]:=by
  rw [←hs1];unfold Cp AU Ab;simp
 generalize hs2:Al ps false s1 = s2 at hb ⊢;generalize hs3:inner s2 = s3 at hb ⊢;obtain ⟨b,hbk,e1,_⟩:=A4 ps false s1;obtain ⟨X,f1,f2⟩:=hi.adds s2;rw [hs2] at e1;rw [hs3] at f1
 have hb3:bs = s3.out++([d]++r):=by rw [hb]; show (s3.out++[d])++r = _; simp
 have hb2:bs = s2.out++(X++([d]++r)):=by rw [hb3,f1,List.append_assoc]
 have hb1:bs = s.out++([c]++(b++(X++([d]++r)))):=by rw [hb2,e1,o1]; simp
 intro a ha;obtain ⟨a1,g1,g2,g3,g4⟩:=O9 ha hV hb1 (by omega);obtain ⟨k1,k2⟩:=EW g1 g2 ⟨by unfold Cm; decide,by decide⟩ g3;rw [←o1] at g4;obtain ⟨a2,Y2,Z2,last2,c2,m2,t2,A2,rfl⟩:=DS (ps:=ps) (b:=false) (s:=s1) (bs:=bs) (r:=X++([d]++r)) (by rw [hs2]; exact hb2) a1 g4;rw [hs2] at m2 A2;have ho:=Ij st c;rw [if_neg (by omega)] at ho;obtain ⟨a3,Y3,Z3,last3,c3,m3,t3,A3,p3⟩:=hi.reads bs (st++[c]) ([d]++r) 4 4 s2 (.inr ⟨ho.1,.inl rfl⟩) (.inl rfl) (Jx (CX (by omega)) (by omega) (by omega)) (by rw [hs3]; exact hb3) a2 A2;rw [hs3] at m3 A3;obtain ⟨a4,q1,q2,q3,q4⟩:=NY A3 hb3 hcd p3;obtain ⟨u1,u2⟩:=EW q1 q2 ⟨by unfold Cm; decide,by decide⟩ q3;refine ⟨a4,[a1.tok]++(Y2++(Y3++[a4.tok])),[⟨4,0,s.out.length,false,[c],[]⟩]++(Z2++(Z3++[⟨5,0,s3.out.length,false,[d],[]⟩])),5,k1.trans (c2.trans (c3.trans u1)),?_,k2.append (t2.append (t3.append u2)),?_,rfl⟩
 ·show s3.l++[⟨5,0,(s3.out++[d]).length - 1,false,(s3.out++[d]).drop ((s3.out++[d]).length - 1),[]⟩] = _
  rw [m3,m2,l1]; simp
 ·exact q4
theorem Hb (inner:WS→WS) (hi:ML inner) (deep:Nat):∀ (n:Nat) (s:WS),∃ X,(listL ps inner deep n s).out = s.out++X
 | 0,s=>⟨[],by simp [listL]⟩
 | n+1,s=>by
  unfold listL
  split
  ·exact ⟨[],by simp⟩
  ·simp only
   have one:∀ s1:WS,s1.out = s.out→∃ X,(if deep < 8 then (if Ah ps s1.k 3 = 2 then B8 ps inner (Ab ps s1) else Bn ps (Ab ps s1)) else Bn ps s1).out = s.out++X:=by
    intro s1 h1
    split
    ·split
     ·obtain ⟨c,X,e,_⟩:=Iy (ps:=ps) inner hi (Ab ps s1);exact ⟨_,by rw [e]; show s1.out++_ = _; rw [h1]⟩
     ·obtain ⟨x,_,e,_⟩:=Gc ps (Ab ps s1);exact ⟨_,by rw [e]; show s1.out++_ = _; rw [h1]⟩
    ·obtain ⟨x,_,e,_⟩:=Gc ps s1;exact ⟨_,by rw [e,h1]⟩
   obtain ⟨X,hX⟩:=one { s with left:=s.left - 1 } rfl;generalize (if deep < 8 then (if Ah ps _ 3 = 2 then B8 ps inner (Ab ps _) else Bn ps (Ab ps _)) else Bn ps _) = s2 at *;obtain ⟨b,_,e1,_⟩:=A4 ps false s2;generalize hs4:(if 1 < n+1∧0 < (Al ps false s2).left then Al ps false (AU [44] (Al ps false s2)) else Al ps false s2) = s4
   obtain ⟨W,hW⟩:∃ W,s4.out = s.out++W:=by
    rw [←hs4]
    split
    ·obtain ⟨b2,_,e2,_⟩:=A4 ps false (AU [44] (Al ps false s2));exact ⟨X++(b++([44]++b2)),by rw [e2]; show (Al ps false s2).out++[44]++b2 = _; rw [e1,hX]; simp⟩
    ·exact ⟨X++b,by rw [e1,hX]; simp⟩
   obtain ⟨V,hV⟩:=Hb inner hi deep n s4;exact ⟨W++V,by rw [hV,hW]; simp⟩
def InL (r:List UInt8):Prop:=∃ b c y,r = b++c::y∧Blk b∧(c.toNat = 44∨c.toNat = 93)
theorem Ra {r:List UInt8} (h:InL r):LQ r:=by
 obtain ⟨b,c,y,rfl,hb,hc⟩:=h;refine ⟨H7 hb (by show EI c = true; unfold EI; simp; omega),?_⟩;exact KC hb (Jx (CX (by omega)) (by omega) (by omega))
theorem G3 {st r:List UInt8} {last:Nat} {s:WS} (hV:Hi st last) (hr:LQ r) (hb:bs = (Bn ps s).out++r):ReadsW bs st last (· = 3) s (Bn ps s):=by
 obtain ⟨x,hx,e1,e2,_⟩:=Gc ps s;intro a ha;rw [e1] at hb;obtain ⟨a1,g1,g2,g3,g4⟩:=NX ha hV hx (r:=r) (by rw [hb]; simp) hr;obtain ⟨k1,k2⟩:=EW g1 g2 ⟨by unfold Cm; decide,by decide⟩ g3;exact ⟨a1,_,_,3,k1,e2,k2,by rw [e1]; exact g4,rfl⟩
def LA (ps:List UInt8) (inner:WS→WS) (deep:Nat) (s1:WS):WS:=if deep < 8 then (if Ah ps s1.k 3 = 2 then B8 ps inner (Ab ps s1) else Bn ps (Ab ps s1)) else Bn ps s1
theorem Pg {inner:WS→WS} (hi:GoodF ps inner) {deep:Nat} {st r:List UInt8} {last:Nat} {s:WS} (hV:Hi st last) (hr:LQ r) (hb:bs = (LA ps inner deep s).out++r):ReadsW bs st last Cs s (LA ps inner deep s):=by
 have w:∀ {n:Nat} {s':WS},(n = 3∨n = 5)→ReadsW bs st last (· = n) s s'→ReadsW bs st last Cs s s':=by
  intro n s' hn h a ha;obtain ⟨a1,Y,Z,l,c,e,t,A,rfl⟩:=h a ha;exact ⟨a1,Y,Z,l,c,e,t,A,by unfold Cs; omega⟩
 unfold LA at hb ⊢
 split at hb
 ·rename_i h8
  rw [if_pos h8]
  split at hb
  ·rename_i h2
   rw [if_pos h2];exact w (.inr rfl) (Iu hi hV hb (s:=Ab ps s))
  ·rename_i h2
   rw [if_neg h2];exact w (.inl rfl) (G3 hV hr hb (s:=Ab ps s))
 ·rename_i h8
  rw [if_neg h8];exact w (.inl rfl) (G3 hV hr hb)
theorem Lx (inner:WS→WS) (deep n:Nat) (s:WS):listL ps inner deep (n+1) s = if s.left = 0 then s else
  listL ps inner deep n (if 1 < n+1∧0 < (Al ps false (LA ps inner deep { s with left:=s.left - 1 })).left then Al ps false (AU [44] (Al ps false (LA ps inner deep { s with left:=s.left - 1 }))) else Al ps false (LA ps inner deep { s with left:=s.left - 1 })):=rfl
theorem Pw (inner:WS→WS) (deep:Nat) (s:WS):listL ps inner deep 0 s = s:=rfl
theorem Ka {inner:WS→WS} (hi:GoodF ps inner) {deep:Nat} {st:List UInt8} (ho:Av st = 6):∀ (n:Nat) (s:WS) (last:Nat) (y:List UInt8),(last = 6∨last = 8∧0 < n∧0 < s.left)→bs = (listL ps inner deep n s).out++93::y→ReadsW bs st last (fun l=>l = 6∨Cs l) s (listL ps inner deep n s)
 | 0,s,last,y,hl,hb=>fun a ha=>⟨a,[],[],last,.nil _,by rw [Pw]; simp,.nil,ha,by omega⟩
 | n+1,s,last,y,hl,hb=>by
  rw [Lx] at hb ⊢
  split at hb
  ·rename_i h0
   rw [if_pos h0];exact fun a ha=>⟨a,[],[],last,.nil _,by simp,.nil,ha,by omega⟩
  ·rename_i h0
   rw [if_neg h0]
   have hV:Hi st last:=by
    rcases hl with rfl | ⟨rfl,_⟩
    ·exact .inr (.inl rfl)
    ·exact .inr (.inr ⟨rfl,ho⟩)
   generalize hs2:LA ps inner deep { s with left:=s.left - 1 } = s2 at hb ⊢;obtain ⟨b,hbk,e1,e2,e3,_⟩:=A4 ps false s2;generalize hs3:Al ps false s2 = s3 at hb ⊢ e1 e2 e3
   have first:∀ r,bs = s3.out++r→InL r→ReadsW bs st last Cs s s3:=by
    intro r hbr hr;refine ReadsW.comp (s1:=s2) (post1:=Cs) ?_ fun l1 h1=>?_
    ·have:=Pg (bs:=bs) hi (deep:=deep) (r:=b++r) (s:={ s with left:=s.left - 1 }) hV (by
      obtain ⟨b',c,y,rfl,hb',hc⟩:=hr
      exact Ra ⟨b++b',c,y,by simp,S5 hbk hb',hc⟩) (by rw [hs2,hbr,e1]; simp)
     rw [hs2] at this;exact this
    ·have:=DS (ps:=ps) (bs:=bs) (st:=st) (last:=l1) (b:=false) (s:=s2) (r:=r) (by rw [hs3]; exact hbr);rw [hs3] at this
     exact fun a ha=>by
      obtain ⟨a',Y,Z,l,c,e,t,A,rfl⟩:=this a ha;exact ⟨a',Y,Z,l,c,e,t,A,h1⟩
   split at hb
   ·rename_i hc
    rw [if_pos hc];obtain ⟨b2,hb2,f1,f2,f3,_⟩:=A4 ps false (AU [44] s3);generalize hs4:Al ps false (AU [44] s3) = s4 at hb ⊢ f1 f2 f3;obtain ⟨V,hV4⟩:=Hb (ps:=ps) inner hi.adds deep n s4
    have hb4:bs = s4.out++(V++93::y):=by rw [hb,hV4]; simp
    have hb3:bs = s3.out++([44]++(b2++(V++93::y))):=by rw [hb4,f1]; simp [AU]
    refine ReadsW.comp (first _ hb3 ⟨[],44,_,rfl,Blk.nil,.inl rfl⟩) fun l1 h1=>?_;refine ReadsW.comp (s1:=s4) (post1:=(· = 8)) ?_ fun l2 h2=>?_
    ·intro a ha;obtain ⟨a1,g1,g2,g3⟩:=NW ha hb3 (.inl rfl) h1 (.inr (.inr ho));obtain ⟨a2,Y2,Z2,l2,c2,m2,t2,A2,rfl⟩:=DS (ps:=ps) (bs:=bs) (st:=st) (b:=false) (s:=AU [44] s3) (r:=V++93::y) (by rw [hs4]; exact hb4) a1 g3;rw [hs4] at m2 A2;exact ⟨a2,Y2,Z2,8,.comma g1 (by rw [g2]; exact .inl rfl) c2,m2,t2,A2,rfl⟩
    ·subst h2;exact Ka hi ho n s4 8 y (.inr ⟨rfl,by omega,by rw [f3]; exact hc.2⟩) hb
   ·rename_i hc
    rw [if_neg hc]
    -- no value behind this one
    have hend:listL ps inner deep n s3 = s3:=by
     cases n with
     | zero=>rfl
     | succ n=>rw [Lx,if_pos (by omega)]
    rw [hend] at hb ⊢
    have:=first _ hb ⟨[],93,y,rfl,Blk.nil,.inr rfl⟩
    exact fun a ha=>by
     obtain ⟨a',Y,Z,l,c,e,t,A,h⟩:=this a ha;exact ⟨a',Y,Z,l,c,e,t,A,.inr h⟩
theorem Pv (inner:WS→WS) (hi:ML inner) (deep:Nat) (s:WS):∃ X,(GV ps inner deep s).out = s.out++91::X:=by
 unfold GV;simp only;generalize hs1:Cp 6 ((AU [91] s).out.length - 1) (AU [91] s) = s1
 have o1:s1.out = s.out++[91]:=by rw [←hs1]; try rfl
 obtain ⟨b,_,e1,_⟩:=A4 ps false s1;generalize Al ps false s1 = s2 at *;obtain ⟨V,hV⟩:=Hb (ps:=ps) inner hi deep (Ah ps s2.k 5) (Ab ps s2);refine ⟨b++(V++[93]),?_⟩
 show (listL ps inner deep (Ah ps s2.k 5) (Ab ps s2)).out++[93] = _
 rw [hV]
 show s2.out++V++[93] = _
 rw [e1,o1]; simp
theorem Pf {inner:WS→WS} (hi:GoodF ps inner) {deep:Nat} {st r:List UInt8} {s:WS} (hb:bs = (GV ps inner deep s).out++r):ReadsW bs st 2 (· = 7) s (GV ps inner deep s):=by
 unfold GV at hb ⊢;simp only at hb ⊢;generalize hs1:Cp 6 ((AU [91] s).out.length - 1) (AU [91] s) = s1 at hb ⊢
 have o1:s1.out = s.out++[91]:=by rw [←hs1]; try rfl
 have l1:s1.l = s.l++[⟨6,0,s.out.length,false,[91],[]⟩]:=by
  rw [←hs1];unfold Cp AU;simp
 generalize hs2:Al ps false s1 = s2 at hb ⊢;obtain ⟨b,hbk,e1,_⟩:=A4 ps false s1;rw [hs2] at e1;generalize hs3:listL ps inner deep (Ah ps s2.k 5) (Ab ps s2) = s3 at hb ⊢;obtain ⟨V,hV⟩:=Hb (ps:=ps) inner hi.adds deep (Ah ps s2.k 5) (Ab ps s2);rw [hs3] at hV
 have hb3:bs = s3.out++([93]++r):=by rw [hb]; show (s3.out++[93])++r = _; simp
 have hb2:bs = s2.out++(V++([93]++r)):=by rw [hb3,hV]; show s2.out++V++_ = _; simp
 have hb1:bs = s.out++([91]++(b++(V++([93]++r)))):=by rw [hb2,e1,o1]; simp
 intro a ha;obtain ⟨a1,g1,g2,g3,g4⟩:=Pa ha hb1 rfl;obtain ⟨k1,k2⟩:=EW g1 g2 ⟨by unfold Cm; decide,by decide⟩ g3;rw [←o1] at g4;obtain ⟨a2,Y2,Z2,last2,c2,m2,t2,A2,rfl⟩:=DS (ps:=ps) (b:=false) (s:=s1) (bs:=bs) (r:=V++([93]++r)) (by rw [hs2]; exact hb2) a1 g4;rw [hs2] at m2 A2;have ho:=Ij st 91;rw [if_pos (by rfl)] at ho;obtain ⟨a3,Y3,Z3,last3,c3,m3,t3,A3,p3⟩:=Ka (ps:=ps) (bs:=bs) hi (deep:=deep) ho.1 (Ah ps s2.k 5) (Ab ps s2) 6 r (.inl rfl) (by rw [hs3]; exact hb3) a2 A2;rw [hs3] at m3 A3;obtain ⟨a4,q1,q2,q3,q4⟩:=NZ A3 hb3 ⟨rfl,rfl⟩ p3;obtain ⟨u1,u2⟩:=EW q1 q2 ⟨by unfold Cm; decide,by decide⟩ q3;refine ⟨a4,[a1.tok]++(Y2++(Y3++[a4.tok])),[⟨6,0,s.out.length,false,[91],[]⟩]++(Z2++(Z3++[⟨7,0,s3.out.length,false,[93],[]⟩])),7,k1.trans (c2.trans (c3.trans u1)),?_,k2.append (t2.append (t3.append u2)),?_,rfl⟩
 ·show s3.l++[⟨7,0,(s3.out++[93]).length - 1,false,(s3.out++[93]).drop ((s3.out++[93]).length - 1),[]⟩] = _
  rw [m3]
  show s2.l++Z3++_ = _
  rw [m2,l1]; simp
 ·exact q4
def Fl (ps:List UInt8) (deep:Nat) (s1:WS):WS:=
 let s2:=Ab ps s1
 if (if 8 < deep then 0 else Ah ps s1.k 6) < 4 then Al ps false (AU [58] (F6 s2)) else if 0 < Ah ps s2.k 2 then Al ps false (AU [58] (F6 (Ab ps s2))) else Ab ps s2
def GZ (ps:List UInt8) (inner:WS→WS) (deep:Nat) (kind:Nat) (s3:WS):WS:=if kind = 4 then B8 ps inner s3 else if kind = 5 then GV ps inner deep s3 else Bn ps s3
def JH (ps:List UInt8) (s4:WS):WS:=if 0 < Ah ps s4.k 3 then Al ps false (BH ps FV (Ab ps s4)) else Al ps true (Ab ps s4)
def Gj (ps:List UInt8) (deep:Nat) (s1:WS):Nat:=if 8 < deep then 0 else Ah ps s1.k 6
theorem MB (inner:WS→WS) (deep:Nat) (s:WS):Ek ps inner deep s = JH ps (Al ps false (GZ ps inner deep (Gj ps deep (Al ps false (DG ps s))) (Fl ps deep (Al ps false (DG ps s))))):=rfl
theorem Kn (ps:List UInt8) (s:WS):∃ x,(JH ps s).out = s.out++x∧(JH ps s).l = s.l∧(JH ps s).left = s.left∧((∃ d b,x = [d]++b∧Blk b∧(d.toNat = 44∨d.toNat = 59))∨(Blk x∧El x = true∧x≠[])):=by
 unfold JH
 split
 ·obtain ⟨d,hd,h1,h2,h3⟩:=Ds ps FV (Ab ps s) (by decide);obtain ⟨b,hb,e1,e2,e3,_⟩:=A4 ps false (BH ps FV (Ab ps s))
  have:d = [44]∨d = [59]:=by simpa [FV] using hd
  refine ⟨d++b,by rw [e1,h1]; simp [Ab],by rw [e2,h2]; try rfl,by rw [e3,h3]; try rfl,.inl ?_⟩
  rcases this with rfl | rfl
  ·exact ⟨44,b,rfl,hb,.inl rfl⟩
  ·exact ⟨59,b,rfl,hb,.inr rfl⟩
 ·obtain ⟨b,hb,e1,e2,e3,h⟩:=A4 ps true (Ab ps s);obtain ⟨c,y,rfl,hc⟩:=h rfl;refine ⟨c::y,e1,e2,e3,.inr ⟨hb,?_,by simp⟩⟩
  show EI c = true
  unfold Cc at hc;unfold EI;simp at hc ⊢;omega
theorem sepW_l (s:WS) (l:List TX) (t:TX) (h:s.l = l++[t]):(F6 s).l = l++[{ t with sep:=true }]:=by
 unfold F6;simp [h]
theorem J3 (inner:WS→WS) (hi:ML inner) (deep kind:Nat) (s:WS):∃ X,(GZ ps inner deep kind s).out = s.out++X∧(4≤kind→kind < 6→∃ c y,X = c::y∧(c.toNat = 123∨c.toNat = 60∨c.toNat = 91)):=by
 unfold GZ
 split
 ·obtain ⟨c,X,h,hc⟩:=Iy (ps:=ps) inner hi s;exact ⟨_,h,fun _ _=>⟨c,X,rfl,by omega⟩⟩
 ·split
  ·obtain ⟨X,h⟩:=Pv (ps:=ps) inner hi deep s;exact ⟨_,h,fun _ _=>⟨91,X,rfl,.inr (.inr rfl)⟩⟩
  ·obtain ⟨x,_,h,_⟩:=Gc ps s;exact ⟨x,h,fun h1 h2=>by omega⟩
theorem OK (inner:WS→WS) (hi:ML inner) (deep:Nat) (s:WS):∃ c X,(Ek ps inner deep s).out = s.out++c::X∧Kp c:=by
 rw [MB];obtain ⟨x,nk,str,hx,h1,_⟩:=Mr ps s;obtain ⟨c,y,rfl,hc⟩:=hx.head;obtain ⟨b,_,e1,_⟩:=A4 ps false (DG ps s);generalize Al ps false (DG ps s) = s1 at *
 obtain ⟨X,hX⟩:∃ X,(Fl ps deep s1).out = s1.out++X:=by
  unfold Fl;simp only;generalize (if 8 < deep then 0 else Ah ps s1.k 6) = kk
  split
  ·obtain ⟨b2,_,e2,_⟩:=A4 ps false (AU [58] (F6 (Ab ps s1)));exact ⟨[58]++b2,by rw [e2]; simp [AU,F6,Ab]⟩
  ·split
   ·obtain ⟨b2,_,e2,_⟩:=A4 ps false (AU [58] (F6 (Ab ps (Ab ps s1))));exact ⟨[58]++b2,by rw [e2]; simp [AU,F6,Ab]⟩
   ·exact ⟨[],by simp [Ab]⟩
 obtain ⟨V,hV,_⟩:=J3 (ps:=ps) inner hi deep (Gj ps deep s1) (Fl ps deep s1);obtain ⟨b3,_,e3,_⟩:=A4 ps false (GZ ps inner deep (Gj ps deep s1) (Fl ps deep s1));obtain ⟨z,hz,_⟩:=Kn ps (Al ps false (GZ ps inner deep (Gj ps deep s1) (Fl ps deep s1)));refine ⟨c,y++(b++(X++(V++(b3++z)))),?_,hc⟩;rw [hz,e3,hV,hX,e1,h1]; simp
theorem PM (deep:Nat) (s1:WS) (l:List TX) (t:TX) (h:s1.l = l++[t]):∃ b,Blk b∧(Fl ps deep s1).out = s1.out++([58]++b)∧(Fl ps deep s1).l = l++[{ t with sep:=true }]∨(Fl ps deep s1).out = s1.out∧(Fl ps deep s1).l = s1.l∧¬ Gj ps deep s1 < 4:=by
 have fin:∀ s2:WS,s2.out = s1.out→s2.l = s1.l→∃ b,Blk b∧(Al ps false (AU [58] (F6 s2))).out = s1.out++([58]++b)∧(Al ps false (AU [58] (F6 s2))).l = l++[{ t with sep:=true }]:=by
  intro s2 h1 h2;obtain ⟨b,hb,e1,e2,_⟩:=A4 ps false (AU [58] (F6 s2));refine ⟨b,hb,by rw [e1]; simp [AU,F6,h1],?_⟩;rw [e2];exact sepW_l s2 l t (by rw [h2,h])
 unfold Fl;simp only
 show ∃ b,Blk b∧(if Gj ps deep s1 < 4 then _ else _:WS).out = _∧(if Gj ps deep s1 < 4 then _ else _:WS).l = _∨(if Gj ps deep s1 < 4 then _ else _:WS).out = _∧(if Gj ps deep s1 < 4 then _ else _:WS).l = _∧¬ Gj ps deep s1 < 4
 generalize Gj ps deep s1 = kk
 split
 ·obtain ⟨b,h⟩:=fin (Ab ps s1) rfl rfl;exact ⟨b,.inl h⟩
 ·rename_i hk
  split
  ·obtain ⟨b,h⟩:=fin (Ab ps (Ab ps s1)) rfl rfl;exact ⟨b,.inl h⟩
  ·exact ⟨[],.inr ⟨rfl,rfl,hk⟩⟩
theorem M6 {inner:WS→WS} (hi:GoodF ps inner) {deep kind:Nat} {st r:List UInt8} {s:WS} (hr:LQ r) (hb:bs = (GZ ps inner deep kind s).out++r):ReadsW bs st 2 Cs s (GZ ps inner deep kind s):=by
 have w:∀ {n:Nat} {s':WS},(n = 3∨n = 5∨n = 7)→ReadsW bs st 2 (· = n) s s'→ReadsW bs st 2 Cs s s':=by
  intro n s' hn h a ha;obtain ⟨a1,Y,Z,l,c,e,t,A,rfl⟩:=h a ha;exact ⟨a1,Y,Z,l,c,e,t,A,hn⟩
 unfold GZ at hb ⊢
 split at hb
 ·rename_i h4
  rw [if_pos h4];exact w (.inr (.inl rfl)) (Iu hi (.inl rfl) hb)
 ·rename_i h4
  rw [if_neg h4]
  split at hb
  ·rename_i h5
   rw [if_pos h5];exact w (.inr (.inr rfl)) (Pf hi hb)
  ·rename_i h5
   rw [if_neg h5];exact w (.inl rfl) (G3 (.inl rfl) hr hb)
theorem Sy (deep:Nat) (s:WS):Gj ps deep s < 6:=by
 unfold Gj
 split
 ·decide
 ·exact Jp ps s.k 6 (by decide)
theorem LJ {st:List UInt8} {last:Nat} (h:Fx st last):Av st = 0∨Av st = 4:=by
 rcases h with h | h
 ·exact .inl h.1
 ·exact .inr h.1
theorem N7 {inner:WS→WS} (hi:GoodF ps inner) {deep:Nat} {st r:List UInt8} {last:Nat} {s:WS} (hF:Fx st last) (hr:NoQ r) (hb:bs = (Ek ps inner deep s).out++r):ReadsW bs st last (fun n=>Cs n∨Cm n) s (Ek ps inner deep s):=by
 rw [MB] at hb ⊢;obtain ⟨x,nk,str,hx,o1,l1,_⟩:=Mr ps s;obtain ⟨b,hbk,e1,e2,_⟩:=A4 ps false (DG ps s);generalize hs1:Al ps false (DG ps s) = s1 at hb ⊢ e1 e2;have hk6:=Sy (ps:=ps) deep s1;have hcol:=PM (ps:=ps) deep s1 s.l ⟨2,nk,s.out.length,false,x,str⟩ (by rw [e2,l1]);generalize hs3:Fl ps deep s1 = s3 at hb ⊢ hcol;generalize hkd:Gj ps deep s1 = kind at *;obtain ⟨V,hV,hVh⟩:=J3 (ps:=ps) inner hi.adds deep kind s3;generalize hs4:GZ ps inner deep kind s3 = s4 at hb ⊢ hV;obtain ⟨b4,hb4,f1,f2,_⟩:=A4 ps false s4;generalize hs5:Al ps false s4 = s5 at hb ⊢ f1 f2;obtain ⟨z,g1,g2,_,gz⟩:=Kn ps s5
 have hbz:bs = s5.out++(z++r):=by rw [hb,g1]; simp
 have hb4':bs = s4.out++(b4++(z++r)):=by rw [hbz,f1]; simp
 have hb3:bs = s3.out++(V++(b4++(z++r))):=by rw [hb4',hV]; simp
 -- what stands behind the value
 have haft:LQ (b4++(z++r)):=by
  rcases gz with ⟨d,b',rfl,hb',hd⟩ | ⟨hz,hze,hne⟩
  ·refine ⟨H7 hb4 (by show EI d = true; unfold EI; simp; omega),?_⟩;exact KC hb4 (by rw [List.append_assoc]; exact Jx (CX (by omega)) (by omega) (by omega))
  ·refine ⟨H7 hb4 ?_,KC hb4 (KC hz hr)⟩
   cases z with
   | nil=>exact absurd rfl hne
   | cons c z=>exact hze
 -- the name
 refine ReadsW.comp (s1:=s3) (post1:=(· = 2)) ?_ fun l2 h2=>?_
 ·intro a ha;obtain ⟨b3,hcol⟩:=hcol
  rcases hcol with ⟨hb3k,c1,c2⟩ | ⟨c1,c2,hk4⟩
  ·obtain ⟨a1,q1,q2,q3,q4⟩:=Pb (r:=b3++(V++(b4++(z++r)))) ha hF hx hbk (by rw [hb3,c1,e1,o1]; simp);obtain ⟨k1,k2⟩:=EW q1 q2 ⟨by unfold Cm; decide,by decide⟩ q3;refine ⟨a1,_,_,2,k1,c2,k2,?_,rfl⟩;have:=q4.blank (x:=b3) (r:=V++(b4++(z++r))) (by rw [hb3,c1,e1,o1]; simp) hb3k;rw [c1,e1,o1]
   simpa using this
  ·obtain ⟨c,y,rfl,hc⟩:=hVh (by omega) hk6;obtain ⟨a1,q1,q2,q3,q4⟩:=QG (r:=y++(b4++(z++r))) ha hF hx hbk (by rw [hb3,c1,e1,o1]; simp) hc;obtain ⟨k1,k2⟩:=EW q1 q2 ⟨by unfold Cm; decide,by decide⟩ q3;refine ⟨a1,_,_,2,k1,by rw [c2,e2,l1],k2,?_,rfl⟩;rw [c1,e1,o1];exact q4
 ·subst h2;have hv:=M6 (bs:=bs) hi (deep:=deep) (kind:=kind) (st:=st) (s:=s3) haft (by rw [hs4]; exact hb4');rw [hs4] at hv;refine ReadsW.comp hv fun l3 h3=>?_;have hbl:=DS (ps:=ps) (bs:=bs) (st:=st) (last:=l3) (b:=false) (s:=s4) (r:=z++r) (by rw [hs5]; exact hbz);rw [hs5] at hbl;refine ReadsW.comp hbl fun l4 h4=>?_;subst h4;intro a ha
  rcases gz with ⟨d,b',rfl,hb',hd⟩ | ⟨hz,hze,hne⟩
  ·obtain ⟨a1,q1,q2,q3⟩:=NW (d:=d) ha (r:=b'++r) (by rw [hbz]; simp) (by have:=LJ hF; omega) h3 (by have:=LJ hF; omega);have A:=q3.blank (x:=b') (r:=r) (by rw [hbz]; simp) hb'
   have hsk:Cm (if d.toNat = 44 then 8 else 9):=by split; exact .inl rfl; exact .inr rfl
   refine ⟨a1,[],[],_,.comma q1 (by rw [q2]; exact hsk) (.nil _),by rw [g2]; simp,.nil,?_,.inr hsk⟩;rw [g1]
   simpa using A
  ·have A:=ha.blank (x:=z) (r:=r) (by rw [hbz]) hz;exact ⟨a,[],[],l4,.nil _,by rw [g2]; simp,.nil,by rw [g1]; exact A,.inl h3⟩
theorem PH {st:List UInt8} {last n:Nat} (h:Fx st last) (hn:Cs n∨Cm n):Fx st n:=by
 rcases h with h | h
 ·exact .inl ⟨h.1,.inr hn⟩
 ·exact .inr ⟨h.1,.inr hn⟩
theorem GD {inner:WS→WS} (hi:GoodF ps inner) (deep:Nat):∀ f,GoodF ps (fieldsL ps inner deep f)
 | 0=>OH
 | f+1=>by
  have ih:=GD hi deep f;refine ⟨fun s=>?_,fun bs st r last open_ s hF hE hr hb=>?_⟩
  ·unfold fieldsL
   split
   ·exact ⟨[],by simp,.inl rfl⟩
   ·split
    ·exact ⟨[],by simp [Ab],.inl rfl⟩
    ·obtain ⟨c,X,h1,hc⟩:=OK (ps:=ps) inner hi.adds deep { Ab ps s with left:=s.left - 1 };obtain ⟨Y,h2,_⟩:=ih.adds (Ek ps inner deep { Ab ps s with left:=s.left - 1 });exact ⟨c::(X++Y),by rw [h2,h1]; simp [Ab],.inr ⟨c,_,rfl,hc⟩⟩
  ·unfold fieldsL at hb ⊢
   split at hb
   ·rename_i h0
    rw [if_pos h0];exact fun a ha=>⟨a,[],[],last,.nil _,by simp,.nil,ha,hE⟩
   ·rename_i h0
    rw [if_neg h0]
    split at hb
    ·rename_i h1
     rw [if_pos h1];exact fun a ha=>⟨a,[],[],last,.nil _,by simp [Ab],.nil,ha,hE⟩
    ·rename_i h1
     rw [if_neg h1];obtain ⟨X,hX,hXh⟩:=ih.adds (Ek ps inner deep { Ab ps s with left:=s.left - 1 });have h1:=N7 (bs:=bs) hi (deep:=deep) (st:=st) (last:=last) (r:=X++r) (s:={ Ab ps s with left:=s.left - 1 }) hF (Sh hXh hr) (by rw [hb,hX]; simp);have h1':ReadsW bs st last (fun n=>Cs n∨Cm n) s (Ek ps inner deep { Ab ps s with left:=s.left - 1 }):=h1;exact ReadsW.comp h1' fun l1 hl1=>ih.reads bs st r l1 open_ _ (PH hF hl1) (.inr hl1) hr hb
theorem IA:∀ (d deep:Nat),GoodF ps (fieldsW ps d deep)
 | 0,_=>OH
 | d+1,deep=>by
  have ih:=IA d (deep+1);refine ⟨fun s=>?_,fun bs st r last open_ s hF hE hr hb=>?_⟩
  ·exact (GD ih deep s.left).adds s
  ·exact (GD ih deep s.left).reads bs st r last open_ s hF hE hr hb
theorem at_new:At bs 0 [] 0 DT.new:=⟨rfl,rfl,rfl,rfl,Nat.zero_le _,rfl⟩
theorem LZ (ps:List UInt8):∃ a Y last,Chain (B0 ps).out DT.new Y a∧ToksOk Y (B0 ps).l∧At (B0 ps).out (B0 ps).out.length [] last a∧Iq 0 last:=by
 have good:=IA (ps:=ps) 10 0;generalize hs0:Al ps false ⟨0,[],[],300⟩ = s0
 have e:B0 ps = fieldsW ps 10 0 s0:=by rw [←hs0]; try rfl
 rw [e];obtain ⟨X,hX,_⟩:=good.adds s0;generalize hbs:(fieldsW ps 10 0 s0).out = bs at hX;have h0:=DS (ps:=ps) (bs:=bs) (st:=[]) (last:=0) (b:=false) (s:=⟨0,[],[],300⟩) (r:=X) (by rw [hs0,hX]);rw [hs0] at h0
 have h1:ReadsW bs [] 0 (Iq 0) ⟨0,[],[],300⟩ (fieldsW ps 10 0 s0):=ReadsW.comp h0 fun l1 hl1=>by
  subst hl1;exact good.reads bs [] [] 0 0 s0 (.inl ⟨rfl,.inl rfl⟩) (.inl rfl) rfl (by rw [hbs]; simp)
 obtain ⟨a,Y,Z,last,c,m,t,A,p⟩:=h1 DT.new at_new;exact ⟨a,Y,last,c,by rw [m]; exact t,by rw [hbs] at A; exact A,p⟩
theorem NC (ps:List UInt8):∃ a Y,Chain (B0 ps).out DT.new Y a∧ToksOk Y (B0 ps).l:=by
 obtain ⟨a,Y,_,h1,h2,_⟩:=LZ ps;exact ⟨a,Y,h1,h2⟩
theorem NB (ps:List UInt8):∃ Y,PP (B0 ps).out [] = (Y,true)∧ToksOk Y (B0 ps).l:=by
 obtain ⟨a,Y,last,c,ht,A,p⟩:=LZ ps;refine ⟨Y,?_,ht⟩;generalize (B0 ps).out = bs at *
 have hgo:goT bs bs.length 0 = bs.length:=by
  rw [F3,List.drop_length,Ig]; try rfl
 obtain ⟨e',he,hek⟩:=RN A hgo p R9;have hf:=c.facts (Nat.zero_le _)
 have hlen:Y.length < bs.length+1:=by
  have h2:=hf.2.1;have h3:=hf.2.2.1;simp only [DT.new] at h3;omega
 have:=(c.run he hek rfl (Nat.zero_le _) (bs.length+1) [] hlen).1 (by unfold Cm; decide);rw [List.nil_append] at this;exact this
end
section
open Go.ChangeShapes Go.WideShapes Go.ChangeAt Go.RowKit
theorem Mc:∀ (l:List TX) (i q:Nat) (h:i < l.length),q < 6→(l.flatMap CF)[i * 6+q]? = (CF l[i])[q]?
 | [],i,q,h,_=>by simp at h
 | t::l,0,q,h,hq=>by
  rw [List.flatMap_cons,List.getElem?_append_left (by simp [CF]; omega)];simp
 | t::l,i+1,q,h,hq=>by
  rw [List.flatMap_cons,List.getElem?_append_right (by simp [CF]; omega)]
  have e:(i+1) * 6+q - (CF t).length = i * 6+q:=by simp [CF]; omega
  rw [e,Mc l i q (by simpa using h) hq];simp
theorem OwnQ.cells {w:World} {B:Nat} {v:Value} {l:List TX} (h:OwnQ w B v l):∃ ao cap,v = .slice ao l.length cap∧∀ i (hi:i < l.length),∃ g,ao = some ⟨g,0,none⟩∧g < w.heap.size∧∀ q,q < 6→w.cell? ⟨g,i * 6+q,none⟩ = (CF l[i])[q]?:=by
 by_cases hne:l = []
 ·obtain ⟨ao,c,rfl⟩:=h.slice;exact ⟨ao,c,rfl,fun i hi=>by rw [hne] at hi; simp at hi⟩
 ·have hl:0 < l.length:=List.length_pos_iff.2 hne;obtain ⟨g,cap,rfl,hB,hlt⟩:=World.ownsRow.form h hl;refine ⟨_,cap,rfl,fun i hi=>⟨g,rfl,hlt,fun q hq=>?_⟩⟩;have h1:=Mc l i q hi hq
  have hq':q < (CF l[i]).length:=by simpa [CF] using hq
  rw [List.getElem?_eq_getElem hq'] at h1 ⊢;have h2:=World.ownsRow.cells h (g:=g) rfl _ _ h1;rwa [Addr.add_lit,Nat.zero_add] at h2
theorem ToksOk.get {l:List TT} {m:List TX} (h:ToksOk l m):∀ (j:Nat) (h1:j < l.length) (h2:j < m.length),TokOk l[j] m[j]:=by
 induction h with
 | nil=>intro j h1; simp at h1
 | cons h1 _ ih=>
  intro j h2 h3
  cases j with
  | zero=>exact h1
  | succ j=>exact ih j (by simpa using h2) (by simpa using h3)
def Six (w:World) (g n:Nat) (k a p:Int) (s:Bool) (r y:ByteArray):Prop:=w.cell? ⟨g,n,none⟩ = some (.int .i64 k)∧w.cell? ⟨g,n+1,none⟩ = some (.int .i64 a)∧w.cell? ⟨g,n+2,none⟩ = some (.int .i64 p)∧w.cell? ⟨g,n+3,none⟩ = some (.bool s)∧w.cell? ⟨g,n+4,none⟩ = some (.string r)∧w.cell? ⟨g,n+5,none⟩ = some (.string y)
theorem six_of {w w':World} {g n:Nat} {k a p:Int} {s:Bool} {r y:ByteArray} {cs:List Value} (hb:Below w.heap.size w w') (hg:g < w.heap.size) (hc:cs = [.int .i64 k,.int .i64 a,.int .i64 p,.bool s,.string r,.string y]) (h:∀ q,q < 6→w.cell? ⟨g,n+q,none⟩ = cs[q]?):Six w' g n k a p s r y:=by
 subst hc;have k:∀ q,q < 6→w'.cell? ⟨g,n+q,none⟩ = _:=fun q hq=>(hb.cell (p:=⟨g,n+q,none⟩) hg).trans (h q hq);exact ⟨k 0 (by omega),k 1 (by omega),k 2 (by omega),k 3 (by omega),k 4 (by omega),k 5 (by omega)⟩
def Row3 (w:World) (ao2 ao3 aoQ:Option Addr) (j:Nat):Prop:=∃ (g2 g3 gQ:Nat) (k a p:Int) (s:Bool) (r r2:List UInt8) (y:ByteArray),ao2 = some ⟨g2,0,none⟩∧ao3 = some ⟨g3,0,none⟩∧aoQ = some ⟨gQ,0,none⟩∧(Fo r2 = false→r = r2)∧g2 < w.heap.size∧g3 < w.heap.size∧gQ < w.heap.size∧∀ w',Below w.heap.size w w'→Six w' g2 (j * 6) k a p s ⟨r.toArray⟩ y∧Six w' g3 (j * 6) k a p s ⟨r.toArray⟩ y∧Six w' gQ (j * 6) k a p s ⟨r2.toArray⟩ y
end
section
open Go.ChangeShapes Go.WideShapes Go.ChangeAt Go.RowKit
theorem Six.range {w:World} {g n:Nat} {k a p:Int} {s:Bool} {r y:ByteArray} (h:Six w g n k a p s r y):w.rangeAt g n [.int .i64 k,.int .i64 a,.int .i64 p,.bool s,.string r,.string y]:=by
 obtain ⟨h0,h1,h2,h3,h4,h5⟩:=h;intro j v hj
 match j,hj with
 | 0,hj=>injection hj with hj; rw [←hj]; exact h0
 | 1,hj=>injection hj with hj; rw [←hj]; exact h1
 | 2,hj=>injection hj with hj; rw [←hj]; exact h2
 | 3,hj=>injection hj with hj; rw [←hj]; exact h3
 | 4,hj=>injection hj with hj; rw [←hj]; exact h4
 | 5,hj=>injection hj with hj; rw [←hj]; exact h5
theorem fld_q0:B9 Tryz.prog 27 0 0:=fun p w=>by simp [go_sem,Instr.fieldAt]
theorem PG:B9 Tryz.prog 27 2 2:=fun p w=>by simp [go_sem,Instr.fieldAt]
theorem q_alloc:Hj Tryz.prog 27 #[.int .i64 0,.int .i64 0,.int .i64 0,.bool false,.string ⟨#[]⟩,.string ⟨#[]⟩]:=fun w=>by
 simp [go_sem,Instr.alloc,newVar,newRow]
theorem q_size (cs:List Value) (h:cs.length = 6):(Tryz.prog.info? 27).map (·.size) = some cs.length:=by rw [h]; kernel_rfl
theorem q_size' (a b c d e f:Value):(Tryz.prog.info? 27).map (·.size) = some [a,b,c,d,e,f].toArray.size:=by kernel_rfl
theorem q_six:(Tryz.prog.info? 27).map (·.size) = some 6:=by kernel_rfl
section
variable {N:Nat} {D:List Deferred} {a:Act} {l:List (Nat × Value)} {L rest:List Oper} {Q:Exit→Act→World→Prop} {S:World→Prop} {w:World} {d:Nat} {ty:TypeId} {pos:String} {af:Array Edge} {P:Program}
theorem RT {t e:TypeId} {k:IntKind} {n m cp q:Nat} (ht:P.underlying t = some (.slice e)) (hz:(P.info? e).map (·.size) = some 6) (hn:n < m) (w:World):(Instr.indexAt t (.slice (some ⟨q,0,none⟩) m cp) (.int k (n:Int))).run P w = .ok (.pointer (some ⟨q,n * 6,none⟩)) w:=by
 cases hq:P.info? e with
 | none=>simp [hq] at hz
 | some inf=>
  have hs:inf.size = 6:=by simpa [hq] using hz
  simp [Instr.indexAt,asIntOf,run_underlying ht,sizeOf,typeInfo,hq,hs,Addr.add_lit,Result.andThen,if_pos hn]
theorem y_idx6 {t e:TypeId} {x i:Operand} {k:IntKind} {n m cp q:Nat} (ht:P.underlying t = some (.slice e)) (hz:(P.info? e).map (·.size) = some 6) (H:Has N D a l) (hx:ev l x = some (.slice (some ⟨q,0,none⟩) m cp)) (hi:ev l i = some (.int k (n:Int))) (hn:n < m) (hd:Nat.blt d N = true)
  (h:∀ a,Has N D a ((d,.pointer (some ⟨q,n * 6,none⟩))::l)→wpList P L.toArray Q rest a w):wpList P L.toArray Q (⟨some d,.indexAddr t x i,ty,pos,af,none⟩::rest) a w:=
 Cz H hd (by
  have h1:=H.ev hx;have h2:=H.ev hi;simp only [execOp,h1,h2,RT ht hz hn w,Result.andThen,Sem.run_bind]
  rfl) h
theorem Rp {t:TypeId} {x:Operand} {q o:Nat} {cs:List Value} {ds:TypeDesc} (hu:P.underlying t = some ds) (hds:ds.isRow = true) (hi:(P.info? t).map (·.size) = some cs.length) (H:Has N D a l) (hx:ev l x = some (.pointer (some ⟨q,o,none⟩))) (hr:w.rangeAt q o cs) (hd:Nat.blt d N = true)
  (h:∀ a,Has N D a ((d,.agg cs.toArray)::l)→wpList P L.toArray Q rest a w):wpList P L.toArray Q (⟨some d,.load t x,ty,pos,af,none⟩::rest) a w:=
 wpList_load_mid rfl t x rfl q o (H.ev hx) cs ds hr hu hds hi (h _ (H.put hd))
theorem y_rem {x y:Operand} {m n:Nat} (H:Has N D a l) (hx:ev l x = some (.int .i64 (m:Int))) (hy:ev l y = some (.int .i64 (n:Int))) (hn:0 < n) (hd:Nat.blt d N = true)
  (h:∀ a,Has N D a ((d,.int .i64 ((m % n:Nat):Int))::l)→wpList Tryz.prog L.toArray Q rest a w):wpList Tryz.prog L.toArray Q (⟨some d,.binOp .rem 3 x y 3,ty,pos,af,none⟩::rest) a w:=
 Cz H hd (by
  have h1:=H.ev hx;have h2:=H.ev hy
  have h3:¬ n = 0:=by omega
  simp only [execOp,h1,h2]
  simp [go_sem,h3,Int.tmod_eq_emod_of_nonneg (show (0:Int)≤(m:Int) by omega)]) h
variable {dd:Option Tmp} {gd:Option (Nat × Bool)}
end
end
end Go.Proofs.YtgdnpnipahegaaaGreatDoor
