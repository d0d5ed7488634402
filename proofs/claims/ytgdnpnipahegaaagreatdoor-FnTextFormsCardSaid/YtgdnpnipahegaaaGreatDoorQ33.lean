/-
 The package's reader over what the reference's writer of the text form writes: its tokens, each at its place, up to the end. Plain functions.
-/
import Derived.Test.YtgdnpnipahegaaaGreatDoorQ32
import Derived.Test.YtgdnpnipahegaaaGreatDoorQ15
import Derived.Test.YtgdnpnipahegaaaGreatDoorQ31
namespace Go.Proofs.YtgdnpnipahegaaaGreatDoor
theorem lex_ident {x:List UInt8} (h:okId false x = true):NameLex x 1 x:=by
 obtain ⟨h1,c,y,rfl,hc⟩:=okId_out h;unfold Head at hc;refine ⟨⟨c,y,rfl,by unfold NHead; exact ⟨hc.1,by omega⟩⟩,fun bs n r hd hr=>?_⟩;have hi:=h1 r hr;refine ⟨⟨2,1,false,0,n,c::y,[]⟩,?_,rfl,rfl,rfl,rfl,rfl,by rw [if_neg (by decide)]⟩
 ·rw [goT_addF bs n (c::y).length |>.symm];unfold fieldT;rw [hd,List.cons_append];simp only;rw [←List.cons_append,if_neg (by omega),hi,if_pos (by simp)];unfold tokT;rw [take_all hd]
  try rfl
theorem lex_num {x:List UInt8} (h:okFld x = true):NameLex x 3 x:=by
 unfold okFld at h;simp only [Bool.and_eq_true,beq_iff_eq,decide_eq_true_eq] at h;obtain ⟨⟨⟨⟨⟨h1,h2⟩,h3⟩,h4⟩,h5⟩,h6⟩:=h
 cases x with
 | nil=>cases h6
 | cons c y=>
  have hc:48≤c.toNat∧c.toNat≤57:=by unfold isDg at h6; simpa using h6
  refine ⟨⟨c,y,rfl,by unfold NHead; exact ⟨blank_no (by omega),by omega⟩⟩,fun bs n r hd hr=>?_⟩;have hi:=ident_ends h3 h4 hr;have hn:=numB_ends h1 h2 hr;refine ⟨⟨2,3,false,0,n,c::y,[]⟩,?_,rfl,rfl,rfl,rfl,rfl,by rw [if_neg (by decide)]⟩
  ·rw [goT_addF bs n (c::y).length |>.symm];unfold fieldT;rw [hd,List.cons_append];simp only
   have hnum:numT (c::(y++r)) = some ⟨0,false,(c::y).length,0⟩:=by
    rw [numT_cons,if_neg (by omega),←List.cons_append,hn]
   have hs:numS ⟨0,false,(c::y).length,0⟩ (c::(y++r)) = c::y:=by
    unfold numS;simp only;rw [if_neg (by simp),if_neg (by simp),←List.cons_append,List.take_left]
   rw [←List.cons_append] at hnum hs ⊢;rw [if_neg (by omega),hi,if_neg (by simp),hnum];simp only;rw [hs,if_pos ⟨trivial,trivial,h5⟩];unfold tokT;rw [take_all hd]
   try rfl
theorem lex_type {x name:List UInt8} (hok:nameOk name = true) (h:∀ r,tnT (csT (x++r)) [] = some (name,r)):NameLex (91::x) 2 name:=by
 refine ⟨⟨91,x,rfl,by unfold NHead; decide⟩,fun bs n r hd hr=>?_⟩
 have hd1:bs.drop (n+1) = x++r:=by rw [←List.drop_drop,hd]; try rfl
 have hlen:bs.length = n+(91::x).length+r.length:=by
  have:=congrArg List.length hd;simp at this ⊢; omega
 have htn:tnF (bs.length+1) (csT (bs.drop (n+1))) [] = some (name,r):=by
  rw [hd1,tnT_eq (by have:=csT_len (x++r); simp at this hlen; omega),h]
 refine ⟨⟨2,2,false,0,n,91::x,name⟩,?_,rfl,rfl,rfl,rfl,rfl,by rw [if_pos rfl]⟩;unfold fieldT;rw [hd,List.cons_append];simp only;rw [if_pos (by decide)];unfold typeT;rw [htn];simp only;rw [if_pos hok]
 have e:bs.length - r.length = n+(91::x).length:=by omega
 rw [e,show n+(91::x).length - n = (91::x).length by omega,take_all hd]
 try rfl
theorem nameW_out (ps:List UInt8) (s:WS):∃ x nk str,NameLex x nk str∧(nameW ps s).out = s.out++x∧(nameW ps s).l = s.l++[⟨2,nk,s.out.length,false,x,str⟩]∧(nameW ps s).left = s.left:=by
 unfold nameW;simp only
 split
 ·obtain ⟨x,hx,h1,h2,h3⟩:=oneW_out ps numNames (pickedW ps s) (by decide)
  have hd:(oneW ps numNames (pickedW ps s)).out.drop s.out.length = x:=by rw [h1]; exact List.drop_left
  refine ⟨x,3,x,lex_num (List.all_eq_true.1 fields_ok x hx),h1,?_,h3⟩;unfold addW;simp only [hd,h2];rfl
 ·split
  ·obtain ⟨x,h1,h2,h3,h4,h5⟩:=typedW_out ps (pickedW ps s)
   have hd:(typedW ps (pickedW ps s)).2.out.drop s.out.length = 91::x:=by rw [h1]; exact List.drop_left
   refine ⟨91::x,2,_,lex_type h4 h5,h1,?_,h3⟩;unfold addW;simp only [hd,h2];rfl
  ·obtain ⟨x,hx,h1,h2,h3⟩:=oneW_out ps idNames (pickedW ps s) (by decide)
   have hd:(oneW ps idNames (pickedW ps s)).out.drop s.out.length = x:=by rw [h1]; exact List.drop_left
   refine ⟨x,1,x,lex_ident (List.all_eq_true.1 idNames_ok x hx),h1,?_,h3⟩;unfold addW;simp only [hd,h2];rfl
theorem lex_literal {x:List UInt8} (h:okId true x = true):ScalLex x:=by
 obtain ⟨h1,c,y,rfl,hc⟩:=okId_out h;unfold Head at hc;refine ⟨⟨c,y,rfl,hc.1,by omega⟩,fun bs n r hd hr=>?_⟩;have hi:=h1 r hr.1;refine ⟨⟨3,3,false,0,n,c::y,[]⟩,?_,rfl,rfl,fun _=>rfl⟩
 ·rw [goT_addF bs n (c::y).length |>.symm];unfold scalarT;rw [hd,List.cons_append];simp only;rw [←List.cons_append,if_neg (by omega),hi,if_pos (by simp)];unfold tokT;rw [take_all hd]
theorem ident_sign {b x r:List UInt8} (hb:Blk b) (hx:∃ c y,x = c::y∧(isDg c = true∨c.toNat = 46)):identT true (45::(b++(x++r))) = 0:=by
 rw [identT_cons,if_pos (by decide)]
 have:identP (b++(x++r)) = 0:=by
  have key:∀ c l,(letT c = false)→identP (c::l) = 0:=fun c l h=>by rw [identP_cons,h]; simp
  cases b with
  | nil=>
   obtain ⟨c,y,rfl,hc⟩:=hx;refine key c _ ?_;unfold isDg at hc;unfold letT;simp at hc ⊢;omega
  | cons c b=>
   refine key c _ ?_;have h1:=hb [];rw [List.append_nil,skT_false,skT_nil,List.length_cons] at h1
   by_cases hbl:blankT c = true
   ·unfold blankT at hbl;unfold letT;simp at hbl ⊢;omega
   ·rw [if_neg hbl] at h1
    by_cases h35:c.toNat = 35
    ·unfold letT; rw [h35]; try rfl
    ·rw [if_neg h35] at h1; omega
 rw [if_pos this]
theorem lex_plain {x:List UInt8} (h:okNum x = true):ScalLex x:=by
 obtain ⟨⟨k,h1⟩,h2,c,y,rfl,hc⟩:=okNum_out h
 have hcb:46≤c.toNat∧c.toNat≤57∧c.toNat≠47:=by unfold isDg at hc; simp at hc; omega
 refine ⟨⟨c,y,rfl,blank_no (by omega),by omega⟩,fun bs n r hd hr=>?_⟩;have hi:=h2 r hr.1;have hn:=h1 r hr.1;refine ⟨⟨3,1,false,k,n,c::y,numS ⟨k,false,(c::y).length,0⟩ (c::y++r)⟩,?_,rfl,rfl,fun _=>rfl⟩;rw [goT_addF bs n (c::y).length |>.symm]
 have hnum:numT (c::(y++r)) = some ⟨k,false,(c::y).length,0⟩:=by
  rw [numT_cons,if_neg (by omega),←List.cons_append,hn]
 unfold scalarT;rw [hd,List.cons_append];simp only;rw [←List.cons_append] at hnum ⊢;rw [if_neg (by omega),hi,if_neg (by simp),hnum];simp only;rw [List.take_left,if_neg (by decide)]
 try rfl
theorem lex_minus {b x:List UInt8} (hb:Blk b) (h:okNum x = true):ScalLex (45::(b++x)):=by
 obtain ⟨⟨k,h1⟩,h2,hx⟩:=okNum_out h;refine ⟨⟨45,_,rfl,by decide,by decide⟩,fun bs n r hd hr=>?_⟩;have hn:=h1 r hr.1;have hi:=ident_sign (r:=r) hb hx
 have hsk:skT false (b++(x++r)) = b.length:=by
  rw [hb];obtain ⟨c,y,rfl,hc⟩:=hx
  have hcb:46≤c.toNat∧c.toNat≤57:=by unfold isDg at hc; simp at hc; omega
  rw [List.cons_append,skT_stop (blank_no (by omega)) (by omega)]
  try rfl
 have hnum:numT (45::(b++(x++r))) = some ⟨k,true,1+b.length+x.length,b.length⟩:=by
  rw [numT_cons,if_pos (by decide),hsk,List.drop_left,hn]
 have hl:(45::(b++x)).length = 1+b.length+x.length:=by simp; omega
 have e:45::(b++x)++r = 45::(b++(x++r)):=by simp
 refine ⟨⟨3,1,false,k+128,n,45::(b++x),numS ⟨k,true,1+b.length+x.length,b.length⟩ (45::(b++(x++r)))⟩,?_,rfl,rfl,fun _=>rfl⟩;rw [goT_addF bs n _ |>.symm,hl];unfold scalarT;rw [hd,e];simp only;rw [if_neg (by decide),hi,if_neg (by simp),hnum];simp only;rw [if_pos (by decide),←hl,←e,List.take_left]
theorem numberW_out (ps:List UInt8) (s:WS):∃ x,ScalLex x∧(numberW ps s).out = s.out++x∧(numberW ps s).l = s.l∧(numberW ps s).left = s.left:=by
 -- the number behind the sign
 have body:∀ s1:WS,∃ x,okNum x = true∧(let n:=pickT ps s1.k 4
   let s2:=pickedW ps s1
   if n = 0 then oneW ps decTab s2 else if n = 1 then oneW ps hexTab s2 else if n = 2 then oneW ps octTab s2
   else oneW ps sufTab (oneW ps expTab (oneW ps fltTab s2))).out = s1.out++x∧(let n:=pickT ps s1.k 4
   let s2:=pickedW ps s1
   if n = 0 then oneW ps decTab s2 else if n = 1 then oneW ps hexTab s2 else if n = 2 then oneW ps octTab s2
   else oneW ps sufTab (oneW ps expTab (oneW ps fltTab s2))).l = s1.l∧(let n:=pickT ps s1.k 4
   let s2:=pickedW ps s1
   if n = 0 then oneW ps decTab s2 else if n = 1 then oneW ps hexTab s2 else if n = 2 then oneW ps octTab s2
   else oneW ps sufTab (oneW ps expTab (oneW ps fltTab s2))).left = s1.left:=by
  intro s1;simp only
  have tab:∀ t,t.all okNum = true→0 < t.length→∃ x,okNum x = true∧(oneW ps t (pickedW ps s1)).out = s1.out++x∧(oneW ps t (pickedW ps s1)).l = s1.l∧(oneW ps t (pickedW ps s1)).left = s1.left:=by
   intro t ht h0;obtain ⟨x,hx,h1,h2,h3⟩:=oneW_out ps t (pickedW ps s1) h0;exact ⟨x,List.all_eq_true.1 ht x hx,h1,h2,h3⟩
  have hall:=decs_ok;rw [List.all_append,List.all_append,Bool.and_eq_true,Bool.and_eq_true] at hall
  split
  ·exact tab decTab hall.1.1 (by decide)
  ·split
   ·exact tab hexTab hall.1.2 (by decide)
   ·split
    ·exact tab octTab hall.2 (by decide)
    ·obtain ⟨x,hx,h1,h2,h3⟩:=oneW_out ps fltTab (pickedW ps s1) (by decide);obtain ⟨y,hy,g1,g2,g3⟩:=oneW_out ps expTab (oneW ps fltTab (pickedW ps s1)) (by decide);obtain ⟨z,hz,f1,f2,f3⟩:=oneW_out ps sufTab (oneW ps expTab (oneW ps fltTab (pickedW ps s1))) (by decide);have:=List.all_eq_true.1 (List.all_eq_true.1 (List.all_eq_true.1 flts_ok x hx) y hy) z hz;refine ⟨x++y++z,this,?_,by rw [f2,g2,h2]; try rfl,by rw [f3,g3,h3]; try rfl⟩;rw [f1,g1,h1]; simp [pickedW]
 unfold numberW;simp only
 split
 ·obtain ⟨b,hb,e1,e2,e3⟩:=oneW_out ps signTab (putW [45] (pickedW ps s)) (by decide);obtain ⟨x,hx,h1,h2,h3⟩:=body (oneW ps signTab (putW [45] (pickedW ps s)));refine ⟨45::(b++x),lex_minus (blk_of (by simp [hb])) hx,?_,h2.trans (by rw [e2]; try rfl),h3.trans (by rw [e3]; try rfl)⟩;refine h1.trans ?_;rw [e1]; simp [putW,pickedW]
 ·obtain ⟨x,hx,h1,h2,h3⟩:=body (pickedW ps s);exact ⟨x,lex_plain hx,h1,h2,h3⟩
def Strs (x:List UInt8):Prop:=(∃ c y,x = c::y∧(c.toNat = 34∨c.toNat = 39))∧∀ bs f n r out,bs.drop n = x++r→x.length < f→quotedB (csT r) = false→∃ s,strsT bs f n out = some (s,goT bs (n+x.length) 0)
theorem strsT_succ (bs:List UInt8) (f k:Nat) (out:List UInt8):strsT bs (f+1) k out = match bs.drop k with
  | []=>some (out,k)
  | c::r=>if c.toNat = 34∨c.toNat = 39 then (match strT c.toNat r [] with
    | none=>none
    | some (s,m)=>strsT bs f (goT bs k (r.length+1 - m)) (out++s))
   else some (out,k):=rfl
theorem strs_one {bs x r:List UInt8} {n f:Nat} {out:List UInt8} (hx:Str1 x) (hd:bs.drop n = x++r):∃ s,strsT bs (f+1) n out = strsT bs f (goT bs (n+x.length) 0) (out++s):=by
 obtain ⟨c,y,rfl,hc,hy⟩:=hx;obtain ⟨s,hs⟩:=hy r;refine ⟨s,?_⟩;rw [strsT_succ,hd,List.cons_append];simp only;rw [if_pos hc,hs];simp only;rw [goT_addF,show (y++r).length+1 - r.length = (c::y).length by simp; omega]
theorem strs_last {x:List UInt8} (hx:Str1 x):Strs x:=by
 refine ⟨?_,fun bs f n r out hd hf hr=>?_⟩
 ·obtain ⟨c,y,h1,h2,_⟩:=hx; exact ⟨c,y,h1,h2⟩
 ·have hp:0 < x.length:=by obtain ⟨c,y,rfl,_⟩:=hx; simp
  obtain ⟨g,rfl⟩:∃ g,f = g+1+1:=⟨f - 2,by omega⟩;obtain ⟨s,hs⟩:=strs_one (f:=g+1) (out:=out) hx hd;refine ⟨out++s,hs.trans ?_⟩
  have hd2:bs.drop (goT bs (n+x.length) 0) = csT r:=by
   rw [drop_goT,←List.drop_drop,hd,List.drop_left]
  rw [strsT_succ,hd2]
  rcases hcs:csT r with _ | ⟨c,l⟩
  ·rfl
  ·simp only;rw [hcs] at hr;simp only [quotedB,Bool.or_eq_false_iff,beq_eq_false_iff_ne] at hr;rw [if_neg (by omega)]
theorem strs_more {x b y:List UInt8} (hx:Str1 x) (hb:Blk b) (hy:Strs y):Strs (x++(b++y)):=by
 refine ⟨?_,fun bs f n r out hd hf hr=>?_⟩
 ·obtain ⟨c,z,rfl,h2,_⟩:=hx; exact ⟨c,_,rfl,h2⟩
 ·obtain ⟨g,rfl⟩:∃ g,f = g+1:=⟨f - 1,by omega⟩
  have hp:0 < x.length:=by obtain ⟨c,y,rfl,_⟩:=hx; simp
  have hd0:bs.drop n = x++(b++(y++r)):=by rw [hd]; simp only [List.append_assoc]
  obtain ⟨s,hs⟩:=strs_one (f:=g) (out:=out) hx hd0
  have hd1:bs.drop (n+x.length) = b++(y++r):=by rw [←List.drop_drop,hd0,List.drop_left]
  have hk:skT false (y++r) = 0:=by
   obtain ⟨c,z,rfl,h2⟩:=hy.1;exact skT_stop (blank_no (by omega)) (by omega)
  have hg:goT bs (n+x.length) 0 = n+x.length+b.length:=by rw [goT_zero,hd1,hb,hk]; omega
  have hd2:bs.drop (n+x.length+b.length) = y++r:=by rw [←List.drop_drop,hd1,List.drop_left]
  obtain ⟨s2,hs2⟩:=hy.2 bs g (n+x.length+b.length) r (out++s) hd2 (by simp at hf; omega) hr;refine ⟨s2,?_⟩;rw [hs,hg,hs2,List.length_append,List.length_append]
  congr 3
  omega
theorem strsW_out (ps:List UInt8):∀ (m:Nat) (s:WS),∃ x,Strs x∧(strsW ps (m+1) s).out = s.out++x∧(strsW ps (m+1) s).l = s.l∧(strsW ps (m+1) s).left = s.left
 | 0,s=>by
  obtain ⟨x,hx,h1,h2,h3⟩:=strW_out ps s;exact ⟨x,strs_last hx,h1,h2,h3⟩
 | m+1,s=>by
  obtain ⟨x,hx,h1,h2,h3⟩:=strW_out ps s;obtain ⟨b,hb,e1,e2,e3,_⟩:=blanksW_out ps false (strW ps s);obtain ⟨y,hy,f1,f2,f3⟩:=strsW_out ps m (blanksW ps false (strW ps s))
  have e:strsW ps (m+1+1) s = strsW ps (m+1) (blanksW ps false (strW ps s)):=by
   rw [strsW,if_pos (by omega)]
  rw [e];exact ⟨x++(b++y),strs_more hx hb hy,by rw [f1,e1,h1]; simp,by rw [f2,e2,h2],by rw [f3,e3,h3]⟩
theorem lex_strs {x:List UInt8} (h:Strs x):ScalLex x:=by
 obtain ⟨⟨c,y,rfl,hc⟩,h2⟩:=h;refine ⟨⟨c,y,rfl,blank_no (by omega),by omega⟩,fun bs n r hd hr=>?_⟩
 have hlen:bs.length = n+(c::y).length+r.length:=by
  have:=congrArg List.length hd;simp at this ⊢; omega
 obtain ⟨s,hs⟩:=h2 bs (bs.length+1) n r [] hd (by omega) hr.2;refine ⟨⟨3,2,false,0,n,(bs.drop n).take (goT bs (n+(c::y).length) 0 - n),s⟩,?_,rfl,rfl,fun hq=>?_⟩
 ·unfold scalarT;rw [hd,List.cons_append];simp only;rw [if_pos hc,hs]
 ·exfalso
  simp only [quotedB,Bool.or_eq_false_iff,beq_eq_false_iff_ne] at hq;omega
theorem scalarW_out (ps:List UInt8) (s:WS):∃ x,ScalLex x∧(scalarW ps s).out = s.out++x∧(scalarW ps s).l = s.l++[⟨3,0,s.out.length,false,x,[]⟩]∧(scalarW ps s).left = s.left:=by
 have fin:∀ s2:WS,(∃ x,ScalLex x∧s2.out = s.out++x∧s2.l = s.l∧s2.left = s.left)→∃ x,ScalLex x∧(tokenW 3 s.out.length s2).out = s.out++x∧(tokenW 3 s.out.length s2).l = s.l++[⟨3,0,s.out.length,false,x,[]⟩]∧(tokenW 3 s.out.length s2).left = s.left:=by
  rintro s2 ⟨x,hx,h1,h2,h3⟩;refine ⟨x,hx,h1,?_,h3⟩;unfold tokenW;simp only [h2,h1,List.drop_left]
 unfold scalarW;simp only;refine fin _ ?_
 split
 ·exact numberW_out ps (pickedW ps s)
 ·split
  ·obtain ⟨x,hx,h1,h2,h3⟩:=oneW_out ps litTab (pickedW ps s) (by decide);exact ⟨x,lex_literal (List.all_eq_true.1 lits_ok x hx),h1,h2,h3⟩
  ·rw [Nat.add_comm 1];obtain ⟨x,hx,h1,h2,h3⟩:=strsW_out ps (pickT ps (pickedW ps s).k 3) (pickedW ps (pickedW ps s));exact ⟨x,lex_strs hx,h1,h2,h3⟩
end Go.Proofs.YtgdnpnipahegaaaGreatDoor
namespace Go.Proofs.YtgdnpnipahegaaaGreatDoor
variable {bs:List UInt8} {ps:List UInt8}
def ReadsW (bs st:List UInt8) (last:Nat) (post:Nat→Prop) (s s':WS):Prop:=
 ∀ a,At bs s.out.length st last a→∃ a' Y Z last',Chain bs a Y a'∧s'.l = s.l++Z∧ToksOk Y Z∧At bs s'.out.length st last' a'∧post last'
theorem ReadsW.comp {st:List UInt8} {last:Nat} {post1 post2:Nat→Prop} {s s1 s2:WS} (h1:ReadsW bs st last post1 s s1) (h2:∀ last1,post1 last1→ReadsW bs st last1 post2 s1 s2):ReadsW bs st last post2 s s2:=by
 intro a ha;obtain ⟨a1,Y1,Z1,l1,c1,e1,t1,A1,p1⟩:=h1 a ha;obtain ⟨a2,Y2,Z2,l2,c2,e2,t2,A2,p2⟩:=h2 l1 p1 a1 A1;exact ⟨a2,Y1++Y2,Z1++Z2,l2,c1.trans c2,by rw [e2,e1,List.append_assoc],t1.append t2,A2,p2⟩
theorem reads_tok {a a':DT} {t:TX} {k:Nat} (h:stepT bs a = some a') (hk:a'.tok.kind = k) (hk2:¬ SepK k∧k≠1) (ht:TokOk a'.tok t):Chain bs a [a'.tok] a'∧ToksOk [a'.tok] [t]:=
 ⟨.tok h (by rw [hk]; exact hk2.1) (by rw [hk]; exact hk2.2) (.nil _),.cons ht .nil⟩
theorem reads_blanks {st r:List UInt8} {last:Nat} {b:Bool} {s:WS} (hb:bs = (blanksW ps b s).out++r):ReadsW bs st last (· = last) s (blanksW ps b s):=by
 obtain ⟨x,hx,e1,e2,_,_⟩:=blanksW_out ps b s;intro a ha;refine ⟨a,[],[],last,.nil _,by rw [e2,List.append_nil],.nil,?_,rfl⟩;rw [e1] at hb ⊢;exact ha.blank (r:=r) (by rw [hb,List.append_assoc]) hx
def NoQ (r:List UInt8):Prop:=quotedB (csT r) = false
def AddsF (f:WS→WS):Prop:=∀ s,∃ X,(f s).out = s.out++X∧(X = []∨∃ c y,X = c::y∧NHead c)
def FieldsEnd (open_ n:Nat):Prop:=n = open_∨ValEnd n∨SepK n
structure GoodF (ps:List UInt8) (f:WS→WS):Prop where
 adds:AddsF f
 reads:∀ (bs st r:List UInt8) (last open_:Nat) (s:WS),FieldAt st last→FieldsEnd open_ last→NoQ r→bs = (f s).out++r→ReadsW bs st last (FieldsEnd open_) s (f s)
theorem noQ_head {c:UInt8} {r:List UInt8} (h1:blankT c = false) (h2:c.toNat≠35) (h3:c.toNat≠34∧c.toNat≠39):NoQ (c::r):=by
 unfold NoQ;rw [csT_stop h1 h2];simp [quotedB,h3]
theorem noQ_blk {b r:List UInt8} (hb:Blk b) (h:NoQ r):NoQ (b++r):=by unfold NoQ; rw [csT_blk hb]; exact h
theorem goodF_id:GoodF ps id:=⟨fun s=>⟨[],by simp,.inl rfl⟩,fun bs st r last open_ s _ hE _ _ a ha=>⟨a,[],[],last,.nil _,by simp,.nil,ha,hE⟩⟩
theorem noQ_adds {X r:List UInt8} (hX:X = []∨∃ c y,X = c::y∧NHead c) (hr:NoQ r):NoQ (X++r):=by
 rcases hX with rfl | ⟨c,y,rfl,hc⟩
 ·exact hr
 ·exact noQ_head hc.1 hc.2.1 ⟨hc.2.2.1,hc.2.2.2.1⟩
theorem messageW_adds (inner:WS→WS) (hi:AddsF inner) (s:WS):∃ c X,(messageW ps inner s).out = s.out++c::X∧(c.toNat = 123∨c.toNat = 60):=by
 unfold messageW;simp only;obtain ⟨b,_,e1,_⟩:=blanksW_out ps false (tokenW 4 ((putW [if 0 < pickT ps s.k 2 then 60 else 123] (pickedW ps s)).out.length - 1) (putW [if 0 < pickT ps s.k 2 then 60 else 123] (pickedW ps s)));obtain ⟨X,f1,_⟩:=hi (blanksW ps false (tokenW 4 ((putW [if 0 < pickT ps s.k 2 then 60 else 123] (pickedW ps s)).out.length - 1) (putW [if 0 < pickT ps s.k 2 then 60 else 123] (pickedW ps s))));refine ⟨if 0 < pickT ps s.k 2 then 60 else 123,b++X++[if 0 < pickT ps s.k 2 then 62 else 125],?_,by split <;> simp⟩;simp only [tokenW,putW,pickedW] at e1 f1 ⊢;rw [f1,e1]; simp
theorem reads_message {inner:WS→WS} (hi:GoodF ps inner) {st r:List UInt8} {last:Nat} {s:WS} (hV:ValueAt st last) (hb:bs = (messageW ps inner s).out++r):ReadsW bs st last (· = 5) s (messageW ps inner s):=by
 unfold messageW at hb ⊢;simp only at hb ⊢
 obtain ⟨c,hc⟩:∃ c:UInt8,c = if 0 < pickT ps s.k 2 then 60 else 123:=⟨_,rfl⟩
 obtain ⟨d,hd⟩:∃ d:UInt8,d = if 0 < pickT ps s.k 2 then 62 else 125:=⟨_,rfl⟩
 have hcd:c.toNat = 123∧d.toNat = 125∨c.toNat = 60∧d.toNat = 62:=by
  rw [hc,hd]; split
  ·exact .inr ⟨rfl,rfl⟩
  ·exact .inl ⟨rfl,rfl⟩
 rw [←hc,←hd] at hb ⊢;clear hc hd;generalize hs1:tokenW 4 ((putW [c] (pickedW ps s)).out.length - 1) (putW [c] (pickedW ps s)) = s1 at hb ⊢
 have o1:s1.out = s.out++[c]:=by rw [←hs1]; try rfl
 have l1:s1.l = s.l++[⟨4,0,s.out.length,false,[c],[]⟩]:=by
  rw [←hs1];unfold tokenW putW pickedW;simp
 generalize hs2:blanksW ps false s1 = s2 at hb ⊢;generalize hs3:inner s2 = s3 at hb ⊢;obtain ⟨b,hbk,e1,_⟩:=blanksW_out ps false s1;obtain ⟨X,f1,f2⟩:=hi.adds s2;rw [hs2] at e1;rw [hs3] at f1
 have hb3:bs = s3.out++([d]++r):=by rw [hb]; show (s3.out++[d])++r = _; simp
 have hb2:bs = s2.out++(X++([d]++r)):=by rw [hb3,f1,List.append_assoc]
 have hb1:bs = s.out++([c]++(b++(X++([d]++r)))):=by rw [hb2,e1,o1]; simp
 intro a ha;obtain ⟨a1,g1,g2,g3,g4⟩:=step_openM ha hV hb1 (by omega);obtain ⟨k1,k2⟩:=reads_tok g1 g2 ⟨by unfold SepK; decide,by decide⟩ g3;rw [←o1] at g4;obtain ⟨a2,Y2,Z2,last2,c2,m2,t2,A2,rfl⟩:=reads_blanks (ps:=ps) (b:=false) (s:=s1) (bs:=bs) (r:=X++([d]++r)) (by rw [hs2]; exact hb2) a1 g4;rw [hs2] at m2 A2;have ho:=open_last st c;rw [if_neg (by omega)] at ho;obtain ⟨a3,Y3,Z3,last3,c3,m3,t3,A3,p3⟩:=hi.reads bs (st++[c]) ([d]++r) 4 4 s2 (.inr ⟨ho.1,.inl rfl⟩) (.inl rfl) (noQ_head (blank_no (by omega)) (by omega) (by omega)) (by rw [hs3]; exact hb3) a2 A2;rw [hs3] at m3 A3;obtain ⟨a4,q1,q2,q3,q4⟩:=step_closeM A3 hb3 hcd p3;obtain ⟨u1,u2⟩:=reads_tok q1 q2 ⟨by unfold SepK; decide,by decide⟩ q3;refine ⟨a4,[a1.tok]++(Y2++(Y3++[a4.tok])),[⟨4,0,s.out.length,false,[c],[]⟩]++(Z2++(Z3++[⟨5,0,s3.out.length,false,[d],[]⟩])),5,k1.trans (c2.trans (c3.trans u1)),?_,k2.append (t2.append (t3.append u2)),?_,rfl⟩
 ·show s3.l++[⟨5,0,(s3.out++[d]).length - 1,false,(s3.out++[d]).drop ((s3.out++[d]).length - 1),[]⟩] = _
  rw [m3,m2,l1]; simp
 ·exact q4
theorem listL_adds (inner:WS→WS) (hi:AddsF inner) (deep:Nat):∀ (n:Nat) (s:WS),∃ X,(listL ps inner deep n s).out = s.out++X
 | 0,s=>⟨[],by simp [listL]⟩
 | n+1,s=>by
  unfold listL
  split
  ·exact ⟨[],by simp⟩
  ·simp only
   have one:∀ s1:WS,s1.out = s.out→∃ X,(if deep < 8 then (if pickT ps s1.k 3 = 2 then messageW ps inner (pickedW ps s1) else scalarW ps (pickedW ps s1)) else scalarW ps s1).out = s.out++X:=by
    intro s1 h1
    split
    ·split
     ·obtain ⟨c,X,e,_⟩:=messageW_adds (ps:=ps) inner hi (pickedW ps s1);exact ⟨_,by rw [e]; show s1.out++_ = _; rw [h1]⟩
     ·obtain ⟨x,_,e,_⟩:=scalarW_out ps (pickedW ps s1);exact ⟨_,by rw [e]; show s1.out++_ = _; rw [h1]⟩
    ·obtain ⟨x,_,e,_⟩:=scalarW_out ps s1;exact ⟨_,by rw [e,h1]⟩
   obtain ⟨X,hX⟩:=one { s with left:=s.left - 1 } rfl;generalize (if deep < 8 then (if pickT ps _ 3 = 2 then messageW ps inner (pickedW ps _) else scalarW ps (pickedW ps _)) else scalarW ps _) = s2 at *;obtain ⟨b,_,e1,_⟩:=blanksW_out ps false s2;generalize hs4:(if 1 < n+1∧0 < (blanksW ps false s2).left then blanksW ps false (putW [44] (blanksW ps false s2)) else blanksW ps false s2) = s4
   obtain ⟨W,hW⟩:∃ W,s4.out = s.out++W:=by
    rw [←hs4]
    split
    ·obtain ⟨b2,_,e2,_⟩:=blanksW_out ps false (putW [44] (blanksW ps false s2));exact ⟨X++(b++([44]++b2)),by rw [e2]; show (blanksW ps false s2).out++[44]++b2 = _; rw [e1,hX]; simp⟩
    ·exact ⟨X++b,by rw [e1,hX]; simp⟩
   obtain ⟨V,hV⟩:=listL_adds inner hi deep n s4;exact ⟨W++V,by rw [hV,hW]; simp⟩
def InL (r:List UInt8):Prop:=∃ b c y,r = b++c::y∧Blk b∧(c.toNat = 44∨c.toNat = 93)
theorem inL_after {r:List UInt8} (h:InL r):After r:=by
 obtain ⟨b,c,y,rfl,hb,hc⟩:=h;refine ⟨endT_blk hb (by show delC c = true; unfold delC; simp; omega),?_⟩;exact noQ_blk hb (noQ_head (blank_no (by omega)) (by omega) (by omega))
theorem reads_scalar {st r:List UInt8} {last:Nat} {s:WS} (hV:ValueAt st last) (hr:After r) (hb:bs = (scalarW ps s).out++r):ReadsW bs st last (· = 3) s (scalarW ps s):=by
 obtain ⟨x,hx,e1,e2,_⟩:=scalarW_out ps s;intro a ha;rw [e1] at hb;obtain ⟨a1,g1,g2,g3,g4⟩:=step_scalar ha hV hx (r:=r) (by rw [hb]; simp) hr;obtain ⟨k1,k2⟩:=reads_tok g1 g2 ⟨by unfold SepK; decide,by decide⟩ g3;exact ⟨a1,_,_,3,k1,e2,k2,by rw [e1]; exact g4,rfl⟩
def itemW (ps:List UInt8) (inner:WS→WS) (deep:Nat) (s1:WS):WS:=if deep < 8 then (if pickT ps s1.k 3 = 2 then messageW ps inner (pickedW ps s1) else scalarW ps (pickedW ps s1)) else scalarW ps s1
theorem reads_item {inner:WS→WS} (hi:GoodF ps inner) {deep:Nat} {st r:List UInt8} {last:Nat} {s:WS} (hV:ValueAt st last) (hr:After r) (hb:bs = (itemW ps inner deep s).out++r):ReadsW bs st last ValEnd s (itemW ps inner deep s):=by
 have w:∀ {n:Nat} {s':WS},(n = 3∨n = 5)→ReadsW bs st last (· = n) s s'→ReadsW bs st last ValEnd s s':=by
  intro n s' hn h a ha;obtain ⟨a1,Y,Z,l,c,e,t,A,rfl⟩:=h a ha;exact ⟨a1,Y,Z,l,c,e,t,A,by unfold ValEnd; omega⟩
 unfold itemW at hb ⊢
 split at hb
 ·rename_i h8
  rw [if_pos h8]
  split at hb
  ·rename_i h2
   rw [if_pos h2];exact w (.inr rfl) (reads_message hi hV hb (s:=pickedW ps s))
  ·rename_i h2
   rw [if_neg h2];exact w (.inl rfl) (reads_scalar hV hr hb (s:=pickedW ps s))
 ·rename_i h8
  rw [if_neg h8];exact w (.inl rfl) (reads_scalar hV hr hb)
theorem listL_succ (inner:WS→WS) (deep n:Nat) (s:WS):listL ps inner deep (n+1) s = if s.left = 0 then s else
  listL ps inner deep n (if 1 < n+1∧0 < (blanksW ps false (itemW ps inner deep { s with left:=s.left - 1 })).left then blanksW ps false (putW [44] (blanksW ps false (itemW ps inner deep { s with left:=s.left - 1 }))) else blanksW ps false (itemW ps inner deep { s with left:=s.left - 1 })):=rfl
theorem listL_zero (inner:WS→WS) (deep:Nat) (s:WS):listL ps inner deep 0 s = s:=rfl
theorem reads_items {inner:WS→WS} (hi:GoodF ps inner) {deep:Nat} {st:List UInt8} (ho:openK st = 6):∀ (n:Nat) (s:WS) (last:Nat) (y:List UInt8),(last = 6∨last = 8∧0 < n∧0 < s.left)→bs = (listL ps inner deep n s).out++93::y→ReadsW bs st last (fun l=>l = 6∨ValEnd l) s (listL ps inner deep n s)
 | 0,s,last,y,hl,hb=>fun a ha=>⟨a,[],[],last,.nil _,by rw [listL_zero]; simp,.nil,ha,by omega⟩
 | n+1,s,last,y,hl,hb=>by
  rw [listL_succ] at hb ⊢
  split at hb
  ·rename_i h0
   rw [if_pos h0];exact fun a ha=>⟨a,[],[],last,.nil _,by simp,.nil,ha,by omega⟩
  ·rename_i h0
   rw [if_neg h0]
   have hV:ValueAt st last:=by
    rcases hl with rfl | ⟨rfl,_⟩
    ·exact .inr (.inl rfl)
    ·exact .inr (.inr ⟨rfl,ho⟩)
   generalize hs2:itemW ps inner deep { s with left:=s.left - 1 } = s2 at hb ⊢;obtain ⟨b,hbk,e1,e2,e3,_⟩:=blanksW_out ps false s2;generalize hs3:blanksW ps false s2 = s3 at hb ⊢ e1 e2 e3
   have first:∀ r,bs = s3.out++r→InL r→ReadsW bs st last ValEnd s s3:=by
    intro r hbr hr;refine ReadsW.comp (s1:=s2) (post1:=ValEnd) ?_ fun l1 h1=>?_
    ·have:=reads_item (bs:=bs) hi (deep:=deep) (r:=b++r) (s:={ s with left:=s.left - 1 }) hV (by
      obtain ⟨b',c,y,rfl,hb',hc⟩:=hr
      exact inL_after ⟨b++b',c,y,by simp,csT_blk2 hbk hb',hc⟩) (by rw [hs2,hbr,e1]; simp)
     rw [hs2] at this;exact this
    ·have:=reads_blanks (ps:=ps) (bs:=bs) (st:=st) (last:=l1) (b:=false) (s:=s2) (r:=r) (by rw [hs3]; exact hbr);rw [hs3] at this
     exact fun a ha=>by
      obtain ⟨a',Y,Z,l,c,e,t,A,rfl⟩:=this a ha;exact ⟨a',Y,Z,l,c,e,t,A,h1⟩
   split at hb
   ·rename_i hc
    rw [if_pos hc];obtain ⟨b2,hb2,f1,f2,f3,_⟩:=blanksW_out ps false (putW [44] s3);generalize hs4:blanksW ps false (putW [44] s3) = s4 at hb ⊢ f1 f2 f3;obtain ⟨V,hV4⟩:=listL_adds (ps:=ps) inner hi.adds deep n s4
    have hb4:bs = s4.out++(V++93::y):=by rw [hb,hV4]; simp
    have hb3:bs = s3.out++([44]++(b2++(V++93::y))):=by rw [hb4,f1]; simp [putW]
    refine ReadsW.comp (first _ hb3 ⟨[],44,_,rfl,Blk.nil,.inl rfl⟩) fun l1 h1=>?_;refine ReadsW.comp (s1:=s4) (post1:=(· = 8)) ?_ fun l2 h2=>?_
    ·intro a ha;obtain ⟨a1,g1,g2,g3⟩:=step_sep ha hb3 (.inl rfl) h1 (.inr (.inr ho));obtain ⟨a2,Y2,Z2,l2,c2,m2,t2,A2,rfl⟩:=reads_blanks (ps:=ps) (bs:=bs) (st:=st) (b:=false) (s:=putW [44] s3) (r:=V++93::y) (by rw [hs4]; exact hb4) a1 g3;rw [hs4] at m2 A2;exact ⟨a2,Y2,Z2,8,.comma g1 (by rw [g2]; exact .inl rfl) c2,m2,t2,A2,rfl⟩
    ·subst h2;exact reads_items hi ho n s4 8 y (.inr ⟨rfl,by omega,by rw [f3]; exact hc.2⟩) hb
   ·rename_i hc
    rw [if_neg hc]
    -- no value behind this one
    have hend:listL ps inner deep n s3 = s3:=by
     cases n with
     | zero=>rfl
     | succ n=>rw [listL_succ,if_pos (by omega)]
    rw [hend] at hb ⊢
    have:=first _ hb ⟨[],93,y,rfl,Blk.nil,.inr rfl⟩
    exact fun a ha=>by
     obtain ⟨a',Y,Z,l,c,e,t,A,h⟩:=this a ha;exact ⟨a',Y,Z,l,c,e,t,A,.inr h⟩
theorem listW_adds (inner:WS→WS) (hi:AddsF inner) (deep:Nat) (s:WS):∃ X,(listW ps inner deep s).out = s.out++91::X:=by
 unfold listW;simp only;generalize hs1:tokenW 6 ((putW [91] s).out.length - 1) (putW [91] s) = s1
 have o1:s1.out = s.out++[91]:=by rw [←hs1]; try rfl
 obtain ⟨b,_,e1,_⟩:=blanksW_out ps false s1;generalize blanksW ps false s1 = s2 at *;obtain ⟨V,hV⟩:=listL_adds (ps:=ps) inner hi deep (pickT ps s2.k 5) (pickedW ps s2);refine ⟨b++(V++[93]),?_⟩
 show (listL ps inner deep (pickT ps s2.k 5) (pickedW ps s2)).out++[93] = _
 rw [hV]
 show s2.out++V++[93] = _
 rw [e1,o1]; simp
theorem reads_list {inner:WS→WS} (hi:GoodF ps inner) {deep:Nat} {st r:List UInt8} {s:WS} (hb:bs = (listW ps inner deep s).out++r):ReadsW bs st 2 (· = 7) s (listW ps inner deep s):=by
 unfold listW at hb ⊢;simp only at hb ⊢;generalize hs1:tokenW 6 ((putW [91] s).out.length - 1) (putW [91] s) = s1 at hb ⊢
 have o1:s1.out = s.out++[91]:=by rw [←hs1]; try rfl
 have l1:s1.l = s.l++[⟨6,0,s.out.length,false,[91],[]⟩]:=by
  rw [←hs1];unfold tokenW putW;simp
 generalize hs2:blanksW ps false s1 = s2 at hb ⊢;obtain ⟨b,hbk,e1,_⟩:=blanksW_out ps false s1;rw [hs2] at e1;generalize hs3:listL ps inner deep (pickT ps s2.k 5) (pickedW ps s2) = s3 at hb ⊢;obtain ⟨V,hV⟩:=listL_adds (ps:=ps) inner hi.adds deep (pickT ps s2.k 5) (pickedW ps s2);rw [hs3] at hV
 have hb3:bs = s3.out++([93]++r):=by rw [hb]; show (s3.out++[93])++r = _; simp
 have hb2:bs = s2.out++(V++([93]++r)):=by rw [hb3,hV]; show s2.out++V++_ = _; simp
 have hb1:bs = s.out++([91]++(b++(V++([93]++r)))):=by rw [hb2,e1,o1]; simp
 intro a ha;obtain ⟨a1,g1,g2,g3,g4⟩:=step_openL ha hb1 rfl;obtain ⟨k1,k2⟩:=reads_tok g1 g2 ⟨by unfold SepK; decide,by decide⟩ g3;rw [←o1] at g4;obtain ⟨a2,Y2,Z2,last2,c2,m2,t2,A2,rfl⟩:=reads_blanks (ps:=ps) (b:=false) (s:=s1) (bs:=bs) (r:=V++([93]++r)) (by rw [hs2]; exact hb2) a1 g4;rw [hs2] at m2 A2;have ho:=open_last st 91;rw [if_pos (by rfl)] at ho;obtain ⟨a3,Y3,Z3,last3,c3,m3,t3,A3,p3⟩:=reads_items (ps:=ps) (bs:=bs) hi (deep:=deep) ho.1 (pickT ps s2.k 5) (pickedW ps s2) 6 r (.inl rfl) (by rw [hs3]; exact hb3) a2 A2;rw [hs3] at m3 A3;obtain ⟨a4,q1,q2,q3,q4⟩:=step_closeL A3 hb3 ⟨rfl,rfl⟩ p3;obtain ⟨u1,u2⟩:=reads_tok q1 q2 ⟨by unfold SepK; decide,by decide⟩ q3;refine ⟨a4,[a1.tok]++(Y2++(Y3++[a4.tok])),[⟨6,0,s.out.length,false,[91],[]⟩]++(Z2++(Z3++[⟨7,0,s3.out.length,false,[93],[]⟩])),7,k1.trans (c2.trans (c3.trans u1)),?_,k2.append (t2.append (t3.append u2)),?_,rfl⟩
 ·show s3.l++[⟨7,0,(s3.out++[93]).length - 1,false,(s3.out++[93]).drop ((s3.out++[93]).length - 1),[]⟩] = _
  rw [m3]
  show s2.l++Z3++_ = _
  rw [m2,l1]; simp
 ·exact q4
def colonW (ps:List UInt8) (deep:Nat) (s1:WS):WS:=
 let s2:=pickedW ps s1
 if (if 8 < deep then 0 else pickT ps s1.k 6) < 4 then blanksW ps false (putW [58] (sepW s2)) else if 0 < pickT ps s2.k 2 then blanksW ps false (putW [58] (sepW (pickedW ps s2))) else pickedW ps s2
def valueW (ps:List UInt8) (inner:WS→WS) (deep:Nat) (kind:Nat) (s3:WS):WS:=if kind = 4 then messageW ps inner s3 else if kind = 5 then listW ps inner deep s3 else scalarW ps s3
def behindW (ps:List UInt8) (s4:WS):WS:=if 0 < pickT ps s4.k 3 then blanksW ps false (oneW ps sepTab (pickedW ps s4)) else blanksW ps true (pickedW ps s4)
def kindW (ps:List UInt8) (deep:Nat) (s1:WS):Nat:=if 8 < deep then 0 else pickT ps s1.k 6
theorem fieldW_eq (inner:WS→WS) (deep:Nat) (s:WS):fieldW ps inner deep s = behindW ps (blanksW ps false (valueW ps inner deep (kindW ps deep (blanksW ps false (nameW ps s))) (colonW ps deep (blanksW ps false (nameW ps s))))):=rfl
theorem behindW_out (ps:List UInt8) (s:WS):∃ x,(behindW ps s).out = s.out++x∧(behindW ps s).l = s.l∧(behindW ps s).left = s.left∧((∃ d b,x = [d]++b∧Blk b∧(d.toNat = 44∨d.toNat = 59))∨(Blk x∧endT x = true∧x≠[])):=by
 unfold behindW
 split
 ·obtain ⟨d,hd,h1,h2,h3⟩:=oneW_out ps sepTab (pickedW ps s) (by decide);obtain ⟨b,hb,e1,e2,e3,_⟩:=blanksW_out ps false (oneW ps sepTab (pickedW ps s))
  have:d = [44]∨d = [59]:=by simpa [sepTab] using hd
  refine ⟨d++b,by rw [e1,h1]; simp [pickedW],by rw [e2,h2]; try rfl,by rw [e3,h3]; try rfl,.inl ?_⟩
  rcases this with rfl | rfl
  ·exact ⟨44,b,rfl,hb,.inl rfl⟩
  ·exact ⟨59,b,rfl,hb,.inr rfl⟩
 ·obtain ⟨b,hb,e1,e2,e3,h⟩:=blanksW_out ps true (pickedW ps s);obtain ⟨c,y,rfl,hc⟩:=h rfl;refine ⟨c::y,e1,e2,e3,.inr ⟨hb,?_,by simp⟩⟩
  show delC c = true
  unfold blankT at hc;unfold delC;simp at hc ⊢;omega
theorem sepW_l (s:WS) (l:List TX) (t:TX) (h:s.l = l++[t]):(sepW s).l = l++[{ t with sep:=true }]:=by
 unfold sepW;simp [h]
theorem valueW_adds (inner:WS→WS) (hi:AddsF inner) (deep kind:Nat) (s:WS):∃ X,(valueW ps inner deep kind s).out = s.out++X∧(4≤kind→kind < 6→∃ c y,X = c::y∧(c.toNat = 123∨c.toNat = 60∨c.toNat = 91)):=by
 unfold valueW
 split
 ·obtain ⟨c,X,h,hc⟩:=messageW_adds (ps:=ps) inner hi s;exact ⟨_,h,fun _ _=>⟨c,X,rfl,by omega⟩⟩
 ·split
  ·obtain ⟨X,h⟩:=listW_adds (ps:=ps) inner hi deep s;exact ⟨_,h,fun _ _=>⟨91,X,rfl,.inr (.inr rfl)⟩⟩
  ·obtain ⟨x,_,h,_⟩:=scalarW_out ps s;exact ⟨x,h,fun h1 h2=>by omega⟩
theorem fieldW_adds (inner:WS→WS) (hi:AddsF inner) (deep:Nat) (s:WS):∃ c X,(fieldW ps inner deep s).out = s.out++c::X∧NHead c:=by
 rw [fieldW_eq];obtain ⟨x,nk,str,hx,h1,_⟩:=nameW_out ps s;obtain ⟨c,y,rfl,hc⟩:=hx.head;obtain ⟨b,_,e1,_⟩:=blanksW_out ps false (nameW ps s);generalize blanksW ps false (nameW ps s) = s1 at *
 obtain ⟨X,hX⟩:∃ X,(colonW ps deep s1).out = s1.out++X:=by
  unfold colonW;simp only;generalize (if 8 < deep then 0 else pickT ps s1.k 6) = kk
  split
  ·obtain ⟨b2,_,e2,_⟩:=blanksW_out ps false (putW [58] (sepW (pickedW ps s1)));exact ⟨[58]++b2,by rw [e2]; simp [putW,sepW,pickedW]⟩
  ·split
   ·obtain ⟨b2,_,e2,_⟩:=blanksW_out ps false (putW [58] (sepW (pickedW ps (pickedW ps s1))));exact ⟨[58]++b2,by rw [e2]; simp [putW,sepW,pickedW]⟩
   ·exact ⟨[],by simp [pickedW]⟩
 obtain ⟨V,hV,_⟩:=valueW_adds (ps:=ps) inner hi deep (kindW ps deep s1) (colonW ps deep s1);obtain ⟨b3,_,e3,_⟩:=blanksW_out ps false (valueW ps inner deep (kindW ps deep s1) (colonW ps deep s1));obtain ⟨z,hz,_⟩:=behindW_out ps (blanksW ps false (valueW ps inner deep (kindW ps deep s1) (colonW ps deep s1)));refine ⟨c,y++(b++(X++(V++(b3++z)))),?_,hc⟩;rw [hz,e3,hV,hX,e1,h1]; simp
theorem colonW_out (deep:Nat) (s1:WS) (l:List TX) (t:TX) (h:s1.l = l++[t]):∃ b,Blk b∧(colonW ps deep s1).out = s1.out++([58]++b)∧(colonW ps deep s1).l = l++[{ t with sep:=true }]∨(colonW ps deep s1).out = s1.out∧(colonW ps deep s1).l = s1.l∧¬ kindW ps deep s1 < 4:=by
 have fin:∀ s2:WS,s2.out = s1.out→s2.l = s1.l→∃ b,Blk b∧(blanksW ps false (putW [58] (sepW s2))).out = s1.out++([58]++b)∧(blanksW ps false (putW [58] (sepW s2))).l = l++[{ t with sep:=true }]:=by
  intro s2 h1 h2;obtain ⟨b,hb,e1,e2,_⟩:=blanksW_out ps false (putW [58] (sepW s2));refine ⟨b,hb,by rw [e1]; simp [putW,sepW,h1],?_⟩;rw [e2];exact sepW_l s2 l t (by rw [h2,h])
 unfold colonW;simp only
 show ∃ b,Blk b∧(if kindW ps deep s1 < 4 then _ else _:WS).out = _∧(if kindW ps deep s1 < 4 then _ else _:WS).l = _∨(if kindW ps deep s1 < 4 then _ else _:WS).out = _∧(if kindW ps deep s1 < 4 then _ else _:WS).l = _∧¬ kindW ps deep s1 < 4
 generalize kindW ps deep s1 = kk
 split
 ·obtain ⟨b,h⟩:=fin (pickedW ps s1) rfl rfl;exact ⟨b,.inl h⟩
 ·rename_i hk
  split
  ·obtain ⟨b,h⟩:=fin (pickedW ps (pickedW ps s1)) rfl rfl;exact ⟨b,.inl h⟩
  ·exact ⟨[],.inr ⟨rfl,rfl,hk⟩⟩
theorem reads_valueW {inner:WS→WS} (hi:GoodF ps inner) {deep kind:Nat} {st r:List UInt8} {s:WS} (hr:After r) (hb:bs = (valueW ps inner deep kind s).out++r):ReadsW bs st 2 ValEnd s (valueW ps inner deep kind s):=by
 have w:∀ {n:Nat} {s':WS},(n = 3∨n = 5∨n = 7)→ReadsW bs st 2 (· = n) s s'→ReadsW bs st 2 ValEnd s s':=by
  intro n s' hn h a ha;obtain ⟨a1,Y,Z,l,c,e,t,A,rfl⟩:=h a ha;exact ⟨a1,Y,Z,l,c,e,t,A,hn⟩
 unfold valueW at hb ⊢
 split at hb
 ·rename_i h4
  rw [if_pos h4];exact w (.inr (.inl rfl)) (reads_message hi (.inl rfl) hb)
 ·rename_i h4
  rw [if_neg h4]
  split at hb
  ·rename_i h5
   rw [if_pos h5];exact w (.inr (.inr rfl)) (reads_list hi hb)
  ·rename_i h5
   rw [if_neg h5];exact w (.inl rfl) (reads_scalar (.inl rfl) hr hb)
theorem kindW_lt (deep:Nat) (s:WS):kindW ps deep s < 6:=by
 unfold kindW
 split
 ·decide
 ·exact pickL_lt ps s.k 6 (by decide)
theorem field_open {st:List UInt8} {last:Nat} (h:FieldAt st last):openK st = 0∨openK st = 4:=by
 rcases h with h | h
 ·exact .inl h.1
 ·exact .inr h.1
theorem reads_field {inner:WS→WS} (hi:GoodF ps inner) {deep:Nat} {st r:List UInt8} {last:Nat} {s:WS} (hF:FieldAt st last) (hr:NoQ r) (hb:bs = (fieldW ps inner deep s).out++r):ReadsW bs st last (fun n=>ValEnd n∨SepK n) s (fieldW ps inner deep s):=by
 rw [fieldW_eq] at hb ⊢;obtain ⟨x,nk,str,hx,o1,l1,_⟩:=nameW_out ps s;obtain ⟨b,hbk,e1,e2,_⟩:=blanksW_out ps false (nameW ps s);generalize hs1:blanksW ps false (nameW ps s) = s1 at hb ⊢ e1 e2;have hk6:=kindW_lt (ps:=ps) deep s1;have hcol:=colonW_out (ps:=ps) deep s1 s.l ⟨2,nk,s.out.length,false,x,str⟩ (by rw [e2,l1]);generalize hs3:colonW ps deep s1 = s3 at hb ⊢ hcol;generalize hkd:kindW ps deep s1 = kind at *;obtain ⟨V,hV,hVh⟩:=valueW_adds (ps:=ps) inner hi.adds deep kind s3;generalize hs4:valueW ps inner deep kind s3 = s4 at hb ⊢ hV;obtain ⟨b4,hb4,f1,f2,_⟩:=blanksW_out ps false s4;generalize hs5:blanksW ps false s4 = s5 at hb ⊢ f1 f2;obtain ⟨z,g1,g2,_,gz⟩:=behindW_out ps s5
 have hbz:bs = s5.out++(z++r):=by rw [hb,g1]; simp
 have hb4':bs = s4.out++(b4++(z++r)):=by rw [hbz,f1]; simp
 have hb3:bs = s3.out++(V++(b4++(z++r))):=by rw [hb4',hV]; simp
 -- what stands behind the value
 have haft:After (b4++(z++r)):=by
  rcases gz with ⟨d,b',rfl,hb',hd⟩ | ⟨hz,hze,hne⟩
  ·refine ⟨endT_blk hb4 (by show delC d = true; unfold delC; simp; omega),?_⟩;exact noQ_blk hb4 (by rw [List.append_assoc]; exact noQ_head (blank_no (by omega)) (by omega) (by omega))
  ·refine ⟨endT_blk hb4 ?_,noQ_blk hb4 (noQ_blk hz hr)⟩
   cases z with
   | nil=>exact absurd rfl hne
   | cons c z=>exact hze
 -- the name
 refine ReadsW.comp (s1:=s3) (post1:=(· = 2)) ?_ fun l2 h2=>?_
 ·intro a ha;obtain ⟨b3,hcol⟩:=hcol
  rcases hcol with ⟨hb3k,c1,c2⟩ | ⟨c1,c2,hk4⟩
  ·obtain ⟨a1,q1,q2,q3,q4⟩:=step_colon (r:=b3++(V++(b4++(z++r)))) ha hF hx hbk (by rw [hb3,c1,e1,o1]; simp);obtain ⟨k1,k2⟩:=reads_tok q1 q2 ⟨by unfold SepK; decide,by decide⟩ q3;refine ⟨a1,_,_,2,k1,c2,k2,?_,rfl⟩;have:=q4.blank (x:=b3) (r:=V++(b4++(z++r))) (by rw [hb3,c1,e1,o1]; simp) hb3k;rw [c1,e1,o1]
   simpa using this
  ·obtain ⟨c,y,rfl,hc⟩:=hVh (by omega) hk6;obtain ⟨a1,q1,q2,q3,q4⟩:=step_bare (r:=y++(b4++(z++r))) ha hF hx hbk (by rw [hb3,c1,e1,o1]; simp) hc;obtain ⟨k1,k2⟩:=reads_tok q1 q2 ⟨by unfold SepK; decide,by decide⟩ q3;refine ⟨a1,_,_,2,k1,by rw [c2,e2,l1],k2,?_,rfl⟩;rw [c1,e1,o1];exact q4
 ·subst h2;have hv:=reads_valueW (bs:=bs) hi (deep:=deep) (kind:=kind) (st:=st) (s:=s3) haft (by rw [hs4]; exact hb4');rw [hs4] at hv;refine ReadsW.comp hv fun l3 h3=>?_;have hbl:=reads_blanks (ps:=ps) (bs:=bs) (st:=st) (last:=l3) (b:=false) (s:=s4) (r:=z++r) (by rw [hs5]; exact hbz);rw [hs5] at hbl;refine ReadsW.comp hbl fun l4 h4=>?_;subst h4;intro a ha
  rcases gz with ⟨d,b',rfl,hb',hd⟩ | ⟨hz,hze,hne⟩
  ·obtain ⟨a1,q1,q2,q3⟩:=step_sep (d:=d) ha (r:=b'++r) (by rw [hbz]; simp) (by have:=field_open hF; omega) h3 (by have:=field_open hF; omega);have A:=q3.blank (x:=b') (r:=r) (by rw [hbz]; simp) hb'
   have hsk:SepK (if d.toNat = 44 then 8 else 9):=by split; exact .inl rfl; exact .inr rfl
   refine ⟨a1,[],[],_,.comma q1 (by rw [q2]; exact hsk) (.nil _),by rw [g2]; simp,.nil,?_,.inr hsk⟩;rw [g1]
   simpa using A
  ·have A:=ha.blank (x:=z) (r:=r) (by rw [hbz]) hz;exact ⟨a,[],[],l4,.nil _,by rw [g2]; simp,.nil,by rw [g1]; exact A,.inl h3⟩
theorem field_next {st:List UInt8} {last n:Nat} (h:FieldAt st last) (hn:ValEnd n∨SepK n):FieldAt st n:=by
 rcases h with h | h
 ·exact .inl ⟨h.1,.inr hn⟩
 ·exact .inr ⟨h.1,.inr hn⟩
theorem goodF_fieldsL {inner:WS→WS} (hi:GoodF ps inner) (deep:Nat):∀ f,GoodF ps (fieldsL ps inner deep f)
 | 0=>goodF_id
 | f+1=>by
  have ih:=goodF_fieldsL hi deep f;refine ⟨fun s=>?_,fun bs st r last open_ s hF hE hr hb=>?_⟩
  ·unfold fieldsL
   split
   ·exact ⟨[],by simp,.inl rfl⟩
   ·split
    ·exact ⟨[],by simp [pickedW],.inl rfl⟩
    ·obtain ⟨c,X,h1,hc⟩:=fieldW_adds (ps:=ps) inner hi.adds deep { pickedW ps s with left:=s.left - 1 };obtain ⟨Y,h2,_⟩:=ih.adds (fieldW ps inner deep { pickedW ps s with left:=s.left - 1 });exact ⟨c::(X++Y),by rw [h2,h1]; simp [pickedW],.inr ⟨c,_,rfl,hc⟩⟩
  ·unfold fieldsL at hb ⊢
   split at hb
   ·rename_i h0
    rw [if_pos h0];exact fun a ha=>⟨a,[],[],last,.nil _,by simp,.nil,ha,hE⟩
   ·rename_i h0
    rw [if_neg h0]
    split at hb
    ·rename_i h1
     rw [if_pos h1];exact fun a ha=>⟨a,[],[],last,.nil _,by simp [pickedW],.nil,ha,hE⟩
    ·rename_i h1
     rw [if_neg h1];obtain ⟨X,hX,hXh⟩:=ih.adds (fieldW ps inner deep { pickedW ps s with left:=s.left - 1 });have h1:=reads_field (bs:=bs) hi (deep:=deep) (st:=st) (last:=last) (r:=X++r) (s:={ pickedW ps s with left:=s.left - 1 }) hF (noQ_adds hXh hr) (by rw [hb,hX]; simp);have h1':ReadsW bs st last (fun n=>ValEnd n∨SepK n) s (fieldW ps inner deep { pickedW ps s with left:=s.left - 1 }):=h1;exact ReadsW.comp h1' fun l1 hl1=>ih.reads bs st r l1 open_ _ (field_next hF hl1) (.inr hl1) hr hb
theorem goodF_fieldsW:∀ (d deep:Nat),GoodF ps (fieldsW ps d deep)
 | 0,_=>goodF_id
 | d+1,deep=>by
  have ih:=goodF_fieldsW d (deep+1);refine ⟨fun s=>?_,fun bs st r last open_ s hF hE hr hb=>?_⟩
  ·exact (goodF_fieldsL ih deep s.left).adds s
  ·exact (goodF_fieldsL ih deep s.left).reads bs st r last open_ s hF hE hr hb
theorem at_new:At bs 0 [] 0 DT.new:=⟨rfl,rfl,rfl,rfl,Nat.zero_le _,rfl⟩
theorem write_way (ps:List UInt8):∃ a Y last,Chain (writeW ps).out DT.new Y a∧ToksOk Y (writeW ps).l∧At (writeW ps).out (writeW ps).out.length [] last a∧FieldsEnd 0 last:=by
 have good:=goodF_fieldsW (ps:=ps) 10 0;generalize hs0:blanksW ps false ⟨0,[],[],300⟩ = s0
 have e:writeW ps = fieldsW ps 10 0 s0:=by rw [←hs0]; try rfl
 rw [e];obtain ⟨X,hX,_⟩:=good.adds s0;generalize hbs:(fieldsW ps 10 0 s0).out = bs at hX;have h0:=reads_blanks (ps:=ps) (bs:=bs) (st:=[]) (last:=0) (b:=false) (s:=⟨0,[],[],300⟩) (r:=X) (by rw [hs0,hX]);rw [hs0] at h0
 have h1:ReadsW bs [] 0 (FieldsEnd 0) ⟨0,[],[],300⟩ (fieldsW ps 10 0 s0):=ReadsW.comp h0 fun l1 hl1=>by
  subst hl1;exact good.reads bs [] [] 0 0 s0 (.inl ⟨rfl,.inl rfl⟩) (.inl rfl) rfl (by rw [hbs]; simp)
 obtain ⟨a,Y,Z,last,c,m,t,A,p⟩:=h1 DT.new at_new;exact ⟨a,Y,last,c,by rw [m]; exact t,by rw [hbs] at A; exact A,p⟩
theorem write_reads (ps:List UInt8):∃ Y,allT (writeW ps).out [] = (Y,true)∧ToksOk Y (writeW ps).l:=by
 obtain ⟨a,Y,last,c,ht,A,p⟩:=write_way ps;refine ⟨Y,?_,ht⟩;generalize (writeW ps).out = bs at *
 have hgo:goT bs bs.length 0 = bs.length:=by
  rw [goT_zero,List.drop_length,skT_nil]; try rfl
 obtain ⟨e',he,hek⟩:=step_end A hgo p open_nil;have hf:=c.facts (Nat.zero_le _)
 have hlen:Y.length < bs.length+1:=by
  have h2:=hf.2.1;have h3:=hf.2.2.1;simp only [DT.new] at h3;omega
 have:=(c.run he hek rfl (Nat.zero_le _) (bs.length+1) [] hlen).1 (by unfold SepK; decide);rw [List.nil_append] at this;exact this
end Go.Proofs.YtgdnpnipahegaaaGreatDoor
namespace Go.Proofs.YtgdnpnipahegaaaGreatDoor
open Go.ChangeShapes Go.WideShapes Go.ChangeAt Go.RowKit
theorem qCells_at:∀ (l:List TX) (i q:Nat) (h:i < l.length),q < 6→(l.flatMap qCells)[i * 6+q]? = (qCells l[i])[q]?
 | [],i,q,h,_=>by simp at h
 | t::l,0,q,h,hq=>by
  rw [List.flatMap_cons,List.getElem?_append_left (by simp [qCells]; omega)];simp
 | t::l,i+1,q,h,hq=>by
  rw [List.flatMap_cons,List.getElem?_append_right (by simp [qCells]; omega)]
  have e:(i+1) * 6+q - (qCells t).length = i * 6+q:=by simp [qCells]; omega
  rw [e,qCells_at l i q (by simpa using h) hq];simp
theorem OwnQ.cells {w:World} {B:Nat} {v:Value} {l:List TX} (h:OwnQ w B v l):∃ ao cap,v = .slice ao l.length cap∧∀ i (hi:i < l.length),∃ g,ao = some ⟨g,0,none⟩∧g < w.heap.size∧∀ q,q < 6→w.cell? ⟨g,i * 6+q,none⟩ = (qCells l[i])[q]?:=by
 by_cases hne:l = []
 ·obtain ⟨ao,c,rfl⟩:=h.slice;exact ⟨ao,c,rfl,fun i hi=>by rw [hne] at hi; simp at hi⟩
 ·have hl:0 < l.length:=List.length_pos_iff.2 hne;obtain ⟨g,cap,rfl,hB,hlt⟩:=World.ownsRow.form h hl;refine ⟨_,cap,rfl,fun i hi=>⟨g,rfl,hlt,fun q hq=>?_⟩⟩;have h1:=qCells_at l i q hi hq
  have hq':q < (qCells l[i]).length:=by simpa [qCells] using hq
  rw [List.getElem?_eq_getElem hq'] at h1 ⊢;have h2:=World.ownsRow.cells h (g:=g) rfl _ _ h1;rwa [Addr.add_lit,Nat.zero_add] at h2
theorem ToksOk.get {l:List TT} {m:List TX} (h:ToksOk l m):∀ (j:Nat) (h1:j < l.length) (h2:j < m.length),TokOk l[j] m[j]:=by
 induction h with
 | nil=>intro j h1; simp at h1
 | cons h1 _ ih=>
  intro j h2 h3
  cases j with
  | zero=>exact h1
  | succ j=>exact ih j (by simpa using h2) (by simpa using h3)
theorem both_cells {t:TT} {x:TX} (h:TokOk t x):∃ (k a p:Int) (s:Bool) (r r2:List UInt8) (y:ByteArray),txCells t = [.int .i64 k,.int .i64 a,.int .i64 p,.bool s,.string ⟨r.toArray⟩,.string y]∧qCells x = [.int .i64 k,.int .i64 a,.int .i64 p,.bool s,.string ⟨r2.toArray⟩,.string y]∧(quotedB r2 = false→r = r2):=by
 refine ⟨x.kind,x.nk,x.pos,x.sep,t.raw,x.raw,⟨x.str.toArray⟩,?_,rfl,fun hq=>h.raw hq⟩;have h1:=h.kind;have h2:=h.nk;have h3:=h.pos;have h4:=h.sep;have h5:=h.str;simp only [outT] at h1 h2 h3 h4 h5;rw [←h1,←h2,←h3,←h4,←h5];unfold txCells
 by_cases hk:t.kind = 2 <;> simp [hk]
def Six (w:World) (g n:Nat) (k a p:Int) (s:Bool) (r y:ByteArray):Prop:=w.cell? ⟨g,n,none⟩ = some (.int .i64 k)∧w.cell? ⟨g,n+1,none⟩ = some (.int .i64 a)∧w.cell? ⟨g,n+2,none⟩ = some (.int .i64 p)∧w.cell? ⟨g,n+3,none⟩ = some (.bool s)∧w.cell? ⟨g,n+4,none⟩ = some (.string r)∧w.cell? ⟨g,n+5,none⟩ = some (.string y)
theorem six_of {w w':World} {g n:Nat} {k a p:Int} {s:Bool} {r y:ByteArray} {cs:List Value} (hb:Below w.heap.size w w') (hg:g < w.heap.size) (hc:cs = [.int .i64 k,.int .i64 a,.int .i64 p,.bool s,.string r,.string y]) (h:∀ q,q < 6→w.cell? ⟨g,n+q,none⟩ = cs[q]?):Six w' g n k a p s r y:=by
 subst hc;have k:∀ q,q < 6→w'.cell? ⟨g,n+q,none⟩ = _:=fun q hq=>(hb.cell (p:=⟨g,n+q,none⟩) hg).trans (h q hq);exact ⟨k 0 (by omega),k 1 (by omega),k 2 (by omega),k 3 (by omega),k 4 (by omega),k 5 (by omega)⟩
def Row3 (w:World) (ao2 ao3 aoQ:Option Addr) (j:Nat):Prop:=∃ (g2 g3 gQ:Nat) (k a p:Int) (s:Bool) (r r2:List UInt8) (y:ByteArray),ao2 = some ⟨g2,0,none⟩∧ao3 = some ⟨g3,0,none⟩∧aoQ = some ⟨gQ,0,none⟩∧(quotedB r2 = false→r = r2)∧g2 < w.heap.size∧g3 < w.heap.size∧gQ < w.heap.size∧∀ w',Below w.heap.size w w'→Six w' g2 (j * 6) k a p s ⟨r.toArray⟩ y∧Six w' g3 (j * 6) k a p s ⟨r.toArray⟩ y∧Six w' gQ (j * 6) k a p s ⟨r2.toArray⟩ y
theorem rows3 {w:World} {B2 B3 BQ c2 c3 cQ N:Nat} {ao2 ao3 aoQ:Option Addr} {L:List TT} {l:List TX} (hok:ToksOk L l) (hL:L.length = N) (h2:OwnX w B2 (.slice ao2 N c2) L) (h3:OwnX w B3 (.slice ao3 N c3) L) (hQ:OwnQ w BQ (.slice aoQ N cQ) l) (j:Nat) (hj:j < N):Row3 w ao2 ao3 aoQ j:=by
 have hlen:=hok.length;obtain ⟨a2,d2,e2,f2⟩:=h2.cells;obtain ⟨a3,d3,e3,f3⟩:=h3.cells;obtain ⟨aQ,dQ,eQ,fQ⟩:=hQ.cells
 injection e2 with e2 _ _
 injection e3 with e3 _ _
 injection eQ with eQ _ _
 subst e2 e3 eQ;obtain ⟨g2,q2,l2,k2⟩:=f2 j (by omega);obtain ⟨g3,q3,l3,k3⟩:=f3 j (by omega);obtain ⟨gQ,qQ,lQ,kQ⟩:=fQ j (by omega);obtain ⟨k,a,p,s,r,r2,y,t1,t2,t3⟩:=both_cells (hok.get j (by omega) (by omega));exact ⟨g2,g3,gQ,k,a,p,s,r,r2,y,q2,q3,qQ,t3,l2,l3,lQ,fun w' hb=>⟨six_of hb l2 t1 k2,six_of hb l3 t1 k3,six_of hb lQ t2 kQ⟩⟩
end Go.Proofs.YtgdnpnipahegaaaGreatDoor
