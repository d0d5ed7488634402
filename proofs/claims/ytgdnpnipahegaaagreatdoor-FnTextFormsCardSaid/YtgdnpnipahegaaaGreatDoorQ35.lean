/-
 The package's reader over a whole message that the reference's writer of the text form writes: fields, messages, lists, up to the end. Plain functions.
-/
import Derived.Test.YtgdnpnipahegaaaGreatDoorQ34
import Derived.Test.YtgdnpnipahegaaaGreatDoorQ15
import Derived.Test.YtgdnpnipahegaaaGreatDoorQ32
import Derived.Lib.SlBytesConst
import Derived.Lib.SmallJoins
namespace Go.Proofs.YtgdnpnipahegaaaGreatDoor
section
variable {bs:List UInt8} {ps:List UInt8}
def ReadsW (bs st:List UInt8) (last:Nat) (post:Nat→Prop) (s s':WS):Prop:=
 ∀ a,At bs s.out.length st last a→∃ a' Y Z last',Chain bs a Y a'∧s'.l = s.l++Z∧ToksOk Y Z∧At bs s'.out.length st last' a'∧post last'
theorem ReadsW.comp {st:List UInt8} {last:Nat} {post1 post2:Nat→Prop} {s s1 s2:WS} (h1:ReadsW bs st last post1 s s1) (h2:∀ last1,post1 last1→ReadsW bs st last1 post2 s1 s2):ReadsW bs st last post2 s s2:=by
 intro a ha;obtain ⟨a1,Y1,Z1,l1,c1,e1,t1,A1,p1⟩:=h1 a ha;obtain ⟨a2,Y2,Z2,l2,c2,e2,t2,A2,p2⟩:=h2 l1 p1 a1 A1;exact ⟨a2,Y1++Y2,Z1++Z2,l2,c1.trans c2,by rw [e2,e1,List.append_assoc],t1.append t2,A2,p2⟩
theorem E2 {a a':DT} {t:TX} {k:Nat} (h:BN bs a = some a') (hk:a'.tok.kind = k) (hk2:¬ Cr k∧k≠1) (ht:TokOk a'.tok t):Chain bs a [a'.tok] a'∧ToksOk [a'.tok] [t]:=
 ⟨.tok h (by rw [hk]; exact hk2.1) (by rw [hk]; exact hk2.2) (.nil _),.cons ht .nil⟩
theorem D0 {st r:List UInt8} {last:Nat} {b:Bool} {s:WS} (hb:bs = (Am ps b s).out++r):ReadsW bs st last (· = last) s (Am ps b s):=by
 obtain ⟨x,hx,e1,e2,_,_⟩:=A8 ps b s;intro a ha;refine ⟨a,[],[],last,.nil _,by rw [e2,List.append_nil],.nil,?_,rfl⟩;rw [e1] at hb ⊢;exact ha.blank (r:=r) (by rw [hb,List.append_assoc]) hx
def NoQ (r:List UInt8):Prop:=ED (csT r) = false
def NF (f:WS→WS):Prop:=∀ s,∃ X,(f s).out = s.out++X∧(X = []∨∃ c y,X = c::y∧K6 c)
def IW (open_ n:Nat):Prop:=n = open_∨Cz n∨Cr n
structure GoodF (ps:List UInt8) (f:WS→WS):Prop where
 adds:NF f
 reads:∀ (bs st r:List UInt8) (last open_:Nat) (s:WS),FN st last→IW open_ last→NoQ r→bs = (f s).out++r→ReadsW bs st last (IW open_) s (f s)
theorem J4 {c:UInt8} {r:List UInt8} (h1:Ch c = false) (h2:c.toNat≠35) (h3:c.toNat≠34∧c.toNat≠39):NoQ (c::r):=by
 unfold NoQ;rw [Ke h1 h2];simp [ED,h3]
theorem Lo {b r:List UInt8} (hb:Blk b) (h:NoQ r):NoQ (b++r):=by unfold NoQ; rw [Lq hb]; exact h
theorem PG:GoodF ps id:=⟨fun s=>⟨[],by simp,.inl rfl⟩,fun bs st r last open_ s _ hE _ _ a ha=>⟨a,[],[],last,.nil _,by simp,.nil,ha,hE⟩⟩
theorem Ty {X r:List UInt8} (hX:X = []∨∃ c y,X = c::y∧K6 c) (hr:NoQ r):NoQ (X++r):=by
 rcases hX with rfl | ⟨c,y,rfl,hc⟩
 ·exact hr
 ·exact J4 hc.1 hc.2.1 ⟨hc.2.2.1,hc.2.2.2.1⟩
theorem I8 (inner:WS→WS) (hi:NF inner) (s:WS):∃ c X,(Cb ps inner s).out = s.out++c::X∧(c.toNat = 123∨c.toNat = 60):=by
 unfold Cb;simp only;obtain ⟨b,_,e1,_⟩:=A8 ps false (Cu 4 ((AW [if 0 < Af ps s.k 2 then 60 else 123] (Ab ps s)).out.length - 1) (AW [if 0 < Af ps s.k 2 then 60 else 123] (Ab ps s)));obtain ⟨X,f1,_⟩:=hi (Am ps false (Cu 4 ((AW [if 0 < Af ps s.k 2 then 60 else 123] (Ab ps s)).out.length - 1) (AW [if 0 < Af ps s.k 2 then 60 else 123] (Ab ps s))));refine ⟨if 0 < Af ps s.k 2 then 60 else 123,b++X++[if 0 < Af ps s.k 2 then 62 else 125],?_,by split <;> simp⟩;simp only [Cu,AW,Ab] at e1 f1 ⊢;rw [f1,e1]; simp
theorem I3 {inner:WS→WS} (hi:GoodF ps inner) {st r:List UInt8} {last:Nat} {s:WS} (hV:H7 st last) (hb:bs = (Cb ps inner s).out++r):ReadsW bs st last (· = 5) s (Cb ps inner s):=by
 unfold Cb at hb ⊢;simp only at hb ⊢
 obtain ⟨c,hc⟩:∃ c:UInt8,c = if 0 < Af ps s.k 2 then 60 else 123:=⟨_,rfl⟩
 obtain ⟨d,hd⟩:∃ d:UInt8,d = if 0 < Af ps s.k 2 then 62 else 125:=⟨_,rfl⟩
 have hcd:c.toNat = 123∧d.toNat = 125∨c.toNat = 60∧d.toNat = 62:=by
  rw [hc,hd]; split
  ·exact .inr ⟨rfl,rfl⟩
  ·exact .inl ⟨rfl,rfl⟩
 rw [←hc,←hd] at hb ⊢;clear hc hd;generalize hs1:Cu 4 ((AW [c] (Ab ps s)).out.length - 1) (AW [c] (Ab ps s)) = s1 at hb ⊢
 have o1:s1.out = s.out++[c]:=by rw [←hs1]; try rfl
 have l1:s1.l = s.l++[⟨4,0,s.out.length,false,[c],[]⟩]:=by
  rw [←hs1];unfold Cu AW Ab;simp
 generalize hs2:Am ps false s1 = s2 at hb ⊢;generalize hs3:inner s2 = s3 at hb ⊢;obtain ⟨b,hbk,e1,_⟩:=A8 ps false s1;obtain ⟨X,f1,f2⟩:=hi.adds s2;rw [hs2] at e1;rw [hs3] at f1
 have hb3:bs = s3.out++([d]++r):=by rw [hb]; show (s3.out++[d])++r = _; simp
 have hb2:bs = s2.out++(X++([d]++r)):=by rw [hb3,f1,List.append_assoc]
 have hb1:bs = s.out++([c]++(b++(X++([d]++r)))):=by rw [hb2,e1,o1]; simp
 intro a ha;obtain ⟨a1,g1,g2,g3,g4⟩:=Qb ha hV hb1 (by omega);obtain ⟨k1,k2⟩:=E2 g1 g2 ⟨by unfold Cr; decide,by decide⟩ g3;rw [←o1] at g4;obtain ⟨a2,Y2,Z2,last2,c2,m2,t2,A2,rfl⟩:=D0 (ps:=ps) (b:=false) (s:=s1) (bs:=bs) (r:=X++([d]++r)) (by rw [hs2]; exact hb2) a1 g4;rw [hs2] at m2 A2;have ho:=IM st c;rw [if_neg (by omega)] at ho;obtain ⟨a3,Y3,Z3,last3,c3,m3,t3,A3,p3⟩:=hi.reads bs (st++[c]) ([d]++r) 4 4 s2 (.inr ⟨ho.1,.inl rfl⟩) (.inl rfl) (J4 (CY (by omega)) (by omega) (by omega)) (by rw [hs3]; exact hb3) a2 A2;rw [hs3] at m3 A3;obtain ⟨a4,q1,q2,q3,q4⟩:=OZ A3 hb3 hcd p3;obtain ⟨u1,u2⟩:=E2 q1 q2 ⟨by unfold Cr; decide,by decide⟩ q3;refine ⟨a4,[a1.tok]++(Y2++(Y3++[a4.tok])),[⟨4,0,s.out.length,false,[c],[]⟩]++(Z2++(Z3++[⟨5,0,s3.out.length,false,[d],[]⟩])),5,k1.trans (c2.trans (c3.trans u1)),?_,k2.append (t2.append (t3.append u2)),?_,rfl⟩
 ·show s3.l++[⟨5,0,(s3.out++[d]).length - 1,false,(s3.out++[d]).drop ((s3.out++[d]).length - 1),[]⟩] = _
  rw [m3,m2,l1]; simp
 ·exact q4
theorem Hz (inner:WS→WS) (hi:NF inner) (deep:Nat):∀ (n:Nat) (s:WS),∃ X,(listL ps inner deep n s).out = s.out++X
 | 0,s=>⟨[],by simp [listL]⟩
 | n+1,s=>by
  unfold listL
  split
  ·exact ⟨[],by simp⟩
  ·simp only
   have one:∀ s1:WS,s1.out = s.out→∃ X,(if deep < 8 then (if Af ps s1.k 3 = 2 then Cb ps inner (Ab ps s1) else Bn ps (Ab ps s1)) else Bn ps s1).out = s.out++X:=by
    intro s1 h1
    split
    ·split
     ·obtain ⟨c,X,e,_⟩:=I8 (ps:=ps) inner hi (Ab ps s1);exact ⟨_,by rw [e]; show s1.out++_ = _; rw [h1]⟩
     ·obtain ⟨x,_,e,_⟩:=Gv ps (Ab ps s1);exact ⟨_,by rw [e]; show s1.out++_ = _; rw [h1]⟩
    ·obtain ⟨x,_,e,_⟩:=Gv ps s1;exact ⟨_,by rw [e,h1]⟩
   obtain ⟨X,hX⟩:=one { s with left:=s.left - 1 } rfl;generalize (if deep < 8 then (if Af ps _ 3 = 2 then Cb ps inner (Ab ps _) else Bn ps (Ab ps _)) else Bn ps _) = s2 at *;obtain ⟨b,_,e1,_⟩:=A8 ps false s2;generalize hs4:(if 1 < n+1∧0 < (Am ps false s2).left then Am ps false (AW [44] (Am ps false s2)) else Am ps false s2) = s4
   obtain ⟨W,hW⟩:∃ W,s4.out = s.out++W:=by
    rw [←hs4]
    split
    ·obtain ⟨b2,_,e2,_⟩:=A8 ps false (AW [44] (Am ps false s2));exact ⟨X++(b++([44]++b2)),by rw [e2]; show (Am ps false s2).out++[44]++b2 = _; rw [e1,hX]; simp⟩
    ·exact ⟨X++b,by rw [e1,hX]; simp⟩
   obtain ⟨V,hV⟩:=Hz inner hi deep n s4;exact ⟨W++V,by rw [hV,hW]; simp⟩
def InL (r:List UInt8):Prop:=∃ b c y,r = b++c::y∧Blk b∧(c.toNat = 44∨c.toNat = 93)
theorem Sj {r:List UInt8} (h:InL r):MG r:=by
 obtain ⟨b,c,y,rfl,hb,hc⟩:=h;refine ⟨IA hb (by show DI c = true; unfold DI; simp; omega),?_⟩;exact Lo hb (J4 (CY (by omega)) (by omega) (by omega))
theorem Hp {st r:List UInt8} {last:Nat} {s:WS} (hV:H7 st last) (hr:MG r) (hb:bs = (Bn ps s).out++r):ReadsW bs st last (· = 3) s (Bn ps s):=by
 obtain ⟨x,hx,e1,e2,_⟩:=Gv ps s;intro a ha;rw [e1] at hb;obtain ⟨a1,g1,g2,g3,g4⟩:=OY ha hV hx (r:=r) (by rw [hb]; simp) hr;obtain ⟨k1,k2⟩:=E2 g1 g2 ⟨by unfold Cr; decide,by decide⟩ g3;exact ⟨a1,_,_,3,k1,e2,k2,by rw [e1]; exact g4,rfl⟩
def Mp (ps:List UInt8) (inner:WS→WS) (deep:Nat) (s1:WS):WS:=if deep < 8 then (if Af ps s1.k 3 = 2 then Cb ps inner (Ab ps s1) else Bn ps (Ab ps s1)) else Bn ps s1
theorem Qh {inner:WS→WS} (hi:GoodF ps inner) {deep:Nat} {st r:List UInt8} {last:Nat} {s:WS} (hV:H7 st last) (hr:MG r) (hb:bs = (Mp ps inner deep s).out++r):ReadsW bs st last Cz s (Mp ps inner deep s):=by
 have w:∀ {n:Nat} {s':WS},(n = 3∨n = 5)→ReadsW bs st last (· = n) s s'→ReadsW bs st last Cz s s':=by
  intro n s' hn h a ha;obtain ⟨a1,Y,Z,l,c,e,t,A,rfl⟩:=h a ha;exact ⟨a1,Y,Z,l,c,e,t,A,by unfold Cz; omega⟩
 unfold Mp at hb ⊢
 split at hb
 ·rename_i h8
  rw [if_pos h8]
  split at hb
  ·rename_i h2
   rw [if_pos h2];exact w (.inr rfl) (I3 hi hV hb (s:=Ab ps s))
  ·rename_i h2
   rw [if_neg h2];exact w (.inl rfl) (Hp hV hr hb (s:=Ab ps s))
 ·rename_i h8
  rw [if_neg h8];exact w (.inl rfl) (Hp hV hr hb)
theorem Ml (inner:WS→WS) (deep n:Nat) (s:WS):listL ps inner deep (n+1) s = if s.left = 0 then s else
  listL ps inner deep n (if 1 < n+1∧0 < (Am ps false (Mp ps inner deep { s with left:=s.left - 1 })).left then Am ps false (AW [44] (Am ps false (Mp ps inner deep { s with left:=s.left - 1 }))) else Am ps false (Mp ps inner deep { s with left:=s.left - 1 })):=rfl
theorem Qx (inner:WS→WS) (deep:Nat) (s:WS):listL ps inner deep 0 s = s:=rfl
theorem KO {inner:WS→WS} (hi:GoodF ps inner) {deep:Nat} {st:List UInt8} (ho:AB st = 6):∀ (n:Nat) (s:WS) (last:Nat) (y:List UInt8),(last = 6∨last = 8∧0 < n∧0 < s.left)→bs = (listL ps inner deep n s).out++93::y→ReadsW bs st last (fun l=>l = 6∨Cz l) s (listL ps inner deep n s)
 | 0,s,last,y,hl,hb=>fun a ha=>⟨a,[],[],last,.nil _,by rw [Qx]; simp,.nil,ha,by omega⟩
 | n+1,s,last,y,hl,hb=>by
  rw [Ml] at hb ⊢
  split at hb
  ·rename_i h0
   rw [if_pos h0];exact fun a ha=>⟨a,[],[],last,.nil _,by simp,.nil,ha,by omega⟩
  ·rename_i h0
   rw [if_neg h0]
   have hV:H7 st last:=by
    rcases hl with rfl | ⟨rfl,_⟩
    ·exact .inr (.inl rfl)
    ·exact .inr (.inr ⟨rfl,ho⟩)
   generalize hs2:Mp ps inner deep { s with left:=s.left - 1 } = s2 at hb ⊢;obtain ⟨b,hbk,e1,e2,e3,_⟩:=A8 ps false s2;generalize hs3:Am ps false s2 = s3 at hb ⊢ e1 e2 e3
   have first:∀ r,bs = s3.out++r→InL r→ReadsW bs st last Cz s s3:=by
    intro r hbr hr;refine ReadsW.comp (s1:=s2) (post1:=Cz) ?_ fun l1 h1=>?_
    ·have:=Qh (bs:=bs) hi (deep:=deep) (r:=b++r) (s:={ s with left:=s.left - 1 }) hV (by
      obtain ⟨b',c,y,rfl,hb',hc⟩:=hr
      exact Sj ⟨b++b',c,y,by simp,Us hbk hb',hc⟩) (by rw [hs2,hbr,e1]; simp)
     rw [hs2] at this;exact this
    ·have:=D0 (ps:=ps) (bs:=bs) (st:=st) (last:=l1) (b:=false) (s:=s2) (r:=r) (by rw [hs3]; exact hbr);rw [hs3] at this
     exact fun a ha=>by
      obtain ⟨a',Y,Z,l,c,e,t,A,rfl⟩:=this a ha;exact ⟨a',Y,Z,l,c,e,t,A,h1⟩
   split at hb
   ·rename_i hc
    rw [if_pos hc];obtain ⟨b2,hb2,f1,f2,f3,_⟩:=A8 ps false (AW [44] s3);generalize hs4:Am ps false (AW [44] s3) = s4 at hb ⊢ f1 f2 f3;obtain ⟨V,hV4⟩:=Hz (ps:=ps) inner hi.adds deep n s4
    have hb4:bs = s4.out++(V++93::y):=by rw [hb,hV4]; simp
    have hb3:bs = s3.out++([44]++(b2++(V++93::y))):=by rw [hb4,f1]; simp [AW]
    refine ReadsW.comp (first _ hb3 ⟨[],44,_,rfl,Blk.nil,.inl rfl⟩) fun l1 h1=>?_;refine ReadsW.comp (s1:=s4) (post1:=(· = 8)) ?_ fun l2 h2=>?_
    ·intro a ha;obtain ⟨a1,g1,g2,g3⟩:=OX ha hb3 (.inl rfl) h1 (.inr (.inr ho));obtain ⟨a2,Y2,Z2,l2,c2,m2,t2,A2,rfl⟩:=D0 (ps:=ps) (bs:=bs) (st:=st) (b:=false) (s:=AW [44] s3) (r:=V++93::y) (by rw [hs4]; exact hb4) a1 g3;rw [hs4] at m2 A2;exact ⟨a2,Y2,Z2,8,.comma g1 (by rw [g2]; exact .inl rfl) c2,m2,t2,A2,rfl⟩
    ·subst h2;exact KO hi ho n s4 8 y (.inr ⟨rfl,by omega,by rw [f3]; exact hc.2⟩) hb
   ·rename_i hc
    rw [if_neg hc]
    -- no value behind this one
    have hend:listL ps inner deep n s3 = s3:=by
     cases n with
     | zero=>rfl
     | succ n=>rw [Ml,if_pos (by omega)]
    rw [hend] at hb ⊢
    have:=first _ hb ⟨[],93,y,rfl,Blk.nil,.inr rfl⟩
    exact fun a ha=>by
     obtain ⟨a',Y,Z,l,c,e,t,A,h⟩:=this a ha;exact ⟨a',Y,Z,l,c,e,t,A,.inr h⟩
theorem Qw (inner:WS→WS) (hi:NF inner) (deep:Nat) (s:WS):∃ X,(Hf ps inner deep s).out = s.out++91::X:=by
 unfold Hf;simp only;generalize hs1:Cu 6 ((AW [91] s).out.length - 1) (AW [91] s) = s1
 have o1:s1.out = s.out++[91]:=by rw [←hs1]; try rfl
 obtain ⟨b,_,e1,_⟩:=A8 ps false s1;generalize Am ps false s1 = s2 at *;obtain ⟨V,hV⟩:=Hz (ps:=ps) inner hi deep (Af ps s2.k 5) (Ab ps s2);refine ⟨b++(V++[93]),?_⟩
 show (listL ps inner deep (Af ps s2.k 5) (Ab ps s2)).out++[93] = _
 rw [hV]
 show s2.out++V++[93] = _
 rw [e1,o1]; simp
theorem Qg {inner:WS→WS} (hi:GoodF ps inner) {deep:Nat} {st r:List UInt8} {s:WS} (hb:bs = (Hf ps inner deep s).out++r):ReadsW bs st 2 (· = 7) s (Hf ps inner deep s):=by
 unfold Hf at hb ⊢;simp only at hb ⊢;generalize hs1:Cu 6 ((AW [91] s).out.length - 1) (AW [91] s) = s1 at hb ⊢
 have o1:s1.out = s.out++[91]:=by rw [←hs1]; try rfl
 have l1:s1.l = s.l++[⟨6,0,s.out.length,false,[91],[]⟩]:=by
  rw [←hs1];unfold Cu AW;simp
 generalize hs2:Am ps false s1 = s2 at hb ⊢;obtain ⟨b,hbk,e1,_⟩:=A8 ps false s1;rw [hs2] at e1;generalize hs3:listL ps inner deep (Af ps s2.k 5) (Ab ps s2) = s3 at hb ⊢;obtain ⟨V,hV⟩:=Hz (ps:=ps) inner hi.adds deep (Af ps s2.k 5) (Ab ps s2);rw [hs3] at hV
 have hb3:bs = s3.out++([93]++r):=by rw [hb]; show (s3.out++[93])++r = _; simp
 have hb2:bs = s2.out++(V++([93]++r)):=by rw [hb3,hV]; show s2.out++V++_ = _; simp
 have hb1:bs = s.out++([91]++(b++(V++([93]++r)))):=by rw [hb2,e1,o1]; simp
 intro a ha;obtain ⟨a1,g1,g2,g3,g4⟩:=Qc ha hb1 rfl;obtain ⟨k1,k2⟩:=E2 g1 g2 ⟨by unfold Cr; decide,by decide⟩ g3;rw [←o1] at g4;obtain ⟨a2,Y2,Z2,last2,c2,m2,t2,A2,rfl⟩:=D0 (ps:=ps) (b:=false) (s:=s1) (bs:=bs) (r:=V++([93]++r)) (by rw [hs2]; exact hb2) a1 g4;rw [hs2] at m2 A2;have ho:=IM st 91;rw [if_pos (by rfl)] at ho;obtain ⟨a3,Y3,Z3,last3,c3,m3,t3,A3,p3⟩:=KO (ps:=ps) (bs:=bs) hi (deep:=deep) ho.1 (Af ps s2.k 5) (Ab ps s2) 6 r (.inl rfl) (by rw [hs3]; exact hb3) a2 A2;rw [hs3] at m3 A3;obtain ⟨a4,q1,q2,q3,q4⟩:=O0 A3 hb3 ⟨rfl,rfl⟩ p3;obtain ⟨u1,u2⟩:=E2 q1 q2 ⟨by unfold Cr; decide,by decide⟩ q3;refine ⟨a4,[a1.tok]++(Y2++(Y3++[a4.tok])),[⟨6,0,s.out.length,false,[91],[]⟩]++(Z2++(Z3++[⟨7,0,s3.out.length,false,[93],[]⟩])),7,k1.trans (c2.trans (c3.trans u1)),?_,k2.append (t2.append (t3.append u2)),?_,rfl⟩
 ·show s3.l++[⟨7,0,(s3.out++[93]).length - 1,false,(s3.out++[93]).drop ((s3.out++[93]).length - 1),[]⟩] = _
  rw [m3]
  show s2.l++Z3++_ = _
  rw [m2,l1]; simp
 ·exact q4
def FB (ps:List UInt8) (deep:Nat) (s1:WS):WS:=
 let s2:=Ab ps s1
 if (if 8 < deep then 0 else Af ps s1.k 6) < 4 then Am ps false (AW [58] (Gn s2)) else if 0 < Af ps s2.k 2 then Am ps false (AW [58] (Gn (Ab ps s2))) else Ab ps s2
def Hl (ps:List UInt8) (inner:WS→WS) (deep:Nat) (kind:Nat) (s3:WS):WS:=if kind = 4 then Cb ps inner s3 else if kind = 5 then Hf ps inner deep s3 else Bn ps s3
def Kg (ps:List UInt8) (s4:WS):WS:=if 0 < Af ps s4.k 3 then Am ps false (BK ps Gb (Ab ps s4)) else Am ps true (Ab ps s4)
def GB (ps:List UInt8) (deep:Nat) (s1:WS):Nat:=if 8 < deep then 0 else Af ps s1.k 6
theorem Nu (inner:WS→WS) (deep:Nat) (s:WS):En ps inner deep s = Kg ps (Am ps false (Hl ps inner deep (GB ps deep (Am ps false (DK ps s))) (FB ps deep (Am ps false (DK ps s))))):=rfl
theorem K3 (ps:List UInt8) (s:WS):∃ x,(Kg ps s).out = s.out++x∧(Kg ps s).l = s.l∧(Kg ps s).left = s.left∧((∃ d b,x = [d]++b∧Blk b∧(d.toNat = 44∨d.toNat = 59))∨(Blk x∧Eo x = true∧x≠[])):=by
 unfold Kg
 split
 ·obtain ⟨d,hd,h1,h2,h3⟩:=Dv ps Gb (Ab ps s) (by decide);obtain ⟨b,hb,e1,e2,e3,_⟩:=A8 ps false (BK ps Gb (Ab ps s))
  have:d = [44]∨d = [59]:=by simpa [Gb] using hd
  refine ⟨d++b,by rw [e1,h1]; simp [Ab],by rw [e2,h2]; try rfl,by rw [e3,h3]; try rfl,.inl ?_⟩
  rcases this with rfl | rfl
  ·exact ⟨44,b,rfl,hb,.inl rfl⟩
  ·exact ⟨59,b,rfl,hb,.inr rfl⟩
 ·obtain ⟨b,hb,e1,e2,e3,h⟩:=A8 ps true (Ab ps s);obtain ⟨c,y,rfl,hc⟩:=h rfl;refine ⟨c::y,e1,e2,e3,.inr ⟨hb,?_,by simp⟩⟩
  show DI c = true
  unfold Ch at hc;unfold DI;simp at hc ⊢;omega
theorem sepW_l (s:WS) (l:List TX) (t:TX) (h:s.l = l++[t]):(Gn s).l = l++[{ t with sep:=true }]:=by
 unfold Gn;simp [h]
theorem KH (inner:WS→WS) (hi:NF inner) (deep kind:Nat) (s:WS):∃ X,(Hl ps inner deep kind s).out = s.out++X∧(4≤kind→kind < 6→∃ c y,X = c::y∧(c.toNat = 123∨c.toNat = 60∨c.toNat = 91)):=by
 unfold Hl
 split
 ·obtain ⟨c,X,h,hc⟩:=I8 (ps:=ps) inner hi s;exact ⟨_,h,fun _ _=>⟨c,X,rfl,by omega⟩⟩
 ·split
  ·obtain ⟨X,h⟩:=Qw (ps:=ps) inner hi deep s;exact ⟨_,h,fun _ _=>⟨91,X,rfl,.inr (.inr rfl)⟩⟩
  ·obtain ⟨x,_,h,_⟩:=Gv ps s;exact ⟨x,h,fun h1 h2=>by omega⟩
theorem PM (inner:WS→WS) (hi:NF inner) (deep:Nat) (s:WS):∃ c X,(En ps inner deep s).out = s.out++c::X∧K6 c:=by
 rw [Nu];obtain ⟨x,nk,str,hx,h1,_⟩:=Nk ps s;obtain ⟨c,y,rfl,hc⟩:=hx.head;obtain ⟨b,_,e1,_⟩:=A8 ps false (DK ps s);generalize Am ps false (DK ps s) = s1 at *
 obtain ⟨X,hX⟩:∃ X,(FB ps deep s1).out = s1.out++X:=by
  unfold FB;simp only;generalize (if 8 < deep then 0 else Af ps s1.k 6) = kk
  split
  ·obtain ⟨b2,_,e2,_⟩:=A8 ps false (AW [58] (Gn (Ab ps s1)));exact ⟨[58]++b2,by rw [e2]; simp [AW,Gn,Ab]⟩
  ·split
   ·obtain ⟨b2,_,e2,_⟩:=A8 ps false (AW [58] (Gn (Ab ps (Ab ps s1))));exact ⟨[58]++b2,by rw [e2]; simp [AW,Gn,Ab]⟩
   ·exact ⟨[],by simp [Ab]⟩
 obtain ⟨V,hV,_⟩:=KH (ps:=ps) inner hi deep (GB ps deep s1) (FB ps deep s1);obtain ⟨b3,_,e3,_⟩:=A8 ps false (Hl ps inner deep (GB ps deep s1) (FB ps deep s1));obtain ⟨z,hz,_⟩:=K3 ps (Am ps false (Hl ps inner deep (GB ps deep s1) (FB ps deep s1)));refine ⟨c,y++(b++(X++(V++(b3++z)))),?_,hc⟩;rw [hz,e3,hV,hX,e1,h1]; simp
theorem QK (deep:Nat) (s1:WS) (l:List TX) (t:TX) (h:s1.l = l++[t]):∃ b,Blk b∧(FB ps deep s1).out = s1.out++([58]++b)∧(FB ps deep s1).l = l++[{ t with sep:=true }]∨(FB ps deep s1).out = s1.out∧(FB ps deep s1).l = s1.l∧¬ GB ps deep s1 < 4:=by
 have fin:∀ s2:WS,s2.out = s1.out→s2.l = s1.l→∃ b,Blk b∧(Am ps false (AW [58] (Gn s2))).out = s1.out++([58]++b)∧(Am ps false (AW [58] (Gn s2))).l = l++[{ t with sep:=true }]:=by
  intro s2 h1 h2;obtain ⟨b,hb,e1,e2,_⟩:=A8 ps false (AW [58] (Gn s2));refine ⟨b,hb,by rw [e1]; simp [AW,Gn,h1],?_⟩;rw [e2];exact sepW_l s2 l t (by rw [h2,h])
 unfold FB;simp only
 show ∃ b,Blk b∧(if GB ps deep s1 < 4 then _ else _:WS).out = _∧(if GB ps deep s1 < 4 then _ else _:WS).l = _∨(if GB ps deep s1 < 4 then _ else _:WS).out = _∧(if GB ps deep s1 < 4 then _ else _:WS).l = _∧¬ GB ps deep s1 < 4
 generalize GB ps deep s1 = kk
 split
 ·obtain ⟨b,h⟩:=fin (Ab ps s1) rfl rfl;exact ⟨b,.inl h⟩
 ·rename_i hk
  split
  ·obtain ⟨b,h⟩:=fin (Ab ps (Ab ps s1)) rfl rfl;exact ⟨b,.inl h⟩
  ·exact ⟨[],.inr ⟨rfl,rfl,hk⟩⟩
theorem N4 {inner:WS→WS} (hi:GoodF ps inner) {deep kind:Nat} {st r:List UInt8} {s:WS} (hr:MG r) (hb:bs = (Hl ps inner deep kind s).out++r):ReadsW bs st 2 Cz s (Hl ps inner deep kind s):=by
 have w:∀ {n:Nat} {s':WS},(n = 3∨n = 5∨n = 7)→ReadsW bs st 2 (· = n) s s'→ReadsW bs st 2 Cz s s':=by
  intro n s' hn h a ha;obtain ⟨a1,Y,Z,l,c,e,t,A,rfl⟩:=h a ha;exact ⟨a1,Y,Z,l,c,e,t,A,hn⟩
 unfold Hl at hb ⊢
 split at hb
 ·rename_i h4
  rw [if_pos h4];exact w (.inr (.inl rfl)) (I3 hi (.inl rfl) hb)
 ·rename_i h4
  rw [if_neg h4]
  split at hb
  ·rename_i h5
   rw [if_pos h5];exact w (.inr (.inr rfl)) (Qg hi hb)
  ·rename_i h5
   rw [if_neg h5];exact w (.inl rfl) (Hp (.inl rfl) hr hb)
theorem TP (deep:Nat) (s:WS):GB ps deep s < 6:=by
 unfold GB
 split
 ·decide
 ·exact JW ps s.k 6 (by decide)
theorem My {st:List UInt8} {last:Nat} (h:FN st last):AB st = 0∨AB st = 4:=by
 rcases h with h | h
 ·exact .inl h.1
 ·exact .inr h.1
theorem O9 {inner:WS→WS} (hi:GoodF ps inner) {deep:Nat} {st r:List UInt8} {last:Nat} {s:WS} (hF:FN st last) (hr:NoQ r) (hb:bs = (En ps inner deep s).out++r):ReadsW bs st last (fun n=>Cz n∨Cr n) s (En ps inner deep s):=by
 rw [Nu] at hb ⊢;obtain ⟨x,nk,str,hx,o1,l1,_⟩:=Nk ps s;obtain ⟨b,hbk,e1,e2,_⟩:=A8 ps false (DK ps s);generalize hs1:Am ps false (DK ps s) = s1 at hb ⊢ e1 e2;have hk6:=TP (ps:=ps) deep s1;have hcol:=QK (ps:=ps) deep s1 s.l ⟨2,nk,s.out.length,false,x,str⟩ (by rw [e2,l1]);generalize hs3:FB ps deep s1 = s3 at hb ⊢ hcol;generalize hkd:GB ps deep s1 = kind at *;obtain ⟨V,hV,hVh⟩:=KH (ps:=ps) inner hi.adds deep kind s3;generalize hs4:Hl ps inner deep kind s3 = s4 at hb ⊢ hV;obtain ⟨b4,hb4,f1,f2,_⟩:=A8 ps false s4;generalize hs5:Am ps false s4 = s5 at hb ⊢ f1 f2;obtain ⟨z,g1,g2,_,gz⟩:=K3 ps s5
 have hbz:bs = s5.out++(z++r):=by rw [hb,g1]; simp
 have hb4':bs = s4.out++(b4++(z++r)):=by rw [hbz,f1]; simp
 have hb3:bs = s3.out++(V++(b4++(z++r))):=by rw [hb4',hV]; simp
 -- what stands behind the value
 have haft:MG (b4++(z++r)):=by
  rcases gz with ⟨d,b',rfl,hb',hd⟩ | ⟨hz,hze,hne⟩
  ·refine ⟨IA hb4 (by show DI d = true; unfold DI; simp; omega),?_⟩;exact Lo hb4 (by rw [List.append_assoc]; exact J4 (CY (by omega)) (by omega) (by omega))
  ·refine ⟨IA hb4 ?_,Lo hb4 (Lo hz hr)⟩
   cases z with
   | nil=>exact absurd rfl hne
   | cons c z=>exact hze
 -- the name
 refine ReadsW.comp (s1:=s3) (post1:=(· = 2)) ?_ fun l2 h2=>?_
 ·intro a ha;obtain ⟨b3,hcol⟩:=hcol
  rcases hcol with ⟨hb3k,c1,c2⟩ | ⟨c1,c2,hk4⟩
  ·obtain ⟨a1,q1,q2,q3,q4⟩:=Qd (r:=b3++(V++(b4++(z++r)))) ha hF hx hbk (by rw [hb3,c1,e1,o1]; simp);obtain ⟨k1,k2⟩:=E2 q1 q2 ⟨by unfold Cr; decide,by decide⟩ q3;refine ⟨a1,_,_,2,k1,c2,k2,?_,rfl⟩;have:=q4.blank (x:=b3) (r:=V++(b4++(z++r))) (by rw [hb3,c1,e1,o1]; simp) hb3k;rw [c1,e1,o1]
   simpa using this
  ·obtain ⟨c,y,rfl,hc⟩:=hVh (by omega) hk6;obtain ⟨a1,q1,q2,q3,q4⟩:=RP (r:=y++(b4++(z++r))) ha hF hx hbk (by rw [hb3,c1,e1,o1]; simp) hc;obtain ⟨k1,k2⟩:=E2 q1 q2 ⟨by unfold Cr; decide,by decide⟩ q3;refine ⟨a1,_,_,2,k1,by rw [c2,e2,l1],k2,?_,rfl⟩;rw [c1,e1,o1];exact q4
 ·subst h2;have hv:=N4 (bs:=bs) hi (deep:=deep) (kind:=kind) (st:=st) (s:=s3) haft (by rw [hs4]; exact hb4');rw [hs4] at hv;refine ReadsW.comp hv fun l3 h3=>?_;have hbl:=D0 (ps:=ps) (bs:=bs) (st:=st) (last:=l3) (b:=false) (s:=s4) (r:=z++r) (by rw [hs5]; exact hbz);rw [hs5] at hbl;refine ReadsW.comp hbl fun l4 h4=>?_;subst h4;intro a ha
  rcases gz with ⟨d,b',rfl,hb',hd⟩ | ⟨hz,hze,hne⟩
  ·obtain ⟨a1,q1,q2,q3⟩:=OX (d:=d) ha (r:=b'++r) (by rw [hbz]; simp) (by have:=My hF; omega) h3 (by have:=My hF; omega);have A:=q3.blank (x:=b') (r:=r) (by rw [hbz]; simp) hb'
   have hsk:Cr (if d.toNat = 44 then 8 else 9):=by split; exact .inl rfl; exact .inr rfl
   refine ⟨a1,[],[],_,.comma q1 (by rw [q2]; exact hsk) (.nil _),by rw [g2]; simp,.nil,?_,.inr hsk⟩;rw [g1]
   simpa using A
  ·have A:=ha.blank (x:=z) (r:=r) (by rw [hbz]) hz;exact ⟨a,[],[],l4,.nil _,by rw [g2]; simp,.nil,by rw [g1]; exact A,.inl h3⟩
theorem QG {st:List UInt8} {last n:Nat} (h:FN st last) (hn:Cz n∨Cr n):FN st n:=by
 rcases h with h | h
 ·exact .inl ⟨h.1,.inr hn⟩
 ·exact .inr ⟨h.1,.inr hn⟩
theorem GY {inner:WS→WS} (hi:GoodF ps inner) (deep:Nat):∀ f,GoodF ps (fieldsL ps inner deep f)
 | 0=>PG
 | f+1=>by
  have ih:=GY hi deep f;refine ⟨fun s=>?_,fun bs st r last open_ s hF hE hr hb=>?_⟩
  ·unfold fieldsL
   split
   ·exact ⟨[],by simp,.inl rfl⟩
   ·split
    ·exact ⟨[],by simp [Ab],.inl rfl⟩
    ·obtain ⟨c,X,h1,hc⟩:=PM (ps:=ps) inner hi.adds deep { Ab ps s with left:=s.left - 1 };obtain ⟨Y,h2,_⟩:=ih.adds (En ps inner deep { Ab ps s with left:=s.left - 1 });exact ⟨c::(X++Y),by rw [h2,h1]; simp [Ab],.inr ⟨c,_,rfl,hc⟩⟩
  ·unfold fieldsL at hb ⊢
   split at hb
   ·rename_i h0
    rw [if_pos h0];exact fun a ha=>⟨a,[],[],last,.nil _,by simp,.nil,ha,hE⟩
   ·rename_i h0
    rw [if_neg h0]
    split at hb
    ·rename_i h1
     rw [if_pos h1];exact fun a ha=>⟨a,[],[],last,.nil _,by simp [Ab],.nil,ha,hE⟩
    ·rename_i h1
     rw [if_neg h1];obtain ⟨X,hX,hXh⟩:=ih.adds (En ps inner deep { Ab ps s with left:=s.left - 1 });have h1:=O9 (bs:=bs) hi (deep:=deep) (st:=st) (last:=last) (r:=X++r) (s:={ Ab ps s with left:=s.left - 1 }) hF (Ty hXh hr) (by rw [hb,hX]; simp);have h1':ReadsW bs st last (fun n=>Cz n∨Cr n) s (En ps inner deep { Ab ps s with left:=s.left - 1 }):=h1;exact ReadsW.comp h1' fun l1 hl1=>ih.reads bs st r l1 open_ _ (QG hF hl1) (.inr hl1) hr hb
theorem Ja:∀ (d deep:Nat),GoodF ps (fieldsW ps d deep)
 | 0,_=>PG
 | d+1,deep=>by
  have ih:=Ja d (deep+1);refine ⟨fun s=>?_,fun bs st r last open_ s hF hE hr hb=>?_⟩
  ·exact (GY ih deep s.left).adds s
  ·exact (GY ih deep s.left).reads bs st r last open_ s hF hE hr hb
theorem at_new:At bs 0 [] 0 DT.new:=⟨rfl,rfl,rfl,rfl,Nat.zero_le _,rfl⟩
theorem MP (ps:List UInt8):∃ a Y last,Chain (BL ps).out DT.new Y a∧ToksOk Y (BL ps).l∧At (BL ps).out (BL ps).out.length [] last a∧IW 0 last:=by
 have good:=Ja (ps:=ps) 10 0;generalize hs0:Am ps false ⟨0,[],[],300⟩ = s0
 have e:BL ps = fieldsW ps 10 0 s0:=by rw [←hs0]; try rfl
 rw [e];obtain ⟨X,hX,_⟩:=good.adds s0;generalize hbs:(fieldsW ps 10 0 s0).out = bs at hX;have h0:=D0 (ps:=ps) (bs:=bs) (st:=[]) (last:=0) (b:=false) (s:=⟨0,[],[],300⟩) (r:=X) (by rw [hs0,hX]);rw [hs0] at h0
 have h1:ReadsW bs [] 0 (IW 0) ⟨0,[],[],300⟩ (fieldsW ps 10 0 s0):=ReadsW.comp h0 fun l1 hl1=>by
  subst hl1;exact good.reads bs [] [] 0 0 s0 (.inl ⟨rfl,.inl rfl⟩) (.inl rfl) rfl (by rw [hbs]; simp)
 obtain ⟨a,Y,Z,last,c,m,t,A,p⟩:=h1 DT.new at_new;exact ⟨a,Y,last,c,by rw [m]; exact t,by rw [hbs] at A; exact A,p⟩
theorem OE (ps:List UInt8):∃ a Y,Chain (BL ps).out DT.new Y a∧ToksOk Y (BL ps).l:=by
 obtain ⟨a,Y,_,h1,h2,_⟩:=MP ps;exact ⟨a,Y,h1,h2⟩
theorem KG (ps:List UInt8):∃ Y,Gp (BL ps).out [] = (Y,true)∧ToksOk Y (BL ps).l:=by
 obtain ⟨a,Y,last,c,ht,A,p⟩:=MP ps;refine ⟨Y,?_,ht⟩;generalize (BL ps).out = bs at *
 have hgo:goT bs bs.length 0 = bs.length:=by
  rw [Gk,List.drop_length,IJ]; try rfl
 obtain ⟨e',he,hek⟩:=SZ A hgo p Tq;have hf:=c.facts (Nat.zero_le _)
 have hlen:Y.length < bs.length+1:=by
  have h2:=hf.2.1;have h3:=hf.2.2.1;simp only [DT.new] at h3;omega
 have:=(c.run he hek rfl (Nat.zero_le _) (bs.length+1) [] hlen).1 (by unfold Cr; decide);rw [List.nil_append] at this;exact this
end
section
open Go.ChangeShapes Go.WideShapes Go.ChangeAt Go.RowKit
theorem M3:∀ (l:List TX) (i q:Nat) (h:i < l.length),q < 6→(l.flatMap CG)[i * 6+q]? = (CG l[i])[q]?
 | [],i,q,h,_=>by simp at h
 | t::l,0,q,h,hq=>by
  rw [List.flatMap_cons,List.getElem?_append_left (by simp [CG]; omega)];simp
 | t::l,i+1,q,h,hq=>by
  rw [List.flatMap_cons,List.getElem?_append_right (by simp [CG]; omega)]
  have e:(i+1) * 6+q - (CG t).length = i * 6+q:=by simp [CG]; omega
  rw [e,M3 l i q (by simpa using h) hq];simp
theorem OwnQ.cells {w:World} {B:Nat} {v:Value} {l:List TX} (h:OwnQ w B v l):∃ ao cap,v = .slice ao l.length cap∧∀ i (hi:i < l.length),∃ g,ao = some ⟨g,0,none⟩∧g < w.heap.size∧∀ q,q < 6→w.cell? ⟨g,i * 6+q,none⟩ = (CG l[i])[q]?:=by
 by_cases hne:l = []
 ·obtain ⟨ao,c,rfl⟩:=h.slice;exact ⟨ao,c,rfl,fun i hi=>by rw [hne] at hi; simp at hi⟩
 ·have hl:0 < l.length:=List.length_pos_iff.2 hne;obtain ⟨g,cap,rfl,hB,hlt⟩:=World.ownsRow.form h hl;refine ⟨_,cap,rfl,fun i hi=>⟨g,rfl,hlt,fun q hq=>?_⟩⟩;have h1:=M3 l i q hi hq
  have hq':q < (CG l[i]).length:=by simpa [CG] using hq
  rw [List.getElem?_eq_getElem hq'] at h1 ⊢;have h2:=World.ownsRow.cells h (g:=g) rfl _ _ h1;rwa [Addr.add_lit,Nat.zero_add] at h2
theorem ToksOk.get {l:List TT} {m:List TX} (h:ToksOk l m):∀ (j:Nat) (h1:j < l.length) (h2:j < m.length),TokOk l[j] m[j]:=by
 induction h with
 | nil=>intro j h1; simp at h1
 | cons h1 _ ih=>
  intro j h2 h3
  cases j with
  | zero=>exact h1
  | succ j=>exact ih j (by simpa using h2) (by simpa using h3)
theorem QL {t:TT} {x:TX} (h:TokOk t x):∃ (k a p:Int) (s:Bool) (r r2:List UInt8) (y:ByteArray),BG t = [.int .i64 k,.int .i64 a,.int .i64 p,.bool s,.string ⟨r.toArray⟩,.string y]∧CG x = [.int .i64 k,.int .i64 a,.int .i64 p,.bool s,.string ⟨r2.toArray⟩,.string y]∧(ED r2 = false→r = r2):=by
 refine ⟨x.kind,x.nk,x.pos,x.sep,t.raw,x.raw,⟨x.str.toArray⟩,?_,rfl,fun hq=>h.raw hq⟩;have h1:=h.kind;have h2:=h.nk;have h3:=h.pos;have h4:=h.sep;have h5:=h.str;simp only [IX] at h1 h2 h3 h4 h5;rw [←h1,←h2,←h3,←h4,←h5];unfold BG
 by_cases hk:t.kind = 2 <;> simp [hk]
def Six (w:World) (g n:Nat) (k a p:Int) (s:Bool) (r y:ByteArray):Prop:=w.cell? ⟨g,n,none⟩ = some (.int .i64 k)∧w.cell? ⟨g,n+1,none⟩ = some (.int .i64 a)∧w.cell? ⟨g,n+2,none⟩ = some (.int .i64 p)∧w.cell? ⟨g,n+3,none⟩ = some (.bool s)∧w.cell? ⟨g,n+4,none⟩ = some (.string r)∧w.cell? ⟨g,n+5,none⟩ = some (.string y)
theorem NY {w w':World} {g n:Nat} {k a p:Int} {s:Bool} {r y:ByteArray} {cs:List Value} (hb:Below w.heap.size w w') (hg:g < w.heap.size) (hc:cs = [.int .i64 k,.int .i64 a,.int .i64 p,.bool s,.string r,.string y]) (h:∀ q,q < 6→w.cell? ⟨g,n+q,none⟩ = cs[q]?):Six w' g n k a p s r y:=by
 subst hc;have k:∀ q,q < 6→w'.cell? ⟨g,n+q,none⟩ = _:=fun q hq=>(hb.cell (p:=⟨g,n+q,none⟩) hg).trans (h q hq);exact ⟨k 0 (by omega),k 1 (by omega),k 2 (by omega),k 3 (by omega),k 4 (by omega),k 5 (by omega)⟩
def Row3 (w:World) (ao2 ao3 aoQ:Option Addr) (j:Nat):Prop:=∃ (g2 g3 gQ:Nat) (k a p:Int) (s:Bool) (r r2:List UInt8) (y:ByteArray),ao2 = some ⟨g2,0,none⟩∧ao3 = some ⟨g3,0,none⟩∧aoQ = some ⟨gQ,0,none⟩∧(ED r2 = false→r = r2)∧g2 < w.heap.size∧g3 < w.heap.size∧gQ < w.heap.size∧∀ w',Below w.heap.size w w'→Six w' g2 (j * 6) k a p s ⟨r.toArray⟩ y∧Six w' g3 (j * 6) k a p s ⟨r.toArray⟩ y∧Six w' gQ (j * 6) k a p s ⟨r2.toArray⟩ y
theorem rows3 {w:World} {B2 B3 BQ c2 c3 cQ N:Nat} {ao2 ao3 aoQ:Option Addr} {L:List TT} {l:List TX} (hok:ToksOk L l) (hL:L.length = N) (h2:OwnX w B2 (.slice ao2 N c2) L) (h3:OwnX w B3 (.slice ao3 N c3) L) (hQ:OwnQ w BQ (.slice aoQ N cQ) l) (j:Nat) (hj:j < N):Row3 w ao2 ao3 aoQ j:=by
 have hlen:=hok.length;obtain ⟨a2,d2,e2,f2⟩:=h2.cells;obtain ⟨a3,d3,e3,f3⟩:=h3.cells;obtain ⟨aQ,dQ,eQ,fQ⟩:=hQ.cells
 injection e2 with e2 _ _
 injection e3 with e3 _ _
 injection eQ with eQ _ _
 subst e2 e3 eQ;obtain ⟨g2,q2,l2,k2⟩:=f2 j (by omega);obtain ⟨g3,q3,l3,k3⟩:=f3 j (by omega);obtain ⟨gQ,qQ,lQ,kQ⟩:=fQ j (by omega);obtain ⟨k,a,p,s,r,r2,y,t1,t2,t3⟩:=QL (hok.get j (by omega) (by omega));exact ⟨g2,g3,gQ,k,a,p,s,r,r2,y,q2,q3,qQ,t3,l2,l3,lQ,fun w' hb=>⟨NY hb l2 t1 k2,NY hb l3 t1 k3,NY hb lQ t2 kQ⟩⟩
end
section
open Go.ChangeShapes Go.WideShapes Go.ChangeAt Go.RowKit
theorem Six.range {w:World} {g n:Nat} {k a p:Int} {s:Bool} {r y:ByteArray} (h:Six w g n k a p s r y):w.rangeAt g n [.int .i64 k,.int .i64 a,.int .i64 p,.bool s,.string r,.string y]:=by
 obtain ⟨h0,h1,h2,h3,h4,h5⟩:=h;intro j v hj
 match j,hj with
 | 0,hj=>injection hj with hj; rw [←hj]; exact h0
 | 1,hj=>injection hj with hj; rw [←hj]; exact h1
 | 2,hj=>injection hj with hj; rw [←hj]; exact h2
 | 3,hj=>injection hj with hj; rw [←hj]; exact h3
 | 4,hj=>injection hj with hj; rw [←hj]; exact h4
 | 5,hj=>injection hj with hj; rw [←hj]; exact h5
theorem fld_x0:Bw Tryz.prog 34 0 0:=fun p w=>by simp [go_sem,Instr.fieldAt]
theorem fld_x2:Bw Tryz.prog 34 2 2:=fun p w=>by simp [go_sem,Instr.fieldAt]
theorem Ua:Bw Tryz.prog 34 4 4:=fun p w=>by simp [go_sem,Instr.fieldAt]
theorem Ue:Bw Tryz.prog 27 0 0:=fun p w=>by simp [go_sem,Instr.fieldAt]
theorem fld_q1:Bw Tryz.prog 27 1 1:=fun p w=>by simp [go_sem,Instr.fieldAt]
theorem On:Bw Tryz.prog 27 2 2:=fun p w=>by simp [go_sem,Instr.fieldAt]
theorem fld_q3:Bw Tryz.prog 27 3 3:=fun p w=>by simp [go_sem,Instr.fieldAt]
theorem KD:Bw Tryz.prog 27 4 4:=fun p w=>by simp [go_sem,Instr.fieldAt]
theorem fld_q5:Bw Tryz.prog 27 5 5:=fun p w=>by simp [go_sem,Instr.fieldAt]
theorem Q5:H8 Tryz.prog 27 #[.int .i64 0,.int .i64 0,.int .i64 0,.bool false,.string ⟨#[]⟩,.string ⟨#[]⟩]:=fun w=>by
 simp [go_sem,Instr.alloc,newVar,newRow]
theorem Td (cs:List Value) (h:cs.length = 6):(Tryz.prog.info? 27).map (·.size) = some cs.length:=by rw [h]; kernel_rfl
theorem Q4 (a b c d e f:Value):(Tryz.prog.info? 27).map (·.size) = some [a,b,c,d,e,f].toArray.size:=by kernel_rfl
theorem x_six:(Tryz.prog.info? 34).map (·.size) = some 6:=by kernel_rfl
theorem q_six:(Tryz.prog.info? 27).map (·.size) = some 6:=by kernel_rfl
section
variable {N:Nat} {D:List Deferred} {a:Act} {l:List (Nat × Value)} {L rest:List Oper} {Q:Exit→Act→World→Prop} {S:World→Prop} {w:World} {d:Nat} {ty:TypeId} {pos:String} {af:Array Edge} {P:Program}
theorem O6 {t e:TypeId} {k:IntKind} {n m cp q:Nat} (ht:P.underlying t = some (.slice e)) (hz:(P.info? e).map (·.size) = some 6) (hn:n < m) (w:World):(Instr.indexAt t (.slice (some ⟨q,0,none⟩) m cp) (.int k (n:Int))).run P w = .ok (.pointer (some ⟨q,n * 6,none⟩)) w:=by
 cases hq:P.info? e with
 | none=>simp [hq] at hz
 | some inf=>
  have hs:inf.size = 6:=by simpa [hq] using hz
  simp [Instr.indexAt,asIntOf,run_underlying ht,sizeOf,typeInfo,hq,hs,Addr.add_lit,Result.andThen,if_pos hn]
theorem P2 {t e:TypeId} {x i:Operand} {k:IntKind} {n m cp q:Nat} (ht:P.underlying t = some (.slice e)) (hz:(P.info? e).map (·.size) = some 6) (H:Has N D a l) (hx:ev l x = some (.slice (some ⟨q,0,none⟩) m cp)) (hi:ev l i = some (.int k (n:Int))) (hn:n < m) (hd:Nat.blt d N = true)
  (h:∀ a,Has N D a ((d,.pointer (some ⟨q,n * 6,none⟩))::l)→wpList P L.toArray Q rest a w):wpList P L.toArray Q (⟨some d,.indexAddr t x i,ty,pos,af,none⟩::rest) a w:=
 Cj H hd (by
  have h1:=H.ev hx;have h2:=H.ev hi;simp only [execOp,h1,h2,O6 ht hz hn w,Result.andThen,Sem.run_bind]
  rfl) h
theorem Ls {t:TypeId} {x:Operand} {q o:Nat} {cs:List Value} {ds:TypeDesc} (hu:P.underlying t = some ds) (hds:ds.isRow = true) (hi:(P.info? t).map (·.size) = some cs.length) (H:Has N D a l) (hx:ev l x = some (.pointer (some ⟨q,o,none⟩))) (hr:w.rangeAt q o cs) (hd:Nat.blt d N = true)
  (h:∀ a,Has N D a ((d,.agg cs.toArray)::l)→wpList P L.toArray Q rest a w):wpList P L.toArray Q (⟨some d,.load t x,ty,pos,af,none⟩::rest) a w:=
 wpList_load_mid rfl t x rfl q o (H.ev hx) cs ds hr hu hds hi (h _ (H.put hd))
theorem Sz {x:Operand} {u:List UInt8} {n:Nat} (H:Has N D a l) (hx:ev l x = some (.string ⟨u.toArray⟩)) (hn:u.length = n) (hd:Nat.blt d N = true)
  (h:∀ a,Has N D a ((d,.int .i64 (n:Int))::l)→wpList Tryz.prog L.toArray Q rest a w):wpList Tryz.prog L.toArray Q (⟨some d,.call { callee:=.builtin .len,args:=#[x],argTypes:=#[9] },ty,pos,af,none⟩::rest) a w:=
 Cj H hd (by
  have h1:=H.ev hx;subst hn
  simp [execOp,resolve,invoke,builtin,h1,Builtin.len_,run_underlying Tryz.underlying9,goInt,Ed]) h
theorem QR {x:Operand} {c:UInt8} {u:List UInt8} (H:Has N D a l) (hx:ev l x = some (.string ⟨(c::u).toArray⟩)) (hd:Nat.blt d N = true)
  (h:∀ a,Has N D a ((d,.int .u8 (c.toNat:Int))::l)→wpList Tryz.prog L.toArray Q rest a w):wpList Tryz.prog L.toArray Q (⟨some d,.index 9 x (.const (.int .i64 0)),ty,pos,af,none⟩::rest) a w:=
 Cj H hd (by
  have h1:=H.ev hx;simp only [execOp,h1];simp [go_sem]
  rfl) h
theorem QQ {x y:Operand} {u v:ByteArray} (H:Has N D a l) (hx:ev l x = some (.string u)) (hy:ev l y = some (.string v)) (hb:u = v) (hd:Nat.blt d N = true)
  (h:∀ a,Has N D a ((d,.bool false)::l)→wpList Tryz.prog L.toArray Q rest a w):wpList Tryz.prog L.toArray Q (⟨some d,.binOp .neq 9 x y 9,ty,pos,af,none⟩::rest) a w:=
 Cj H hd (by
  have h1:=H.ev hx;have h2:=H.ev hy;subst hb;simp only [execOp,h1,h2]
  simp [go_sem]) h
theorem y_rem {x y:Operand} {m n:Nat} (H:Has N D a l) (hx:ev l x = some (.int .i64 (m:Int))) (hy:ev l y = some (.int .i64 (n:Int))) (hn:0 < n) (hd:Nat.blt d N = true)
  (h:∀ a,Has N D a ((d,.int .i64 ((m % n:Nat):Int))::l)→wpList Tryz.prog L.toArray Q rest a w):wpList Tryz.prog L.toArray Q (⟨some d,.binOp .rem 3 x y 3,ty,pos,af,none⟩::rest) a w:=
 Cj H hd (by
  have h1:=H.ev hx;have h2:=H.ev hy
  have h3:¬ n = 0:=by omega
  simp only [execOp,h1,h2]
  simp [go_sem,h3,Int.tmod_eq_emod_of_nonneg (show (0:Int)≤(m:Int) by omega)]) h
variable {dd:Option Tmp} {gd:Option (Nat × Bool)}
theorem r_idx6 {t e:TypeId} {x i:Operand} {k:IntKind} {n m cp q:Nat} (ht:P.underlying t = some (.slice e)) (hz:(P.info? e).map (·.size) = some 6) (H:Has N D a l) (hx:ev l x = some (.slice (some ⟨q,0,none⟩) m cp)) (hi:ev l i = some (.int k (n:Int))) (hn:n < m):∀ w,S w→(execOp a.eval ⟨dd,.indexAddr t x i,ty,pos,af,gd⟩).run P w = .ok (.value (.pointer (some ⟨q,n * 6,none⟩))) w:=fun w _=>by
 have h1:=H.ev hx;have h2:=H.ev hi;simp only [execOp,h1,h2,O6 ht hz hn w,Result.andThen,Sem.run_bind];rfl
theorem S6 {t:TypeId} {x:Operand} {q o:Nat} {cs:List Value} {ds:TypeDesc} (hu:P.underlying t = some ds) (hds:ds.isRow = true) (hi:(P.info? t).map (·.size) = some cs.length) (H:Has N D a l) (hx:ev l x = some (.pointer (some ⟨q,o,none⟩))) (hr:∀ w,S w→w.rangeAt q o cs) :
  ∀ w,S w→(execOp a.eval ⟨dd,.load t x,ty,pos,af,gd⟩).run P w = .ok (.value (.agg cs.toArray)) w:=fun w hw=>by
 have h1:=H.ev hx;have:=run_loadAt_mid (P:=P) w q o t cs ds (hr w hw) hu hds hi;simp only [execOp,h1];simp [this,Result.andThen]
theorem r_neqX {x y:Operand} {k b p:Int} {s:Bool} {r z:ByteArray} (H:Has N D a l) (hx:ev l x = some (.agg #[.int .i64 k,.int .i64 b,.int .i64 p,.bool s,.string r,.string z])) (hy:ev l y = some (.agg #[.int .i64 k,.int .i64 b,.int .i64 p,.bool s,.string r,.string z])):∀ w,S w→(execOp a.eval ⟨dd,.binOp .neq 34 x y 34,ty,pos,af,gd⟩).run Tryz.prog w = .ok (.value (.bool false)) w:=fun w _=>by
 have h1:=H.ev hx;have h2:=H.ev hy;simp only [execOp,h1,h2];simp [go_sem]
theorem Qj {x y:Operand} {n:Int} (H:Has N D a l) (hx:ev l x = some (.int .i64 n)) (hy:ev l y = some (.int .i64 n)):∀ w,S w→(execOp a.eval ⟨dd,.binOp .neq 3 x y 3,ty,pos,af,gd⟩).run Tryz.prog w = .ok (.value (.bool false)) w:=fun w _=>by
 have h1:=H.ev hx;have h2:=H.ev hy;simp only [execOp,h1,h2];simp [go_sem]
theorem r_neqB {x y:Operand} {n:Bool} (H:Has N D a l) (hx:ev l x = some (.bool n)) (hy:ev l y = some (.bool n)):∀ w,S w→(execOp a.eval ⟨dd,.binOp .neq 4 x y 4,ty,pos,af,gd⟩).run Tryz.prog w = .ok (.value (.bool false)) w:=fun w _=>by
 have h1:=H.ev hx;have h2:=H.ev hy;simp only [execOp,h1,h2];simp [go_sem]
theorem r_neqS {x y:Operand} {n:ByteArray} (H:Has N D a l) (hx:ev l x = some (.string n)) (hy:ev l y = some (.string n)):∀ w,S w→(execOp a.eval ⟨dd,.binOp .neq 9 x y 9,ty,pos,af,gd⟩).run Tryz.prog w = .ok (.value (.bool false)) w:=fun w _=>by
 have h1:=H.ev hx;have h2:=H.ev hy;simp only [execOp,h1,h2];simp [go_sem]
theorem PH (a b c d:Int):Instr.fill (fun i=>some (i * 1,1)) ((Array.range (4 * 1)).map ((Value.int .u8 0).cells[· % (Value.int .u8 0).cells.size]!)) [(0,.int .u8 a),(1,.int .u8 b),(2,.int .u8 c),(3,.int .u8 d)] = some #[.int .u8 a,.int .u8 b,.int .u8 c,.int .u8 d]:=by kernel_rfl
theorem SE {d':Nat} {ty':TypeId} {pos':String} {af':Array Edge} {c0 c1 c2 c3:Int} (H:Has N D a l) (hd:Nat.blt d N = true) (hd':Nat.blt d' N = true)
  (h:∀ a,Has N D a ((d',.slice (some ⟨w.heap.size,0,none⟩) 4 4)::(d,.slice (some ⟨w.heap.size,0,none⟩) 4 4)::l)→wpList Tryz.prog L.toArray Q rest a (w.alloc (.cells #[.int .u8 c0,.int .u8 c1,.int .u8 c2,.int .u8 c3] 5 (4,5)))) :
  wpList Tryz.prog L.toArray Q (⟨some d,.buildSlice 22 4 #[(0,.const (.int .u8 c0)),(1,.const (.int .u8 c1)),(2,.const (.int .u8 c2)),(3,.const (.int .u8 c3))],ty,pos,af,none⟩::⟨some d',.convert 22 22 (.tmp d),ty',pos',af',none⟩::rest) a w:=by
 obtain ⟨inf,hi1,hz,hz1,hz2⟩:=info_parts Ag;have h1:=run_buildSlice (P:=Tryz.prog) w 22 5 4 #[(0,.int .u8 c0),(1,.int .u8 c1),(2,.int .u8 c2),(3,.int .u8 c3)] #[.int .u8 c0,.int .u8 c1,.int .u8 c2,.int .u8 c3] inf (.int .u8 0) Tryz.underlying22 hi1 hz (by rw [hz1]; decide) (by rw [hz1]; decide) (by rw [hz1]; exact PH c0 c1 c2 c3);refine Cj H hd (v:=.slice (some ⟨w.heap.size,0,none⟩) 4 4) (w':=w.alloc (.cells #[.int .u8 c0,.int .u8 c1,.int .u8 c2,.int .u8 c3] 5)) (by simp [execOp,Act.eval,h1,Result.andThen]) fun a H=>?_;have h2:=H.ev (x:=.tmp d) (v:=.slice (some ⟨w.heap.size,0,none⟩) 4 4) (by show Bf _ d = _; unfold Bf; rw [show Nat.beq d d = true from Nat.beq_refl d]);have h3:=Lib.run_convert_bytes_const (P:=Tryz.prog) w 22 5 #[.int .u8 c0,.int .u8 c1,.int .u8 c2,.int .u8 c3] 4 4 Tryz.underlying22 Tryz.underlying5;exact Cj H hd' (v:=.slice (some ⟨w.heap.size,0,none⟩) 4 4) (by simp only [execOp,h2]; simp [h3,Result.andThen]) h
end
end
end Go.Proofs.YtgdnpnipahegaaaGreatDoor
