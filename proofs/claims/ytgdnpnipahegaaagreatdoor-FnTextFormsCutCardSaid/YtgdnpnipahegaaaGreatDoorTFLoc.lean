/-
 What the package's reader of the text form reads of a token does not depend on what stands behind it. Plain functions.
-/
import Derived.Test.YtgdnpnipahegaaaGreatDoorQ35
namespace Go.Proofs.YtgdnpnipahegaaaGreatDoor
section
variable {u v:List UInt8} (v':List UInt8)
theorem LX {p:UInt8→Bool}:∀ {u:List UInt8},As p (u++v) < u.length→As p (u++v') = As p (u++v)
 | [],h=>by simp at h
 | c::u,h=>by
  rw [List.cons_append,BE] at h ⊢;rw [List.cons_append,BE]
  cases hc:p c with
  | false=>rfl
  | true=>
   rw [hc,if_pos rfl,List.length_cons] at h;rw [if_pos rfl,if_pos rfl,LX (by omega)]
theorem J5 {p:UInt8→Bool} {k:Nat} {u:List UInt8} (h:min k (As p (u++v)) < u.length):min k (As p (u++v')) = min k (As p (u++v)):=by
 by_cases hr:As p (u++v) < u.length
 ·rw [LX v' hr]
 ·have key:∀ {u:List UInt8},u.length≤As p (u++v)→u.length≤As p (u++v'):=by
   intro u
   induction u with
   | nil=>intro _; exact Nat.zero_le _
   | cons c u ih=>
    intro h;rw [List.cons_append,BE] at h ⊢
    cases hc:p c with
    | false=>rw [hc] at h; simp at h
    | true=>
     rw [hc,if_pos rfl,List.length_cons] at h;rw [if_pos rfl,List.length_cons];have:=ih (by omega);omega
  have:=key (Nat.le_of_not_lt hr);omega
theorem IK:∀ {b:Bool} {u:List UInt8},skT b (u++v) < u.length→skT b (u++v') = skT b (u++v)
 | _,[],h=>by simp at h
 | true,c::u,h=>by
  rw [List.cons_append,G3] at h ⊢;rw [List.cons_append,G3,IK (by simpa using h)]
 | false,c::u,h=>by
  rw [List.cons_append,CL] at h ⊢;rw [List.cons_append,CL]
  split
  ·rename_i hc
   rw [if_pos hc,List.length_cons] at h;rw [IK (by omega)]
  ·rename_i hc
   rw [if_neg hc] at h
   split
   ·rename_i h35
    rw [if_pos h35,List.length_cons] at h;rw [IK (by omega)]
   ·rfl
theorem Df {u v:List UInt8} {n:Nat} (h:n≤u.length):(u++v).drop n = u.drop n++v:=List.drop_append_of_le_length h
theorem Cp {u v:List UInt8} {n:Nat} (h:n≤u.length):(u++v).take n = u.take n:=List.take_append_of_le_length h
theorem F0 {u v:List UInt8} {n:Nat} (h:n < u.length):(u++v).getD n 0 = u.getD n 0:=by
 rw [List.getD_eq_getElem?_getD,List.getD_eq_getElem?_getD,List.getElem?_append_left h]
theorem FL {u:List UInt8} {n:Nat} (h:n < u.length):∃ d r,u.drop n = d::r:=⟨_,_,List.drop_eq_getElem_cons h⟩
theorem Up {n:Nat} (h:n < u.length):Eo ((u++v').drop n) = Eo ((u++v).drop n):=by
 obtain ⟨d,r,hd⟩:=FL h;rw [Df (by omega),Df (by omega),hd];rfl
theorem Mv {n:Nat} (h:Dm (u++v) = n) (h0:n≠0) (hn:n < u.length):Dm (u++v') = n:=by
 cases u with
 | nil=>simp at hn
 | cons c u=>
  rw [List.cons_append,CB] at h ⊢
  split at h
  ·rename_i hc
   simp only [Bool.and_eq_true] at hc
   have h1:As idC (u++v) < u.length:=by rw [List.length_cons] at hn; omega
   rw [LX v' h1,Up v' h1,hc.1,hc.2]
   simpa using h
  ·exact absurd h.symm h0
theorem Mu {neg:Bool} {n:Nat} (h:Bb neg (u++v) = n) (h0:n≠0) (hn:n < u.length):Bb neg (u++v') = n:=by
 cases u with
 | nil=>simp at hn
 | cons c u=>
  rw [List.cons_append,CV] at h ⊢
  split at h
  ·rename_i hc
   rw [if_pos hc]
   split at h
   ·exact absurd h.symm h0
   ·rename_i hp
    rw [List.length_cons] at hn;rw [Mv v' rfl hp (by omega),if_neg hp];exact h
  ·rename_i hc
   rw [if_neg hc];rw [←List.cons_append] at h ⊢;exact Mv v' h h0 hn
theorem IP {kind n0:Nat} {s:List UInt8} {k n:Nat} (h:BX kind n0 s = some (k,n)):n0≤n∧Eo (s.drop (n - n0)) = true:=by
 unfold BX at h
 split at h
 ·cases h
 ·rename_i k1 n1 _
  split at h
  ·cases h
  ·rename_i k2 n2 _
   split at h
   ·rename_i he
    cases h;refine ⟨by omega,?_⟩;rw [show n0+n1+n2+(Fq k2 (s.drop (n1+n2))).2 - n0 = n1+n2+(Fq k2 (s.drop (n1+n2))).2 by omega];exact he
   ·cases h
theorem Nf {l:List UInt8} {x:Nat × Nat} (h:Cs l = some x):∃ c r,l = c::r∧46≤c.toNat∧c.toNat≤57∧c.toNat≠47:=by
 cases l with
 | nil=>cases h
 | cons c r=>
  refine ⟨c,r,rfl,?_⟩;rw [CP] at h
  split at h
  ·omega
  ·split at h
   ·omega
   ·split at h
    ·omega
    ·cases h
theorem Tx {l:List UInt8} {k n:Nat} (h:Cs l = some (k,n)):Eo (l.drop n) = true:=by
 cases l with
 | nil=>cases h
 | cons c r=>
  rw [CP] at h
  split at h
  ·rcases r with _ | ⟨d,r2⟩
   ·obtain ⟨h1,h2⟩:=IP h;rw [show n = (n - 1)+1 by omega,List.drop_succ_cons]; exact h2
   ·simp only at h
    split at h
    ·unfold Iw at h
     split at h
     ·cases h
     ·split at h
      ·rename_i he
       cases h;rw [Nat.add_comm,List.drop_succ_cons,List.drop_succ_cons]; exact he
      ·cases h
    ·split at h
     ·unfold Jo at h
      split at h
      ·rename_i he
       cases h;rw [Nat.add_comm,List.drop_succ_cons,List.drop_succ_cons]; exact he
      ·cases h
     ·obtain ⟨h1,h2⟩:=IP h;rw [show n = (n - 1)+1 by omega,List.drop_succ_cons]; exact h2
  ·split at h
   ·obtain ⟨h1,h2⟩:=IP h;rw [List.drop_drop] at h2;rw [show n = (As AZ r+(n - (1+As AZ r)))+1 by omega,List.drop_succ_cons]; exact h2
   ·split at h
    ·obtain ⟨_,h2⟩:=IP h
     simpa using h2
    ·cases h
theorem Pr {k n:Nat} (h:Cs (u++v) = some (k,n)) (hn:n < u.length):Cs (u++v') = some (k,n):=by
 have he:=Tx h;obtain ⟨d,r,hd⟩:=FL hn;rw [Df (by omega),hd] at he;have hdel:DI d = true:=he
 have hu:u = u.take n++d::r:=by rw [←hd,List.take_append_drop]
 have e:∀ w,Cs (u++w) = Cs (u.take n++[32]):=fun w=>by
  conv=>lhs; rw [hu]
  rw [List.append_assoc,List.cons_append];exact Pq hdel (r++w) (u.take n)
 rw [e v'] ;rw [e v] at h;exact h
theorem Pn {x:NT} (h:EP (u++v) = some x) (hn:x.size < u.length):EP (u++v') = some x:=by
 cases u with
 | nil=>simp at hn
 | cons c u=>
  rw [List.cons_append,DC] at h ⊢;rw [List.length_cons] at hn
  split at h
  ·rename_i hc
   rw [if_pos hc]
   split at h
   ·cases h
   ·rename_i k n hb
    cases h;simp only at hn
    have hsk:skT false (u++v) < u.length:=by omega
    rw [IK v' hsk,Df (by omega)];rw [Df (by omega)] at hb;rw [Pr v' hb (by rw [List.length_drop]; omega)]
  ·rename_i hc
   rw [if_neg hc]
   split at h
   ·cases h
   ·rename_i k n hb
    cases h;simp only at hn;rw [←List.cons_append] at hb ⊢;rw [Pr v' hb (by rw [List.length_cons]; omega)]
theorem Po {x:NT} (h1:1≤x.size) (hn:x.size≤u.length):Fp x (u++v') = Fp x (u++v):=by
 unfold Fp;simp only;rw [F0 (by omega),F0 (by omega),F0 (by omega),F0 (by omega)];have:∀ z w,z≤u.length→(u++w).take z = u.take z:=fun z w hz=>Cp hz
 split
 ·rw [this _ _ (by split <;> omega),this _ _ (by split <;> omega)]
 ·rw [this _ _ (by split <;> omega),this _ _ (by split <;> omega)]
theorem KS {l:List UInt8} {x:NT} {neg:Bool} (h:EP l = some x):Bb neg l = 0:=by
 have key:∀ c r,Gj c = false→Dm (c::r) = 0:=fun c r h=>by rw [CB,h]; simp
 cases l with
 | nil=>rfl
 | cons c r=>
  rw [DC] at h;rw [CV]
  split at h
  ·rename_i h45
   have h45P:Dm (c::r) = 0:=key c r (by unfold Gj; rw [h45]; rfl)
   split at h
   ·cases h
   ·rename_i k n hb
    obtain ⟨d,r2,hd,hd2⟩:=Nf hb
    have hr:Dm r = 0:=by
     cases r with
     | nil=>rfl
     | cons e r=>
      refine key e r ?_
      by_cases hbl:Ch e = true
      ·unfold Ch at hbl; unfold Gj; simp at hbl ⊢; omega
      ·by_cases h35:e.toNat = 35
       ·unfold Gj; rw [h35]; rfl
       ·rw [CL,if_neg hbl,if_neg h35,List.drop_zero] at hd;cases hd;unfold Gj; simp; omega
    rw [h45P,hr]
    split <;> simp
  ·rename_i h45
   split at h
   ·cases h
   ·rename_i k n hb
    obtain ⟨d,r2,hd,hd2⟩:=Nf hb;cases hd;rw [if_neg (by simp; omega)];exact key _ _ (by unfold Gj; simp; omega)
theorem Uj {b:List UInt8} {m:Nat} (h:HQ (u++v) = some (b,m)) (hm:m < u.length):HQ (u++v') = some (b,m):=by
 have h1:=(F1 h).1.1
 rcases u with _ | ⟨a,_ | ⟨c,u⟩⟩
 ·simp at hm
 ·simp at hm; omega
 ·simp only [List.cons_append] at h ⊢;rw [Cd] at h ⊢;simp only [List.length_cons] at hm
  split at h
  ·rename_i hc; rw [if_pos hc]; exact h
  ·rename_i hc
   rw [if_neg hc]
   split at h
   ·rename_i ho
    rw [if_pos ho];rw [←List.cons_append] at h ⊢;unfold MK at h ⊢
    split at h
    ·cases h
    ·rename_i hv
     have hm2:1+min 3 (As AG (c::u++v)) = m:=by cases h; rfl
     have hmin:=J5 v' (p:=AG) (k:=3) (u:=c::u) (v:=v) (by rw [List.length_cons]; omega);have ht:∀ w,(c::u++w).take (min 3 (As AG (c::u++v))) = (c::u).take (min 3 (As AG (c::u++v))):=fun w=>Cp (by rw [List.length_cons]; omega);rw [hmin,ht v'];rw [ht v] at hv h;rw [if_neg hv];exact h
   ·rename_i ho
    rw [if_neg ho]
    split at h
    ·rename_i hx
     rw [if_pos hx];unfold Iy at h ⊢
     split at h
     ·cases h
     ·rename_i h0
      split at h
      ·cases h
      ·rename_i w hw
       have hm2:2+min 2 (As AQ (u++v)) = m:=by cases h; rfl
       have hmin:=J5 v' (p:=AQ) (k:=2) (u:=u) (v:=v) (by omega);have ht:∀ w,(u++w).take (min 2 (As AQ (u++v))) = u.take (min 2 (As AQ (u++v))):=fun w=>Cp (by omega);rw [if_neg (by omega),hmin,ht v'];rw [ht v] at hw;rw [hw];exact h
    ·rename_i hx
     rw [if_neg hx]
     have uni:∀ d,Fl d (a::c::(u++v)) = some (b,m)→Fl d (a::c::(u++v')) = some (b,m):=by
      intro d h;rw [←List.cons_append,←List.cons_append] at h ⊢;have hul:(a::c::u).length = u.length+2:=rfl;generalize a::c::u = y at h hul ⊢;unfold Fl at h ⊢
      split at h
      ·cases h
      ·rename_i hl
       have key:d+2≤m:=by
        split at h
        ·cases h
        ·split at h
         ·cases h
         ·split at h
          ·cases h; exact Nat.le_refl _
          ·split at h
           ·cases h
           ·split at h
            ·cases h
            ·split at h
             ·cases h; omega
             ·cases h
       have e1:∀ w,((y++w).drop 2).take d = (y.drop 2).take d:=fun w=>by
        rw [Df (by omega),Cp (by rw [List.length_drop]; omega)]
       rw [if_neg (by rw [List.length_append]; omega),e1 v'];rw [e1 v] at h
       split at h
       ·cases h
       ·rename_i x hx1
        split at h
        ·cases h
        ·rename_i hbig
         rw [if_neg hbig]
         split at h
         ·rename_i hs; rw [if_pos hs]; exact h
         ·rename_i hs
          rw [if_neg hs]
          split at h
          ·cases h
          ·rename_i hl8
           split at h
           ·cases h
           ·rename_i y1 hy1
            split at h
            ·rename_i hp
             have hm8:d+8 = m:=by cases h; rfl
             have e2:∀ w,((y++w).drop (d+4)).take 4 = (y.drop (d+4)).take 4:=fun w=>by
              rw [Df (by omega),Cp (by rw [List.length_drop]; omega)]
             rw [if_neg (by rw [List.length_append]; omega),e2 v'];rw [e2 v] at hy1;rw [hy1];simp only;rw [F0 (by omega),F0 (by omega)] at hp ⊢;rw [if_pos hp];exact h
            ·cases h
     split at h
     ·rename_i h117; rw [if_pos h117]; exact uni 4 h
     ·rename_i h117
      rw [if_neg h117]
      split at h
      ·rename_i h85; rw [if_pos h85]; exact uni 8 h
      ·cases h
theorem SR {l:List UInt8} {c n:Nat} (h:BI l = some (c,n)) (hc:c < 128):n = 1:=by
 cases l with
 | nil=>cases h
 | cons b l2=>
  by_cases h1:b.toNat < 128
  ·rw [Bo,if_pos h1] at h; cases h; rfl
  ·rw [Bo,if_neg h1] at h
   rcases hh:C8 b.toNat with _ | ⟨k,least,first⟩
   ·rw [hh] at h; cases h
   ·rw [hh] at h;simp only at h;have hk:=IF hh
    rcases ht:B6 k first l2 with _ | w
    ·rw [ht] at h; cases h
    ·rw [ht] at h;simp only at h
     split at h
     ·rename_i hok
      cases h;unfold K7 at hok;simp at hok;omega
     ·cases h
theorem LL {q:Nat} (hq:q = 34∨q = 39):∀ (f:Nat) (u:List UInt8) (out s:List UInt8) (n:Nat),u.length≤f→A7 q (u++v) out = some (s,n)→v.length≤n→A7 q (u++v') out = some (s,n - v.length+v'.length)
 | f,u,out,s,n,hf,h,hn=>by
  have hle:=II h;rw [List.length_append] at hle
  have hu0:u≠[]:=by intro e; subst e; simp at hle; omega
  have hup:1≤u.length:=by cases u with
   | nil=>exact absurd rfl hu0
   | cons=>simp
  rcases hu:BI (u++v) with _ | ⟨c,k⟩
  ·rw [Kk hu] at h; cases h
  ·have hk:=Dg hu;rw [Dw hu] at h
   split at h
   ·cases h
   ·rename_i hc0
    split at h
    ·
     rename_i hcq
     have hk1:=SR hu (by omega);subst hk1;cases h;have hu':=Gt hu (r:=u.drop 1++v');rw [Cp hup,←List.append_assoc,List.take_append_drop] at hu';rw [Dw hu',if_neg hc0,if_pos hcq];simp only [List.length_append]
     congr 2
     omega
    ·rename_i hcq
     obtain ⟨f,rfl⟩:∃ g,f = g+1:=⟨f - 1,by omega⟩
     split at h
     ·
      rename_i h92
      have hk1:=SR hu (by omega);subst hk1
      rcases he:HQ (u++v) with _ | ⟨b,m⟩
      ·rw [he] at h; cases h
      ·rw [he] at h;simp only at h;have hm:=F1 he;have hr:=II h;rw [List.length_drop,List.length_append] at hr
       have hmu:m < u.length:=by omega
       have hu':=Gt hu (r:=u.drop 1++v');rw [Cp hup,←List.append_assoc,List.take_append_drop] at hu';rw [Dw hu',if_neg hc0,if_neg hcq,if_pos h92,Uj v' he hmu];simp only;rw [Df (by omega)] at h ⊢;exact LL hq f (u.drop m) _ s n (by rw [List.length_drop]; omega) h hn
     ·rename_i h92
      have hr:=II h;rw [List.length_drop,List.length_append] at hr
      have hku:k≤u.length:=by omega
      have hu':=Gt hu (r:=u.drop k++v');rw [Cp hku,←List.append_assoc,List.take_append_drop] at hu';rw [Dw hu',if_neg hc0,if_neg hcq,if_neg h92];rw [Df hku,Cp hku] at h ⊢;exact LL hq f (u.drop k) _ s n (by rw [List.length_drop]; omega) h hn
theorem csT_cut {u:List UInt8} (h:skT false (u++v) < u.length):∃ c r,csT (u++v) = c::r++v∧csT (u++v') = c::r++v'∧(c::r).length≤u.length:=by
 obtain ⟨d,r,hd⟩:=FL h;refine ⟨d,r,?_,?_,?_⟩
 ·unfold csT; rw [Df (by omega),hd]
 ·unfold csT; rw [IK v' h,Df (by omega),hd]
 ·rw [←hd,List.length_drop]; omega
theorem NQ {l name n2 r:List UInt8} (h:tnT l name = some (n2,r)):r.length+1≤l.length:=Lf _ _ _ _ _ h
theorem NS:∀ (f:Nat) (u name n2 r:List UInt8),u.length≤f→tnT (csT (u++v)) name = some (n2,r)→v.length≤r.length→∃ r0,r = r0++v∧tnT (csT (u++v')) name = some (n2,r0++v')
 | f,u,name,n2,r,hf,h,hr=>by
  have hl:=NQ h
  have hsk:skT false (u++v) < u.length:=by
   unfold csT at hl;rw [List.length_drop,List.length_append] at hl;omega
  obtain ⟨c,u2,e1,e2,e3⟩:=csT_cut v' hsk;rw [e1] at h hl;rw [e2];rw [List.cons_append,JN] at h ⊢;rw [List.length_cons] at e3;obtain ⟨f,rfl⟩:∃ g,f = g+1:=⟨f - 1,by omega⟩
  split at h
  ·rename_i hc
   cases h;exact ⟨u2,rfl,by rw [if_pos hc]⟩
  ·rename_i hc
   rw [if_neg hc]
   split at h
   ·rename_i hc2
    obtain ⟨r0,h1,h2⟩:=NS f u2 _ n2 r (by omega) h hr;exact ⟨r0,h1,by rw [if_pos hc2]; exact h2⟩
   ·rename_i hc2
    rw [if_neg hc2]
    split at h
    ·rename_i h37
     rw [if_pos h37]
     split at h
     ·rename_i a b r2 hu2
      split at h
      ·rename_i hhex
       have hl2:=NQ h;have hl3:=C6 r2;have hlen:=congrArg List.length hu2;rw [List.length_append,List.length_cons,List.length_cons] at hlen
       rcases u2 with _ | ⟨a',_ | ⟨b',u3⟩⟩
       ·simp at hlen; omega
       ·simp at hlen; omega
       ·simp only [List.cons_append] at hu2 ⊢
        injection hu2 with q1 q2
        injection q2 with q2 q3
        subst q1 q2 q3;simp only [List.length_cons] at e3;obtain ⟨r0,h1,h2⟩:=NS f u3 _ n2 r (by omega) h hr;exact ⟨r0,h1,by rw [if_pos hhex]; exact h2⟩
      ·cases h
     ·cases h
    ·cases h
end
end Go.Proofs.YtgdnpnipahegaaaGreatDoor
