/-
 A message that the reference's writer writes, cut within a message or a list of it, is refused by the package's reader. Plain functions.
-/
import Derived.Test.YtgdnpnipahegaaaGreatDoorTFLoc
namespace Go.Proofs.YtgdnpnipahegaaaGreatDoor
section
variable {P v:List UInt8} (v':List UInt8)
theorem KZ {k:Nat} (h:k≤P.length):(P++v).drop k = P.drop k++v:=Df h
theorem GC {k n:Nat} (h:k+n≤P.length) (h2:goT (P++v) k n < P.length):goT (P++v') k n = goT (P++v) k n:=by
 unfold goT at h2 ⊢;rw [KZ h] at h2 ⊢;rw [KZ h,IK (v:=v) v' (by rw [List.length_drop]; omega)]
theorem Fg {bs:List UInt8} {k n:Nat}:k+n≤goT bs k n:=by unfold goT; omega
theorem JL {k n kd at_:Nat} {x:TT × Nat} (h:AD (P++v) k kd n at_ = x) (h2:x.2 < P.length):AD (P++v') k kd n at_ = x:=by
 subst h;have h3:goT (P++v) k n < P.length:=h2;have h4:=Fg (bs:=P++v) (k:=k) (n:=n);unfold AD;rw [GC v' (by omega) h3,KZ (by omega),KZ (by omega),Cp (by rw [List.length_drop]; omega),Cp (by rw [List.length_drop]; omega)]
theorem Nr {k:Nat} (h:k < P.length):∃ c r,P.drop k = c::r∧∀ w,(P++w).drop k = c::(r++w):=by
 obtain ⟨c,r,hd⟩:=FL h;exact ⟨c,r,hd,fun w=>by rw [Df (by omega),hd]; rfl⟩
theorem QZ {bs:List UInt8} {t:TT} {k:Nat}:k≤(Fy bs (t,k)).2:=by
 rcases hd:bs.drop k with _ | ⟨c,r⟩
 ·rw [LQ hd]; exact Nat.le_refl _
 ·rw [Es hd]
  split
  ·have:=Fg (bs:=bs) (k:=k) (n:=1); simp; omega
  ·exact Nat.le_refl _
theorem S5 {t:TT} {k:Nat} {x:TT × Nat} (h:Fy (P++v) (t,k) = x) (h2:x.2 < P.length):Fy (P++v') (t,k) = x:=by
 have hk:k < P.length:=by have:=QZ (bs:=P++v) (t:=t) (k:=k); rw [h] at this; omega
 obtain ⟨c,r,_,hd⟩:=Nr hk;rw [Es (hd v)] at h;rw [Es (hd v')]
 split at h
 ·rename_i hc
  rw [if_pos hc];subst h;rw [GC v' (by omega) h2]
 ·rename_i hc
  rw [if_neg hc]; exact h
theorem RI {k:Nat} {x:TT × Nat} (h:D8 (P++v) k = some x) (hk:k < P.length) (h2:x.2 < P.length):D8 (P++v') k = some x:=by
 unfold D8 at h ⊢;have hl:∀ w,tnF ((P++w).length+1) (csT ((P++w).drop (k+1))) [] = tnT (csT ((P++w).drop (k+1))) []:=fun w=>NR (by have:=C6 ((P++w).drop (k+1)); rw [List.length_drop] at this; omega);rw [hl] at h ⊢
 rcases ht:tnT (csT ((P++v).drop (k+1))) [] with _ | ⟨name,r⟩
 ·rw [ht] at h; cases h
 ·rw [ht] at h;simp only at h
  split at h
  ·rename_i hok
   cases h;simp only at h2;have hge:=Fg (bs:=P++v) (k:=(P++v).length - r.length) (n:=0);have hrl:=NQ ht;have hcl:=C6 ((P++v).drop (k+1));rw [List.length_drop] at hcl
   have hvr:v.length≤r.length:=by rw [List.length_append] at hge h2 hcl; omega
   rw [KZ (by omega)] at ht;obtain ⟨r0,e1,e2⟩:=NS v' (P.drop (k+1)).length (P.drop (k+1)) [] name r (Nat.le_refl _) ht hvr;rw [KZ (by omega),e2];simp only;rw [if_pos hok];subst e1
   have e3:(P++v').length - (r0++v').length = (P++v).length - (r0++v).length:=by simp only [List.length_append]; omega
   have h4:(P++v).length - (r0++v).length < P.length:=by omega
   rw [e3,GC v' (by omega) h2,KZ (by omega),KZ (by omega),Cp (by rw [List.length_drop]; omega),Cp (by rw [List.length_drop]; omega)]
  ·cases h
theorem QH {k:Nat} {x:TT × Nat} (h:Bh (P++v) k = some x) (hk:k < P.length) (h2:x.2 < P.length):Bh (P++v') k = some x:=by
 obtain ⟨c,r,hP,hd⟩:=Nr hk
 have hrl:r.length+1 = P.length - k:=by have:=congrArg List.length hP; rw [List.length_drop] at this; simpa using this.symm
 -- the token itself,ahead of its colon
 have sep:∀ {y:TT × Nat} {o:Option (TT × Nat)},(y.2 < P.length→o = some y)→(some y).map (Fy (P++v)) = some x→o.map (Fy (P++v')) = some x:=by
  intro y o ho hs;obtain ⟨t,k1⟩:=y
  have hs':Fy (P++v) (t,k1) = x:=by simpa using hs
  have h3:k1 < P.length:=by have:=QZ (bs:=P++v) (t:=t) (k:=k1); rw [hs'] at this; omega
  rw [ho h3];simp only [Option.map_some];rw [S5 v' hs' h2]
 unfold Bh at h ⊢;rw [hd v] at h;rw [hd v'];simp only at h ⊢
 by_cases h91:c.toNat = 91
 ·rw [if_pos h91] at h ⊢
  rcases ht:D8 (P++v) k with _ | y
  ·rw [ht] at h; cases h
  ·rw [ht] at h;exact sep (fun h3=>RI v' ht hk h3) h
 ·rw [if_neg h91] at h ⊢;rw [←List.cons_append] at h ⊢
  by_cases hi:Bb false (c::r++v) = 0
  ·rw [if_neg (by simpa using hi)] at h
   rcases hn:EP (c::r++v) with _ | z
   ·rw [hn] at h; cases h
   ·rw [hn] at h;simp only at h;have hz:=E9 hn
    split at h
    ·rename_i hc
     refine sep (fun h3=>?_) h
     have h4:k+z.size < P.length:=by have:=Fg (bs:=P++v) (k:=k) (n:=z.size); have h5:goT (P++v) k z.size < P.length:=h3; omega
     have hn':=Pn v' hn (by rw [List.length_cons]; omega);rw [if_neg (by rw [KS hn']; simp),hn'];simp only;rw [Po v' (v:=v) hz.1 (by rw [List.length_cons]; omega),if_pos hc];exact congrArg some (JL v' rfl h3)
    ·cases h
  ·rw [if_pos hi] at h;refine sep (fun h3=>?_) h
   have h4:k+Bb false (c::r++v) < P.length:=by have:=Fg (bs:=P++v) (k:=k) (n:=Bb false (c::r++v)); have h5:goT (P++v) k (Bb false (c::r++v)) < P.length:=h3; omega
   have hi':=Mu v' (neg:=false) (u:=c::r) (v:=v) rfl hi (by rw [List.length_cons]; omega);rw [hi',if_pos hi];exact congrArg some (JL v' rfl h3)
theorem MV:∀ (f f' k:Nat) (out s:List UInt8) (k':Nat),Da (P++v) f k out = some (s,k')→k≤k'→k' < P.length→P.length - k < f'→Da (P++v') f' k out = some (s,k')
 | 0,_,_,_,_,_,h,_,_,_=>by cases h
 | f+1,f',k,out,s,k',h,hk,h2,hf=>by
  obtain ⟨c,r,hP,hd⟩:=Nr (P:=P) (k:=k) (by omega)
  have hrl:r.length+1 = P.length - k:=by have:=congrArg List.length hP; rw [List.length_drop] at this; simpa using this.symm
  obtain ⟨g,rfl⟩:∃ g,f' = g+1:=⟨f' - 1,by omega⟩;rw [Hn,hd v] at h;rw [Hn,hd v'];simp only at h ⊢
  split at h
  ·rename_i hq
   rw [if_pos hq]
   rcases hs:A7 c.toNat (r++v) [] with _ | ⟨t,n⟩
   ·rw [hs] at h; cases h
   ·rw [hs] at h;simp only at h;have hlen:=II hs;rw [List.length_append] at hlen
    have hkb:goT (P++v) k ((r++v).length+1 - n)≤(P++v).length:=by
     refine (DU ?_).2;rw [List.length_append,List.length_append]; omega
    have hk1:=(JP f _ _ _ _ h hkb).1;have hge:=Fg (bs:=P++v) (k:=k) (n:=(r++v).length+1 - n);rw [List.length_append] at hge hk1 h
    have hn:v.length≤n:=by omega
    have hs':=LL v' hq r.length r [] t n (Nat.le_refl _) hs hn;rw [hs'];simp only
    have e:(r++v').length+1 - (n - v.length+v'.length) = r.length+v.length+1 - n:=by rw [List.length_append]; omega
    have hgc:goT (P++v') k (r.length+v.length+1 - n) = goT (P++v) k (r.length+v.length+1 - n):=GC v' (by omega) (by omega);rw [e,hgc];exact MV f g _ _ s k' h hk1 h2 (by omega)
  ·rename_i hq
   rw [if_neg hq]; exact h
theorem O5 {k:Nat} {x:TT × Nat} (h:Bi (P++v) k = some x) (hk:k < P.length) (h2:x.2 < P.length):Bi (P++v') k = some x:=by
 obtain ⟨c,r,hP,hd⟩:=Nr hk
 have hrl:r.length+1 = P.length - k:=by have:=congrArg List.length hP; rw [List.length_drop] at this; simpa using this.symm
 unfold Bi at h ⊢;rw [hd v] at h;rw [hd v'];simp only at h ⊢
 split at h
 ·rename_i hq
  rw [if_pos hq]
  rcases hs:Da (P++v) ((P++v).length+1) k [] with _ | ⟨s,k'⟩
  ·rw [hs] at h; cases h
  ·rw [hs] at h;cases h;simp only at h2;have hle:=(JP _ _ _ _ _ hs (by rw [List.length_append]; omega)).1;rw [MV v' _ ((P++v').length+1) k [] s k' hs hle h2 (by rw [List.length_append]; omega)];simp only;rw [←List.cons_append,←List.cons_append,Cp (by rw [List.length_cons]; omega),Cp (by rw [List.length_cons]; omega)]
 ·rename_i hq
  rw [if_neg hq];rw [←List.cons_append] at h ⊢
  by_cases hi:Bb true (c::r++v) = 0
  ·rw [if_neg (by simpa using hi)] at h
   rcases hn:EP (c::r++v) with _ | z
   ·rw [hn] at h; cases h
   ·rw [hn] at h;cases h;simp only at h2;have hz:=E9 hn
    have h4:k+z.size < P.length:=by have:=Fg (bs:=P++v) (k:=k) (n:=z.size); omega
    have hn':=Pn v' hn (by rw [List.length_cons]; omega);rw [if_neg (by rw [KS hn']; simp),hn'];simp only;rw [Po v' (v:=v) hz.1 (by rw [List.length_cons]; omega),GC v' (by omega) h2,Cp (by rw [List.length_cons]; omega),Cp (by rw [List.length_cons]; omega)]
  ·rw [if_pos hi] at h;cases h;have h2':goT (P++v) k (Bb true (c::r++v)) < P.length:=h2
   have h4:k+Bb true (c::r++v) < P.length:=by have:=Fg (bs:=P++v) (k:=k) (n:=Bb true (c::r++v)); omega
   have hi':=Mu v' (neg:=true) (u:=c::r) (v:=v) rfl hi (by rw [List.length_cons]; omega);rw [hi',if_pos hi];exact congrArg some (JL v' rfl h2)
end
inductive ActC (last:Nat) (st:List UInt8) (k:Nat) (b1 b2:List UInt8):Prop
 | none:Bz b1 last st k = none→Bz b2 last st k = none→ActC last st k b1 b2
 | sign (kd:Nat) (st':List UInt8):Bz b1 last st k = Aw st' (some (AD b1 k kd 1 0))→Bz b2 last st k = Aw st' (some (AD b2 k kd 1 0))→ActC last st k b1 b2
 | field:Bz b1 last st k = Aw st (Bh b1 k)→Bz b2 last st k = Aw st (Bh b2 k)→ActC last st k b1 b2
 | scalar:Bz b1 last st k = Aw st (Bi b1 k)→Bz b2 last st k = Aw st (Bi b2 k)→ActC last st k b1 b2
theorem Uz {last:Nat} {st:List UInt8} {k:Nat} {b1 b2:List UInt8} {c:UInt8} {r1 r2:List UInt8} (h1:b1.drop k = c::r1) (h2:b2.drop k = c::r2) (hl:last≠1):ActC last st k b1 b2:=by
 have top:∀ b,(∀ x r,(x:List UInt8).drop k = c::r→Bz x last st k = Cq x b st k)→ActC last st k b1 b2:=by
  intro b hb
  have e:∀ x r,(x:List UInt8).drop k = c::r→Bz x last st k = if b∧c.toNat = 44 then Aw st (some (AD x k 8 1 0)) else if b∧c.toNat = 59 then Aw st (some (AD x k 9 1 0)) else Aw st (Bh x k):=fun x r hx=>by
   rw [hb x r hx]; unfold Cq; rw [hx]
  by_cases q1:b = true∧c.toNat = 44
  ·exact .sign 8 st (by rw [e _ _ h1,if_pos q1]) (by rw [e _ _ h2,if_pos q1])
  ·by_cases q2:b = true∧c.toNat = 59
   ·exact .sign 9 st (by rw [e _ _ h1,if_neg q1,if_pos q2]) (by rw [e _ _ h2,if_neg q1,if_pos q2])
   ·exact .field (by rw [e _ _ h1,if_neg q1,if_neg q2]) (by rw [e _ _ h2,if_neg q1,if_neg q2])
 have msg:∀ b,(∀ x r,(x:List UInt8).drop k = c::r→Bz x last st k = B4 x b st k)→ActC last st k b1 b2:=by
  intro b hb
  have e:∀ x r,(x:List UInt8).drop k = c::r→Bz x last st k = if c.toNat = A4 st then Aw st.dropLast (some (AD x k 5 1 0)) else if c.toNat = De (A4 st) then .none
    else if b∧c.toNat = 44 then Aw st (some (AD x k 8 1 0)) else if b∧c.toNat = 59 then Aw st (some (AD x k 9 1 0)) else Aw st (Bh x k):=fun x r hx=>by
   rw [hb x r hx]; unfold B4; rw [hx]
  by_cases q0:c.toNat = A4 st
  ·exact .sign 5 st.dropLast (by rw [e _ _ h1,if_pos q0]) (by rw [e _ _ h2,if_pos q0])
  ·by_cases q3:c.toNat = De (A4 st)
   ·exact .none (by rw [e _ _ h1,if_neg q0,if_pos q3]) (by rw [e _ _ h2,if_neg q0,if_pos q3])
   ·by_cases q1:b = true∧c.toNat = 44
    ·exact .sign 8 st (by rw [e _ _ h1,if_neg q0,if_neg q3,if_pos q1]) (by rw [e _ _ h2,if_neg q0,if_neg q3,if_pos q1])
    ·by_cases q2:b = true∧c.toNat = 59
     ·exact .sign 9 st (by rw [e _ _ h1,if_neg q0,if_neg q3,if_neg q1,if_pos q2]) (by rw [e _ _ h2,if_neg q0,if_neg q3,if_neg q1,if_pos q2])
     ·exact .field (by rw [e _ _ h1,if_neg q0,if_neg q3,if_neg q1,if_neg q2]) (by rw [e _ _ h2,if_neg q0,if_neg q3,if_neg q1,if_neg q2])
 have lst:(∀ x r,(x:List UInt8).drop k = c::r→Bz x last st k = CH x st k)→ActC last st k b1 b2:=by
  intro hb
  have e:∀ x r,(x:List UInt8).drop k = c::r→Bz x last st k = if c.toNat = 93 then Aw st.dropLast (some (AD x k 7 1 0)) else if c.toNat = 44 then Aw st (some (AD x k 8 1 0)) else .none:=fun x r hx=>by
   rw [hb x r hx]; unfold CH; rw [hx]
  by_cases q0:c.toNat = 93
  ·exact .sign 7 st.dropLast (by rw [e _ _ h1,if_pos q0]) (by rw [e _ _ h2,if_pos q0])
  ·by_cases q1:c.toNat = 44
   ·exact .sign 8 st (by rw [e _ _ h1,if_neg q0,if_pos q1]) (by rw [e _ _ h2,if_neg q0,if_pos q1])
   ·exact .none (by rw [e _ _ h1,if_neg q0,if_neg q1]) (by rw [e _ _ h2,if_neg q0,if_neg q1])
 have val:∀ l cl,(∀ x r,(x:List UInt8).drop k = c::r→Bz x last st k = BB x l cl st k)→ActC last st k b1 b2:=by
  intro l cl hb
  have e:∀ x r,(x:List UInt8).drop k = c::r→Bz x last st k = if c.toNat = 123∨c.toNat = 60 then Aw (st++[c]) (some (AD x k 4 1 0)) else if l∧c.toNat = 91 then Aw (st++[c]) (some (AD x k 6 1 0))
    else if cl∧c.toNat = 93 then Aw st.dropLast (some (AD x k 7 1 0)) else Aw st (Bi x k):=fun x r hx=>by
   rw [hb x r hx]; unfold BB; rw [hx]
  by_cases q0:c.toNat = 123∨c.toNat = 60
  ·exact .sign 4 (st++[c]) (by rw [e _ _ h1,if_pos q0]) (by rw [e _ _ h2,if_pos q0])
  ·by_cases q1:l = true∧c.toNat = 91
   ·exact .sign 6 (st++[c]) (by rw [e _ _ h1,if_neg q0,if_pos q1]) (by rw [e _ _ h2,if_neg q0,if_pos q1])
   ·by_cases q2:cl = true∧c.toNat = 93
    ·exact .sign 7 st.dropLast (by rw [e _ _ h1,if_neg q0,if_neg q1,if_pos q2]) (by rw [e _ _ h2,if_neg q0,if_neg q1,if_pos q2])
    ·exact .scalar (by rw [e _ _ h1,if_neg q0,if_neg q1,if_neg q2]) (by rw [e _ _ h2,if_neg q0,if_neg q1,if_neg q2])
 by_cases a0:last = 0
 ·exact top false fun x r _=>by unfold Bz; rw [if_neg hl,if_pos a0]
 ·by_cases a2:last = 2
  ·exact val true false fun x r _=>by unfold Bz; rw [if_neg hl,if_neg a0,if_pos a2]
  ·by_cases a4:last = 4
   ·exact msg false fun x r _=>by unfold Bz; rw [if_neg hl,if_neg a0,if_neg a2,if_pos a4]
   ·by_cases a6:last = 6
    ·exact val false true fun x r _=>by unfold Bz; rw [if_neg hl,if_neg a0,if_neg a2,if_neg a4,if_pos a6]
    ·by_cases a8:last = 8∨last = 9
     ·by_cases o0:AB st = 0
      ·exact top false fun x r _=>by unfold Bz; rw [if_neg hl,if_neg a0,if_neg a2,if_neg a4,if_neg a6,if_pos a8,if_pos o0]
      ·by_cases o4:AB st = 4
       ·exact msg false fun x r _=>by unfold Bz; rw [if_neg hl,if_neg a0,if_neg a2,if_neg a4,if_neg a6,if_pos a8,if_neg o0,if_pos o4]
       ·exact val false false fun x r _=>by unfold Bz; rw [if_neg hl,if_neg a0,if_neg a2,if_neg a4,if_neg a6,if_pos a8,if_neg o0,if_neg o4]
     ·by_cases o0:AB st = 0
      ·exact top true fun x r _=>by unfold Bz; rw [if_neg hl,if_neg a0,if_neg a2,if_neg a4,if_neg a6,if_neg a8,if_pos o0]
      ·by_cases o4:AB st = 4
       ·exact msg true fun x r _=>by unfold Bz; rw [if_neg hl,if_neg a0,if_neg a2,if_neg a4,if_neg a6,if_neg a8,if_neg o0,if_pos o4]
       ·exact lst fun x r _=>by unfold Bz; rw [if_neg hl,if_neg a0,if_neg a2,if_neg a4,if_neg a6,if_neg a8,if_neg o0,if_neg o4]
theorem Jx {bs:List UInt8} {k:Nat} {y:TT × Nat} (h:Bh bs k = some y):y.1.kind = 2∧y.1.pos = k:=⟨(Is h).2,(Is h).1.pos⟩
theorem Il {bs:List UInt8} {k:Nat} {y:TT × Nat} (h:Bi bs k = some y):y.1.kind = 3∧y.1.pos = k:=⟨(FT h).2,(FT h).1.pos⟩
theorem Jl {st:List UInt8}:AB st = 0↔st = []:=by
 unfold AB
 rcases hs:st.getLast? with _ | c
 ·simpa using hs
 ·simp only
  constructor
  ·intro h; split at h <;> omega
  ·intro h; subst h; cases hs
theorem TK {bs st:List UInt8} {last k:Nat} {t:TT} {st':List UInt8} {k':Nat} (h:Bz bs last st k = some (t,st',k')) (h1:t.kind≠1) :
  k < k'∧t.pos = k∧(2≤t.kind∧t.kind≤9)∧(t.kind = 4∨t.kind = 6→st'.length = st.length+1)∧(t.kind = 5∨t.kind = 7→st'.length = st.length - 1∧(st≠[]∨last = 4∨last = 6))∧(t.kind = 2∨t.kind = 3∨Cr t.kind→st' = st):=by
 have sign:∀ kd a st2,Aw st2 (some (AD bs k kd 1 a)) = some (t,st',k')→t.kind = kd∧(k < k'∧t.pos = k)∧st' = st2:=fun kd a st2 h=>by cases h; exact ⟨rfl,⟨by have:=Fg (bs:=bs) (k:=k) (n:=1); omega,rfl⟩,rfl⟩
 have fld:Aw st (Bh bs k) = some (t,st',k')→t.kind = 2∧(k < k'∧t.pos = k)∧st' = st:=fun h=>by
  rcases hf:Bh bs k with _ | ⟨t2,k2⟩
  ·rw [hf] at h; cases h
  ·rw [hf] at h; have:=Jx hf; have hlt:=(Is hf).1.lt; cases h; exact ⟨this.1,⟨hlt,this.2⟩,rfl⟩
 have scl:Aw st (Bi bs k) = some (t,st',k')→t.kind = 3∧(k < k'∧t.pos = k)∧st' = st:=fun h=>by
  rcases hf:Bi bs k with _ | ⟨t2,k2⟩
  ·rw [hf] at h; cases h
  ·rw [hf] at h; have:=Il hf; have hlt:=(FT hf).1.lt; cases h; exact ⟨this.1,⟨hlt,this.2⟩,rfl⟩
 have eof:Aw st (some (AD bs k 1 0 0)) = some (t,st',k')→False:=fun h=>by cases h; exact h1 rfl
 have same:∀ kd,(t.kind = kd∧(k < k'∧t.pos = k)∧st' = st)→(kd = 2∨kd = 3∨Cr kd)→_:=fun kd hh hk=>(by
  obtain ⟨e1,e2,e3⟩:=hh;unfold Cr at hk ⊢
  exact ⟨e2.1,e2.2,by omega,fun h=>by omega,fun h=>by omega,fun _=>e3⟩:k < k'∧t.pos = k∧(2≤t.kind∧t.kind≤9)∧(t.kind = 4∨t.kind = 6→st'.length = st.length+1)∧(t.kind = 5∨t.kind = 7→st'.length = st.length - 1∧(st≠[]∨last = 4∨last = 6))∧(t.kind = 2∨t.kind = 3∨Cr t.kind→st' = st))
 have cls:∀ kd,(t.kind = kd∧(k < k'∧t.pos = k)∧st' = st.dropLast)→(kd = 5∨kd = 7)→(st≠[]∨last = 4∨last = 6)→_:=fun kd hh hk hne=>(by
  obtain ⟨e1,e2,e3⟩:=hh;unfold Cr
  exact ⟨e2.1,e2.2,by omega,fun h=>by omega,fun _=>⟨by rw [e3]; simp,hne⟩,fun h=>by omega⟩:k < k'∧t.pos = k∧(2≤t.kind∧t.kind≤9)∧(t.kind = 4∨t.kind = 6→st'.length = st.length+1)∧(t.kind = 5∨t.kind = 7→st'.length = st.length - 1∧(st≠[]∨last = 4∨last = 6))∧(t.kind = 2∨t.kind = 3∨Cr t.kind→st' = st))
 have opn:∀ kd c,(t.kind = kd∧(k < k'∧t.pos = k)∧st' = st++[c])→(kd = 4∨kd = 6)→_:=fun kd c hh hk=>(by
  obtain ⟨e1,e2,e3⟩:=hh;unfold Cr
  exact ⟨e2.1,e2.2,by omega,fun _=>by rw [e3]; simp,fun h=>by omega,fun h=>by omega⟩:k < k'∧t.pos = k∧(2≤t.kind∧t.kind≤9)∧(t.kind = 4∨t.kind = 6→st'.length = st.length+1)∧(t.kind = 5∨t.kind = 7→st'.length = st.length - 1∧(st≠[]∨last = 4∨last = 6))∧(t.kind = 2∨t.kind = 3∨Cr t.kind→st' = st))
 have top:∀ b,Cq bs b st k = some (t,st',k')→_:=fun b h=>(by
  unfold Cq at h
  split at h
  ·exact absurd (eof h) id
  ·split at h
   ·exact same 8 (sign _ _ _ h) (.inr (.inr (.inl rfl)))
   ·split at h
    ·exact same 9 (sign _ _ _ h) (.inr (.inr (.inr rfl)))
    ·exact same 2 (fld h) (.inl rfl):k < k'∧t.pos = k∧(2≤t.kind∧t.kind≤9)∧(t.kind = 4∨t.kind = 6→st'.length = st.length+1)∧(t.kind = 5∨t.kind = 7→st'.length = st.length - 1∧(st≠[]∨last = 4∨last = 6))∧(t.kind = 2∨t.kind = 3∨Cr t.kind→st' = st))
 have msg:∀ b,(st≠[]∨last = 4∨last = 6)→B4 bs b st k = some (t,st',k')→_:=fun b hne h=>(by
  unfold B4 at h
  split at h
  ·cases h
  ·split at h
   ·exact cls 5 (sign _ _ _ h) (.inl rfl) hne
   ·split at h
    ·cases h
    ·split at h
     ·exact same 8 (sign _ _ _ h) (.inr (.inr (.inl rfl)))
     ·split at h
      ·exact same 9 (sign _ _ _ h) (.inr (.inr (.inr rfl)))
      ·exact same 2 (fld h) (.inl rfl):k < k'∧t.pos = k∧(2≤t.kind∧t.kind≤9)∧(t.kind = 4∨t.kind = 6→st'.length = st.length+1)∧(t.kind = 5∨t.kind = 7→st'.length = st.length - 1∧(st≠[]∨last = 4∨last = 6))∧(t.kind = 2∨t.kind = 3∨Cr t.kind→st' = st))
 have val:∀ l cl,(cl = true→last = 6)→BB bs l cl st k = some (t,st',k')→_:=fun l cl hcl h=>(by
  unfold BB at h
  split at h
  ·cases h
  ·split at h
   ·exact opn 4 _ (sign _ _ _ h) (.inl rfl)
   ·split at h
    ·exact opn 6 _ (sign _ _ _ h) (.inr rfl)
    ·split at h
     ·rename_i hc
      exact cls 7 (sign _ _ _ h) (.inr rfl) (.inr (.inr (hcl hc.1)))
     ·exact same 3 (scl h) (.inr (.inl rfl)):k < k'∧t.pos = k∧(2≤t.kind∧t.kind≤9)∧(t.kind = 4∨t.kind = 6→st'.length = st.length+1)∧(t.kind = 5∨t.kind = 7→st'.length = st.length - 1∧(st≠[]∨last = 4∨last = 6))∧(t.kind = 2∨t.kind = 3∨Cr t.kind→st' = st))
 unfold Bz at h
 split at h
 ·exact absurd (eof h) id
 ·split at h
  ·exact top _ h
  ·split at h
   ·exact val _ _ (fun h=>by cases h) h
   ·split at h
    ·rename_i h4
     exact msg _ (.inr (.inl h4)) h
    ·split at h
     ·rename_i h6
      exact val _ _ (fun _=>h6) h
     ·split at h
      ·split at h
       ·exact top _ h
       ·rename_i ho
        split at h
        ·exact msg _ (.inl fun e=>ho (Jl.2 e)) h
        ·exact val _ _ (fun h=>by cases h) h
      ·split at h
       ·exact top _ h
       ·rename_i ho
        have hne:st≠[]:=fun e=>ho (Jl.2 e)
        split at h
        ·exact msg _ (.inl hne) h
        ·unfold CH at h
         split at h
         ·cases h
         ·split at h
          ·exact cls 7 (sign _ _ _ h) (.inr rfl) (.inl hne)
          ·split at h
           ·exact same 8 (sign _ _ _ h) (.inr (.inr (.inl rfl)))
           ·cases h
def Sy (s:DT):Prop:=s.tok.kind = 4∨s.tok.kind = 6→s.st≠[]
def Eb (kd:Nat):Int:=if kd = 4∨kd = 6 then 1 else if kd = 5∨kd = 7 then -1 else 0
structure Moves (bs:List UInt8) (s s1:DT):Prop where
 pos:s1.tok.pos = goT bs s.k 0
 lt:goT bs s.k 0 < s1.k
 kind:2≤s1.tok.kind∧s1.tok.kind≤9
 len:(s1.st.length:Int) = s.st.length+Eb s1.tok.kind
 same:Cr s1.tok.kind→s1.st = s.st
 ok:Sy s1
theorem E1 {bs:List UInt8} {s s1:DT} (hs:Sy s) (h:BN bs s = some s1) (h1:s1.tok.kind≠1):Moves bs s s1:=by
 unfold BN at h;rw [Hd] at h
 rcases hn:Bz bs s.tok.kind s.st (goT bs s.k 0) with _ | ⟨t,st,k⟩
 ·rw [hn] at h; cases h
 ·rw [hn] at h;cases h;obtain ⟨a0,a1,a2,a3,a4,a5⟩:=TK hn h1;refine ⟨a1,a0,a2,?_,fun h=>a5 (.inr (.inr h)),?_⟩
  ·show (st.length:Int) = s.st.length+Eb t.kind
   unfold Eb
   by_cases q1:t.kind = 4∨t.kind = 6
   ·rw [if_pos q1,a3 q1]; omega
   ·rw [if_neg q1]
    by_cases q2:t.kind = 5∨t.kind = 7
    ·rw [if_pos q2];obtain ⟨b1,b2⟩:=a4 q2
     have hne:s.st≠[]:=by
      rcases b2 with h | h | h
      ·exact h
      ·exact hs (.inl h)
      ·exact hs (.inr h)
     have:=List.length_pos_iff.2 hne;omega
    ·rw [if_neg q2,a5 (by unfold Cr; omega)]; omega
  ·intro hk;have:=a3 hk
   show st≠[]
   intro e;rw [e] at this;simp at this
section
variable {P v:List UInt8}
inductive Dies (P:List UInt8):DT→Prop
 | now {s:DT}:BN P s = none→Dies P s
 | later {s x:DT}:BN P s = some x→x.tok.kind≠1→Dies P x→Dies P s
theorem Dies.run {s:DT} (h:Dies P s):s.peeked = false→s.k≤P.length→∀ (f:Nat) (out:List TT),
  (¬ Cr s.tok.kind→(FE P [] f s out).2 = false)∧(Cr s.tok.kind→∀ s0,s0.peeked = false→BN P s0 = some s→(FE P [] f s0 out).2 = false):=by
 induction h with
 | @now s h=>
  intro hp hk f out
  cases f with
  | zero=>exact ⟨fun _=>rfl,fun _ _ _ _=>rfl⟩
  | succ f=>
   refine ⟨fun _=>?_,fun hc s0 hp0 h0=>?_⟩
   ·rw [Eu hp]; unfold Db; rw [h]
   ·rw [Eu hp0,IL h0 hc,h]
 | @later s x h h1 _ ih=>
  intro hp hk f out;have ho:=Ec h hk
  cases f with
  | zero=>exact ⟨fun _=>rfl,fun _ _ _ _=>rfl⟩
  | succ f=>
   refine ⟨fun _=>?_,fun hc s0 hp0 h0=>?_⟩
   ·by_cases hx:Cr x.tok.kind
    ·exact (ih ho.1 ho.2.2.1 (f+1) out).2 hx s hp h
    ·rw [Eu hp,Jg h hx];simp only;rw [if_neg h1];exact (ih ho.1 ho.2.2.1 f _).1 hx
   ·have hx:¬ Cr x.tok.kind:=by have:=ho.2.2.2.2.2.2 hc; unfold Cr; omega
    rw [Eu hp0,IL h0 hc,h];simp only;rw [if_neg h1];exact (ih ho.1 ho.2.2.1 f _).1 hx
theorem IB {s:DT} (hst:s.st≠[]) (hk:goT P s.k 0 = P.length) (h0:s.tok.kind≠0) (h1:s.tok.kind≠1):Dies P s:=by
 refine .now ?_;have hd:P.drop P.length = []:=List.drop_length;have ho:AB s.st≠0:=fun e=>hst (Jl.1 e)
 have val:∀ l cl st,BB P l cl st P.length = none:=fun l cl st=>by unfold BB; rw [hd]
 have msg:∀ b st,B4 P b st P.length = none:=fun b st=>by unfold B4; rw [hd]
 have lst:∀ st,CH P st P.length = none:=fun st=>by unfold CH; rw [hd]
 have:Bz P s.tok.kind s.st P.length = none:=by
  unfold Bz;rw [if_neg h1,if_neg h0,if_neg ho,if_neg ho,val,val,val,msg,msg,lst];simp
 unfold BN;rw [Hd,hk,this]
theorem FO (v':List UInt8) {s s1:DT} (h:BN (P++v) s = some s1) (hl:s.tok.kind≠1) (hp:goT (P++v) s.k 0 < P.length) (h2:s1.k < P.length):BN (P++v') s = some s1:=by
 have hge:=Fg (bs:=P++v) (k:=s.k) (n:=0);have hg:=GC v' (P:=P) (v:=v) (k:=s.k) (n:=0) (by omega) hp;obtain ⟨c,r,_,hd⟩:=Nr hp;unfold BN at h ⊢;rw [Hd] at h ⊢;rw [hg];generalize hk:goT (P++v) s.k 0 = k at *
 have tail:∀ {o o':Option (TT × Nat)} {st':List UInt8},Bz (P++v) s.tok.kind s.st k = Aw st' o→Bz (P++v') s.tok.kind s.st k = Aw st' o'→(∀ x,o = some x→x.2 < P.length→o' = some x)→(match Bz (P++v') s.tok.kind s.st k with
   | none=>none
   | some (t,st,k)=>some ⟨false,t,s.bad,st,k⟩) = some s1:=by
  intro o o' st' e1 e2 hx;rw [e1] at h;rw [e2]
  rcases o with _ | ⟨t,k2⟩
  ·cases h
  ·have hs:some ⟨false,t,s.bad,st',k2⟩ = some s1:=h
   have h3:k2 < P.length:=by cases hs; exact h2
   rw [hx _ rfl h3];exact hs
 rcases Uz (hd v) (hd v') hl (st:=s.st) with ⟨e1,e2⟩ | ⟨kd,st',e1,e2⟩ | ⟨e1,e2⟩ | ⟨e1,e2⟩
 ·rw [e1] at h; cases h
 ·exact tail e1 e2 fun x hx h3=>by cases hx; exact congrArg some (JL v' rfl h3)
 ·exact tail e1 e2 fun x hx h3=>QH v' hx hp h3
 ·exact tail e1 e2 fun x hx h3=>O5 v' hx hp h3
theorem Ro {k:Nat} (hk:k≤P.length) (h:¬ goT (P++v) k 0 < P.length):goT P k 0 = P.length:=by
 have h1:=(DU (bs:=P) (k:=k) (n:=0) (by omega)).2
 by_cases h2:goT P k 0 < P.length
 ·exfalso
  have:=GC v (P:=P) (v:=[]) (k:=k) (n:=0) (by omega) (by rw [List.append_nil]; exact h2);rw [List.append_nil] at this;omega
 ·omega
theorem Km {s s1:DT} (h:BN (P++v) s = some s1) (hl:s.tok.kind≠1) (hsk:s.k≤P.length) (hp:goT (P++v) s.k 0 < P.length) (h2:¬ s1.k < P.length):BN P s = none∨∃ x,BN P s = some x∧x.st = s1.st∧x.tok.kind = s1.tok.kind∧goT P x.k 0 = P.length:=by
 rcases hx:BN P s with _ | x
 ·exact .inl rfl
 ·refine .inr ⟨x,rfl,?_⟩;have hxk:x.k≤P.length:=(Ec hx hsk).2.2.1
  have hgP:goT P s.k 0 = goT (P++v) s.k 0:=by
   have hge:=Fg (bs:=P++v) (k:=s.k) (n:=0);have:=GC [] (P:=P) (v:=v) (k:=s.k) (n:=0) (by omega) hp;rwa [List.append_nil] at this
  have hx1:¬ x.k < P.length:=by
   intro h3;have:=FO v (P:=P) (v:=[]) (s:=s) (s1:=x) (by rw [List.append_nil]; exact hx) hl (by rw [List.append_nil,hgP]; exact hp) h3;rw [h] at this;cases this;exact h2 h3
  have hxe:x.k = P.length:=by omega
  -- the same kind of token
  obtain ⟨c,r,hP,hd⟩:=Nr hp;unfold BN at h hx;rw [Hd] at h hx;rw [hgP] at hx;generalize goT (P++v) s.k 0 = k at *
  have hge:goT P x.k 0 = P.length:=by
   have a:=(DU (bs:=P) (k:=x.k) (n:=0) (by omega));omega
  have fin:∀ {o o':Option (TT × Nat)} {st':List UInt8},Bz (P++v) s.tok.kind s.st k = Aw st' o→Bz P s.tok.kind s.st k = Aw st' o'→(∀ y z,o = some y→o' = some z→z.1.kind = y.1.kind)→x.st = s1.st∧x.tok.kind = s1.tok.kind∧goT P x.k 0 = P.length:=by
   intro o o' st' e1 e2 hk;rw [e1] at h;rw [e2] at hx
   rcases o with _ | ⟨t,k2⟩
   ·cases h
   ·rcases o' with _ | ⟨t',k3⟩
    ·cases hx
    ·have hs1:some ⟨false,t,s.bad,st',k2⟩ = some s1:=h;have hs2:some ⟨false,t',s.bad,st',k3⟩ = some x:=hx;have:=hk _ _ rfl rfl;cases hs1;cases hs2;exact ⟨rfl,this,hge⟩
  rcases Uz (b1:=P++v) (b2:=P) (hd v) hP hl (st:=s.st) with ⟨e1,e2⟩ | ⟨kd,st',e1,e2⟩ | ⟨e1,e2⟩ | ⟨e1,e2⟩
  ·rw [e1] at h; cases h
  ·exact fin e1 e2 fun y z hy hz=>by cases hy; cases hz; rfl
  ·exact fin e1 e2 fun y z hy hz=>by rw [(Jx hy).1,(Jx hz).1]
  ·exact fin e1 e2 fun y z hy hz=>by rw [(Il hy).1,(Il hz).1]
def B5:Nat→List (Nat × Nat)→Option Nat
 | _,[]=>none
 | d,(kd,pos)::l=>if kd = 4∨kd = 6 then B5 (d+1) l else if kd = 5∨kd = 7 then (if d = 1 then some pos else B5 (d - 1) l) else B5 d l
theorem Dq (d kd pos:Nat) (l:List (Nat × Nat)):B5 d ((kd,pos)::l) = if kd = 4∨kd = 6 then B5 (d+1) l else if kd = 5∨kd = 7 then (if d = 1 then some pos else B5 (d - 1) l) else B5 d l:=rfl
def kpT (t:TT):Nat × Nat:=(t.kind,t.pos)
theorem Ur {s t:DT} {l:List TT} (hc:Chain (P++v) s l t):∀ (d e:Nat),s.st.length = d→1≤d→B5 d (l.map kpT) = some e→P.length≤e→s.k≤P.length→s.tok.kind≠0→s.tok.kind≠1→Sy s→Dies P s:=by
 induction hc with
 | nil s=>intro d e _ _ h; cases h
 | @tok s s1 t l h1 h2 h3 _ ih=>
  intro d e hd hd1 hcl he hk h0 hn1 hok;have hm:=E1 hok h1 h3;rw [List.map_cons] at hcl;unfold kpT at hcl;rw [Dq] at hcl;have hlen:=hm.len;unfold Eb at hlen
  by_cases hp:goT (P++v) s.k 0 < P.length
  ·
   obtain ⟨d1,e1,e2,e3⟩:∃ d1,s1.st.length = d1∧1≤d1∧B5 d1 (l.map kpT) = some e:=by
    by_cases q1:s1.tok.kind = 4∨s1.tok.kind = 6
    ·rw [if_pos q1] at hcl hlen; exact ⟨d+1,by omega,by omega,hcl⟩
    ·rw [if_neg q1] at hcl hlen
     by_cases q2:s1.tok.kind = 5∨s1.tok.kind = 7
     ·rw [if_pos q2] at hcl hlen
      by_cases q3:d = 1
      ·rw [if_pos q3] at hcl;have:=hm.pos;cases hcl;omega
      ·rw [if_neg q3] at hcl; exact ⟨d - 1,by omega,by omega,hcl⟩
     ·rw [if_neg q2] at hcl hlen; exact ⟨d,by omega,by omega,hcl⟩
   by_cases hs1:s1.k < P.length
   ·have:=FO [] h1 hn1 hp hs1;rw [List.append_nil] at this;exact .later this h3 (ih d1 e e1 e2 e3 he (by omega) (by have:=hm.kind; omega) h3 hm.ok)
   ·rcases Km h1 hn1 hk hp hs1 with hx | ⟨x,hx,x1,x2,x3⟩
    ·exact .now hx
    ·exact .later hx (by rw [x2]; exact h3) (IB (by rw [x1]; intro e; rw [e] at e1; simp at e1; omega) x3 (by rw [x2]; have:=hm.kind; omega) (by rw [x2]; exact h3))
  ·exact IB (by intro e; rw [e] at hd; simp at hd; omega) (Ro hk hp) h0 hn1
 | @comma s s1 t l h1 h2 _ ih=>
  intro d e hd hd1 hcl he hk h0 hn1 hok
  have h3:s1.tok.kind≠1:=by unfold Cr at h2; omega
  have hm:=E1 hok h1 h3
  by_cases hp:goT (P++v) s.k 0 < P.length
  ·by_cases hs1:s1.k < P.length
   ·have:=FO [] h1 hn1 hp hs1;rw [List.append_nil] at this;exact .later this h3 (ih d e (by rw [hm.same h2]; exact hd) hd1 hcl he (by omega) (by have:=hm.kind; omega) h3 hm.ok)
   ·rcases Km h1 hn1 hk hp hs1 with hx | ⟨x,hx,x1,x2,x3⟩
    ·exact .now hx
    ·exact .later hx (by rw [x2]; exact h3) (IB (by rw [x1,hm.same h2]; intro e; rw [e] at hd; simp at hd; omega) x3 (by rw [x2]; have:=hm.kind; omega) (by rw [x2]; exact h3))
  ·exact IB (by intro e; rw [e] at hd; simp at hd; omega) (Ro hk hp) h0 hn1
def FM:List (Nat × Nat)→Int
 | []=>0
 | (kd,_)::l=>Eb kd+FM l
theorem Chain.places {bs:List UInt8} {s t:DT} {l:List TT} (h:Chain bs s l t):Sy s→s.k≤bs.length→∀ x ∈ l,s.k≤x.pos∧x.pos < bs.length:=by
 induction h with
 | nil s=>intro _ _ x hx; simp at hx
 | @tok s s1 t l h1 h2 h3 _ ih=>
  intro hok hk x hx;have ho:=Ec h1 hk;have hm:=E1 hok h1 h3;have hge:=Fg (bs:=bs) (k:=s.k) (n:=0);have hlt:=hm.lt;have hps:=hm.pos
  rcases List.mem_cons.1 hx with rfl | hx
  ·have:=ho.2.2.1; omega
  ·have:=ih hm.ok ho.2.2.1 x hx; omega
 | @comma s s1 t l h1 h2 _ ih=>
  intro hok hk x hx;have ho:=Ec h1 hk
  have h3:s1.tok.kind≠1:=by unfold Cr at h2; omega
  have hm:=E1 hok h1 h3;have hge:=Fg (bs:=bs) (k:=s.k) (n:=0);have hlt:=hm.lt;have:=ih hm.ok ho.2.2.1 x hx; omega
theorem cut_all {s t:DT} {L:List TT} (hc:Chain (P++v) s L t):∀ (l0:List TT) (t0:TT) (l1:List TT) (e:Nat),L = l0++t0::l1→Sy s→s.tok.kind≠1→s.k≤P.length→(t0.kind = 4∨t0.kind = 6)→t0.pos < P.length→(s.st.length:Int)+FM (l0.map kpT) = 0→B5 1 (l1.map kpT) = some e→P.length≤e→Dies P s:=by
 induction hc with
 | nil s=>intro l0 t0 l1 e h; simp at h
 | @tok s s1 t l h1 h2 h3 hc ih=>
  intro l0 t0 l1 e hL hok hn1 hk ht0 hp0 hdep hcl he;have hm:=E1 hok h1 h3;have hlen:=hm.len;have hps:=hm.pos
  have hkl:s.k≤(P++v).length:=by rw [List.length_append]; omega
  cases l0 with
  | nil=>
   rw [List.nil_append] at hL
   injection hL with q1 q2
   subst q1 q2;simp only [List.map_nil,FM] at hdep;unfold Eb at hlen;rw [if_pos ht0] at hlen
   have hp:goT (P++v) s.k 0 < P.length:=by omega
   by_cases hs1:s1.k < P.length
   ·have:=FO [] h1 hn1 hp hs1;rw [List.append_nil] at this;exact .later this h3 (Ur hc 1 e (by omega) (Nat.le_refl _) hcl he (by omega) (by have:=hm.kind; omega) h3 hm.ok)
   ·rcases Km h1 hn1 hk hp hs1 with hx | ⟨x,hx,x1,x2,x3⟩
    ·exact .now hx
    ·exact .later hx (by rw [x2]; exact h3) (IB (by rw [x1]; intro e; rw [e] at hlen; simp at hlen; omega) x3 (by rw [x2]; have:=hm.kind; omega) (by rw [x2]; exact h3))
  | cons y l0=>
   rw [List.cons_append] at hL
   injection hL with q1 q2
   subst q1;have hpl:=(hc.places hm.ok (Ec h1 hkl).2.2.1 t0 (by rw [q2]; simp)).1;have hlt:=hm.lt;have:=FO [] h1 hn1 (by omega) (by omega);rw [List.append_nil] at this;rw [List.map_cons] at hdep;unfold kpT at hdep;simp only [FM] at hdep;exact .later this h3 (ih l0 t0 l1 e q2 hm.ok h3 (by omega) ht0 hp0 (by show (s1.st.length:Int)+FM (l0.map fun t=>(t.kind,t.pos)) = 0; omega) hcl he)
 | @comma s s1 t l h1 h2 hc ih=>
  intro l0 t0 l1 e hL hok hn1 hk ht0 hp0 hdep hcl he
  have h3:s1.tok.kind≠1:=by unfold Cr at h2; omega
  have hm:=E1 hok h1 h3
  have hkl:s.k≤(P++v).length:=by rw [List.length_append]; omega
  have hpl:=(hc.places hm.ok (Ec h1 hkl).2.2.1 t0 (by rw [hL]; simp)).1;have hlt:=hm.lt;have:=FO [] h1 hn1 (by omega) (by omega);rw [List.append_nil] at this;exact .later this h3 (ih l0 t0 l1 e hL hm.ok h3 (by omega) ht0 hp0 (by rw [hm.same h2]; exact hdep) hcl he)
end
def DN (odd:Bool) (x:Nat × Nat) (s:Int × Int × Int):Int × Int × Int:=
 if x.1 = 4∨x.1 = 6 then (if s.1 = 0∧(s.2.1 < 0∨odd = true) then (s.1+1,(x.2:Int),-1) else (s.1+1,s.2.1,s.2.2))
 else if x.1 = 5∨x.1 = 7 then (if s.1 - 1 = 0∧s.2.2 < 0 then (s.1 - 1,s.2.1,(x.2:Int)) else (s.1 - 1,s.2.1,s.2.2)) else s
def KL (odd:Bool):List (Nat × Nat)→Int × Int × Int→Int × Int × Int
 | [],s=>s
 | x::l,s=>KL odd l (DN odd x s)
theorem Nw:∀ (l:List (Nat × Nat)) (x:Nat × Nat),FM (l++[x]) = FM l+Eb x.1
 | [],x=>by simp [FM]
 | y::l,x=>by
  rw [List.cons_append];obtain ⟨a,b⟩:=y;simp only [FM,Nw l x];omega
theorem PT:∀ (l m:List (Nat × Nat)),FM (l++m) = FM l+FM m
 | [],m=>by simp [FM]
 | (a,b)::l,m=>by
  rw [List.cons_append];simp only [FM,PT l m];omega
theorem Dp:∀ (l:List (Nat × Nat)) (d:Nat),1≤d→(∀ e,B5 d l = some e→∀ x,B5 d (l++[x]) = some e)∧(B5 d l = none→1≤(d:Int)+FM l∧∀ x,B5 d (l++[x]) = B5 ((d:Int)+FM l).toNat [x])
 | [],d,hd=>⟨(by intro e h; cases h),fun _=>⟨by simp [FM]; omega,fun x=>by simp [FM]⟩⟩
 | (kd,pos)::l,d,hd=>by
  simp only [List.cons_append,Dq,FM]
  by_cases q1:kd = 4∨kd = 6
  ·simp only [if_pos q1];obtain ⟨h1,h2⟩:=Dp l (d+1) (by omega)
   have hdl:Eb kd = 1:=by unfold Eb; rw [if_pos q1]
   refine ⟨h1,fun h=>?_⟩;obtain ⟨g1,g2⟩:=h2 h;rw [hdl];refine ⟨by omega,fun x=>?_⟩;rw [g2 x]
   congr 1
   omega
  ·simp only [if_neg q1]
   by_cases q2:kd = 5∨kd = 7
   ·simp only [if_pos q2]
    have hdl:Eb kd = -1:=by unfold Eb; rw [if_neg q1,if_pos q2]
    by_cases q3:d = 1
    ·simp only [if_pos q3];exact ⟨fun e h _=>h,(by intro h; cases h)⟩
    ·simp only [if_neg q3];obtain ⟨h1,h2⟩:=Dp l (d - 1) (by omega);refine ⟨h1,fun h=>?_⟩;obtain ⟨g1,g2⟩:=h2 h;rw [hdl];refine ⟨by omega,fun x=>?_⟩;rw [g2 x]
     congr 1
     omega
   ·simp only [if_neg q2]
    have hdl:Eb kd = 0:=by unfold Eb; rw [if_neg q1,if_neg q2]
    obtain ⟨h1,h2⟩:=Dp l d hd;refine ⟨h1,fun h=>?_⟩;obtain ⟨g1,g2⟩:=h2 h;rw [hdl];refine ⟨by omega,fun x=>?_⟩;rw [g2 x]
    congr 1
    omega
def NC (pre:List (Nat × Nat)) (s:Int × Int × Int):Prop:=s.1 = FM pre∧(s.2.1 < 0∨∃ l0 kd l1,pre = l0++(kd,s.2.1.toNat)::l1∧0≤s.2.1∧FM l0 = 0∧(kd = 4∨kd = 6)∧((s.2.2 < 0∧B5 1 l1 = none)∨(0≤s.2.2∧B5 1 l1 = some s.2.2.toNat)))
theorem QF {odd:Bool} {pre:List (Nat × Nat)} {s:Int × Int × Int} (x:Nat × Nat) (h:NC pre s):NC (pre++[x]) (DN odd x s):=by
 obtain ⟨deep,fr,en⟩:=s;obtain ⟨kx,px⟩:=x;obtain ⟨h1,h2⟩:=h;simp only at h1 h2;unfold NC;rw [Nw];unfold DN;simp only
 -- the old one goes on
 have old:∀ en':Int,(∀ l1,((en < 0∧B5 1 l1 = none)∨(0≤en∧B5 1 l1 = some en.toNat))→(1:Int)+FM l1 = deep→((en' < 0∧B5 1 (l1++[(kx,px)]) = none)∨(0≤en'∧B5 1 (l1++[(kx,px)]) = some en'.toNat)))→
   (fr < 0∨∃ l0 kd l1,pre++[(kx,px)] = l0++(kd,fr.toNat)::l1∧0≤fr∧FM l0 = 0∧(kd = 4∨kd = 6)∧((en' < 0∧B5 1 l1 = none)∨(0≤en'∧B5 1 l1 = some en'.toNat))):=by
  intro en' hx
  rcases h2 with h2 | ⟨l0,kd,l1,e1,e2,e3,e4,e5⟩
  ·exact .inl h2
  ·refine .inr ⟨l0,kd,l1++[(kx,px)],by rw [e1]; simp,e2,e3,e4,hx l1 e5 ?_⟩;rw [h1,e1,PT];simp only [FM]
   have:Eb kd = 1:=by unfold Eb; rw [if_pos e4]
   omega
 by_cases q1:kx = 4∨kx = 6
 ·have hdl:Eb kx = 1:=by unfold Eb; rw [if_pos q1]
  rw [if_pos q1]
  by_cases q2:deep = 0∧(fr < 0∨odd = true)
  ·rw [if_pos q2];simp only;refine ⟨by omega,.inr ⟨pre,kx,[],by simp,by omega,by omega,q1,.inl ⟨by omega,rfl⟩⟩⟩
  ·rw [if_neg q2];simp only;refine ⟨by omega,old en fun l1 hl1 hd=>?_⟩;obtain ⟨g1,g2⟩:=Dp l1 1 (Nat.le_refl _)
   rcases hl1 with ⟨a,b⟩ | ⟨a,b⟩
   ·refine .inl ⟨a,?_⟩;rw [(g2 b).2 (kx,px),Dq,if_pos q1]; rfl
   ·exact .inr ⟨a,g1 _ b _⟩
 ·rw [if_neg q1]
  by_cases q3:kx = 5∨kx = 7
  ·have hdl:Eb kx = -1:=by unfold Eb; rw [if_neg q1,if_pos q3]
   rw [if_pos q3]
   by_cases q4:deep - 1 = 0∧en < 0
   ·rw [if_pos q4];simp only;refine ⟨by omega,old (px:Int) fun l1 hl1 hd=>?_⟩;obtain ⟨g1,g2⟩:=Dp l1 1 (Nat.le_refl _)
    rcases hl1 with ⟨a,b⟩ | ⟨a,b⟩
    ·refine .inr ⟨by omega,?_⟩;rw [(g2 b).2 (kx,px),Dq,if_neg q1,if_pos q3,if_pos (by omega)];simp
    ·omega
   ·rw [if_neg q4];simp only;refine ⟨by omega,old en fun l1 hl1 hd=>?_⟩;obtain ⟨g1,g2⟩:=Dp l1 1 (Nat.le_refl _)
    rcases hl1 with ⟨a,b⟩ | ⟨a,b⟩
    ·refine .inl ⟨a,?_⟩;rw [(g2 b).2 (kx,px),Dq,if_neg q1,if_pos q3,if_neg (by have:=(g2 b).1; omega)];rfl
    ·exact .inr ⟨a,g1 _ b _⟩
  ·have hdl:Eb kx = 0:=by unfold Eb; rw [if_neg q1,if_neg q3]
   rw [if_neg q3];refine ⟨by simp only; omega,old en fun l1 hl1 hd=>?_⟩;obtain ⟨g1,g2⟩:=Dp l1 1 (Nat.le_refl _)
   rcases hl1 with ⟨a,b⟩ | ⟨a,b⟩
   ·refine .inl ⟨a,?_⟩;rw [(g2 b).2 (kx,px),Dq,if_neg q1,if_neg q3];rfl
   ·exact .inr ⟨a,g1 _ b _⟩
theorem Ns (odd:Bool):∀ (l pre:List (Nat × Nat)) (s:Int × Int × Int),NC pre s→NC (pre++l) (KL odd l s)
 | [],pre,s,h=>by rw [List.append_nil]; exact h
 | x::l,pre,s,h=>by
  have:=Ns odd l (pre++[x]) (DN odd x s) (QF x h);rwa [List.append_assoc,List.singleton_append] at this
theorem QE:NC [] (0,-1,-1):=⟨rfl,.inl (by decide)⟩
theorem GG:∀ (l:List (Nat × Nat)) (d e:Nat),B5 d l = some e→∃ kd,(kd,e) ∈ l
 | [],_,_,h=>by cases h
 | (kd,pos)::l,d,e,h=>by
  rw [Dq] at h;have up:(∃ k,(k,e) ∈ l)→∃ k,(k,e) ∈ (kd,pos)::l:=fun ⟨k,hk⟩=>⟨k,List.mem_cons_of_mem _ hk⟩
  split at h
  ·exact up (GG l _ e h)
  ·split at h
   ·split at h
    ·cases h; exact ⟨kd,by simp⟩
    ·exact up (GG l _ e h)
   ·exact up (GG l _ e h)
def kpX (t:TX):Nat × Nat:=(t.kind,t.pos)
theorem ToksOk.kp {l:List TT} {m:List TX} (h:ToksOk l m):l.map kpT = m.map kpX:=by
 induction h with
 | nil=>rfl
 | cons h1 _ ih=>rw [List.map_cons,List.map_cons,ih]; unfold kpT kpX; rw [←h1.kind,←h1.pos]; rfl
theorem K0 (ps:List UInt8) (odd:Bool) {deep fr en:Int} (h:KL odd ((BL ps).l.map kpX) (0,-1,-1) = (deep,fr,en)) (h0:0≤fr) (h1:fr < en) (m:Nat) (hm1:fr.toNat < m) (hm2:m≤en.toNat) :
  m≤(BL ps).out.length∧(Gp ((BL ps).out.take m) []).2 = false:=by
 obtain ⟨a,Y,hc,ht⟩:=OE ps;have hf:=Ns odd ((BL ps).l.map kpX) [] (0,-1,-1) QE;rw [List.nil_append,h] at hf;obtain ⟨_,hf⟩:=hf;simp only at hf
 rcases hf with hf | ⟨l0,kd,l1,e1,_,e3,e4,e5⟩
 ·omega
 rcases e5 with e5 | ⟨_,e5⟩
 ·omega
 rw [←ht.kp] at e1;obtain ⟨Y0,Y1',hY,f1,f2⟩:=List.map_eq_append_iff.1 e1;obtain ⟨t0,Y1,hY1,f3,f4⟩:=List.map_eq_cons_iff.1 f2;subst hY1
 have hnew:Sy DT.new:=by intro h; simp [DT.new,TT.zero] at h
 have hpl:=hc.places hnew (Nat.zero_le _);obtain ⟨ke,hke⟩:=GG _ _ _ e5;rw [←f4] at hke;obtain ⟨te,hte,hte2⟩:=List.mem_map.1 hke
 have hlen:en.toNat < (BL ps).out.length:=by
  have:=(hpl te (by rw [hY]; simp [hte])).2
  have e:te.pos = en.toNat:=by have:=congrArg Prod.snd hte2; exact this
  omega
 have hml:m≤(BL ps).out.length:=by omega
 refine ⟨hml,?_⟩;generalize hbs:(BL ps).out = bs at *;obtain ⟨P,v,hPv,hPm⟩:∃ P v,bs = P++v∧P.length = m:=⟨bs.take m,bs.drop m,(List.take_append_drop m bs).symm,by rw [List.length_take]; omega⟩
 have hP:bs.take m = P:=by rw [hPv,←hPm,List.take_left]
 rw [hP];rw [hPv] at hc;have hp0:t0.kind = kd∧t0.pos = fr.toNat:=⟨congrArg Prod.fst f3,congrArg Prod.snd f3⟩;have hd:=cut_all hc Y0 t0 Y1 en.toNat hY hnew (by simp [DT.new,TT.zero]) (Nat.zero_le _) (by rw [hp0.1]; exact e4) (by rw [hp0.2]; omega) (by rw [f1]; simpa [DT.new] using e3) (by rw [f4]; exact e5) (by omega);exact (hd.run rfl (Nat.zero_le _) _ []).1 (by unfold Cr; decide)
end Go.Proofs.YtgdnpnipahegaaaGreatDoor
