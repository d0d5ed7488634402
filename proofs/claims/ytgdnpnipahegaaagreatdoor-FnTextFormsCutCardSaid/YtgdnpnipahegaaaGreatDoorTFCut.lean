/-
 A message that the reference's writer writes, cut within a message or a list of it, is refused by the package's reader. Plain functions.
-/
import Derived.Test.YtgdnpnipahegaaaGreatDoorTFLoc
namespace Go.Proofs.YtgdnpnipahegaaaGreatDoor
section
variable {P v:List UInt8} (v':List UInt8)
theorem Kl {k:Nat} (h:k≤P.length):(P++v).drop k = P.drop k++v:=Da h
theorem Gk {k n:Nat} (h:k+n≤P.length) (h2:goT (P++v) k n < P.length):goT (P++v') k n = goT (P++v) k n:=by
 unfold goT at h2 ⊢;rw [Kl h] at h2 ⊢;rw [Kl h,Ih (v:=v) v' (by rw [List.length_drop]; omega)]
theorem E9 {bs:List UInt8} {k n:Nat}:k+n≤goT bs k n:=by unfold goT; omega
theorem Jd {k n kd at_:Nat} {x:TT × Nat} (h:Ax (P++v) k kd n at_ = x) (h2:x.2 < P.length):Ax (P++v') k kd n at_ = x:=by
 subst h;have h3:goT (P++v) k n < P.length:=h2;have h4:=E9 (bs:=P++v) (k:=k) (n:=n);unfold Ax;rw [Gk v' (by omega) h3,Kl (by omega),Kl (by omega),Ck (by rw [List.length_drop]; omega),Ck (by rw [List.length_drop]; omega)]
theorem Mx {k:Nat} (h:k < P.length):∃ c r,P.drop k = c::r∧∀ w,(P++w).drop k = c::(r++w):=by
 obtain ⟨c,r,hd⟩:=Fv h;exact ⟨c,r,hd,fun w=>by rw [Da (by omega),hd]; rfl⟩
theorem PZ {bs:List UInt8} {t:TT} {k:Nat}:k≤(Fj bs (t,k)).2:=by
 rcases hd:bs.drop k with _ | ⟨c,r⟩
 ·rw [K0 hd]; exact Nat.le_refl _
 ·rw [Eo hd]
  split
  ·have:=E9 (bs:=bs) (k:=k) (n:=1); simp; omega
  ·exact Nat.le_refl _
theorem RS {t:TT} {k:Nat} {x:TT × Nat} (h:Fj (P++v) (t,k) = x) (h2:x.2 < P.length):Fj (P++v') (t,k) = x:=by
 have hk:k < P.length:=by have:=PZ (bs:=P++v) (t:=t) (k:=k); rw [h] at this; omega
 obtain ⟨c,r,_,hd⟩:=Mx hk;rw [Eo (hd v)] at h;rw [Eo (hd v')]
 split at h
 ·rename_i hc
  rw [if_pos hc];subst h;rw [Gk v' (by omega) h2]
 ·rename_i hc
  rw [if_neg hc]; exact h
theorem Qz {k:Nat} {x:TT × Nat} (h:D5 (P++v) k = some x) (hk:k < P.length) (h2:x.2 < P.length):D5 (P++v') k = some x:=by
 unfold D5 at h ⊢;have hl:∀ w,tnF ((P++w).length+1) (csT ((P++w).drop (k+1))) [] = tnT (csT ((P++w).drop (k+1))) []:=fun w=>MW (by have:=C3 ((P++w).drop (k+1)); rw [List.length_drop] at this; omega);rw [hl] at h ⊢
 rcases ht:tnT (csT ((P++v).drop (k+1))) [] with _ | ⟨name,r⟩
 ·rw [ht] at h; cases h
 ·rw [ht] at h;simp only at h
  split at h
  ·rename_i hok
   cases h;simp only at h2;have hge:=E9 (bs:=P++v) (k:=(P++v).length - r.length) (n:=0);have hrl:=MV ht;have hcl:=C3 ((P++v).drop (k+1));rw [List.length_drop] at hcl
   have hvr:v.length≤r.length:=by rw [List.length_append] at hge h2 hcl; omega
   rw [Kl (by omega)] at ht;obtain ⟨r0,e1,e2⟩:=MX v' (P.drop (k+1)).length (P.drop (k+1)) [] name r (Nat.le_refl _) ht hvr;rw [Kl (by omega),e2];simp only;rw [if_pos hok];subst e1
   have e3:(P++v').length - (r0++v').length = (P++v).length - (r0++v).length:=by simp only [List.length_append]; omega
   have h4:(P++v).length - (r0++v).length < P.length:=by omega
   rw [e3,Gk v' (by omega) h2,Kl (by omega),Kl (by omega),Ck (by rw [List.length_drop]; omega),Ck (by rw [List.length_drop]; omega)]
  ·cases h
theorem PI {k:Nat} {x:TT × Nat} (h:Bf (P++v) k = some x) (hk:k < P.length) (h2:x.2 < P.length):Bf (P++v') k = some x:=by
 obtain ⟨c,r,hP,hd⟩:=Mx hk
 have hrl:r.length+1 = P.length - k:=by have:=congrArg List.length hP; rw [List.length_drop] at this; simpa using this.symm
 -- the token itself,ahead of its colon
 have sep:∀ {y:TT × Nat} {o:Option (TT × Nat)},(y.2 < P.length→o = some y)→(some y).map (Fj (P++v)) = some x→o.map (Fj (P++v')) = some x:=by
  intro y o ho hs;obtain ⟨t,k1⟩:=y
  have hs':Fj (P++v) (t,k1) = x:=by simpa using hs
  have h3:k1 < P.length:=by have:=PZ (bs:=P++v) (t:=t) (k:=k1); rw [hs'] at this; omega
  rw [ho h3];simp only [Option.map_some];rw [RS v' hs' h2]
 unfold Bf at h ⊢;rw [hd v] at h;rw [hd v'];simp only at h ⊢
 by_cases h91:c.toNat = 91
 ·rw [if_pos h91] at h ⊢
  rcases ht:D5 (P++v) k with _ | y
  ·rw [ht] at h; cases h
  ·rw [ht] at h;exact sep (fun h3=>Qz v' ht hk h3) h
 ·rw [if_neg h91] at h ⊢;rw [←List.cons_append] at h ⊢
  by_cases hi:A8 false (c::r++v) = 0
  ·rw [if_neg (by simpa using hi)] at h
   rcases hn:EM (c::r++v) with _ | z
   ·rw [hn] at h; cases h
   ·rw [hn] at h;simp only at h;have hz:=E1 hn
    split at h
    ·rename_i hc
     refine sep (fun h3=>?_) h
     have h4:k+z.size < P.length:=by have:=E9 (bs:=P++v) (k:=k) (n:=z.size); have h5:goT (P++v) k z.size < P.length:=h3; omega
     have hn':=Ol v' hn (by rw [List.length_cons]; omega);rw [if_neg (by rw [Ke hn']; simp),hn'];simp only;rw [Om v' (v:=v) hz.1 (by rw [List.length_cons]; omega),if_pos hc];exact congrArg some (Jd v' rfl h3)
    ·cases h
  ·rw [if_pos hi] at h;refine sep (fun h3=>?_) h
   have h4:k+A8 false (c::r++v) < P.length:=by have:=E9 (bs:=P++v) (k:=k) (n:=A8 false (c::r++v)); have h5:goT (P++v) k (A8 false (c::r++v)) < P.length:=h3; omega
   have hi':=LF v' (neg:=false) (u:=c::r) (v:=v) rfl hi (by rw [List.length_cons]; omega);rw [hi',if_pos hi];exact congrArg some (Jd v' rfl h3)
theorem L5:∀ (f f' k:Nat) (out s:List UInt8) (k':Nat),C5 (P++v) f k out = some (s,k')→k≤k'→k' < P.length→P.length - k < f'→C5 (P++v') f' k out = some (s,k')
 | 0,_,_,_,_,_,h,_,_,_=>by cases h
 | f+1,f',k,out,s,k',h,hk,h2,hf=>by
  obtain ⟨c,r,hP,hd⟩:=Mx (P:=P) (k:=k) (by omega)
  have hrl:r.length+1 = P.length - k:=by have:=congrArg List.length hP; rw [List.length_drop] at this; simpa using this.symm
  obtain ⟨g,rfl⟩:∃ g,f' = g+1:=⟨f' - 1,by omega⟩;rw [G1,hd v] at h;rw [G1,hd v'];simp only at h ⊢
  split at h
  ·rename_i hq
   rw [if_pos hq]
   rcases hs:AZ c.toNat (r++v) [] with _ | ⟨t,n⟩
   ·rw [hs] at h; cases h
   ·rw [hs] at h;simp only at h;have hlen:=Ie hs;rw [List.length_append] at hlen
    have hkb:goT (P++v) k ((r++v).length+1 - n)≤(P++v).length:=by
     refine (DO ?_).2;rw [List.length_append,List.length_append]; omega
    have hk1:=(Jh f _ _ _ _ h hkb).1;have hge:=E9 (bs:=P++v) (k:=k) (n:=(r++v).length+1 - n);rw [List.length_append] at hge hk1 h
    have hn:v.length≤n:=by omega
    have hs':=KV v' hq r.length r [] t n (Nat.le_refl _) hs hn;rw [hs'];simp only
    have e:(r++v').length+1 - (n - v.length+v'.length) = r.length+v.length+1 - n:=by rw [List.length_append]; omega
    have hgc:goT (P++v') k (r.length+v.length+1 - n) = goT (P++v) k (r.length+v.length+1 - n):=Gk v' (by omega) (by omega);rw [e,hgc];exact L5 f g _ _ s k' h hk1 h2 (by omega)
  ·rename_i hq
   rw [if_neg hq]; exact h
theorem N5 {k:Nat} {x:TT × Nat} (h:Bg (P++v) k = some x) (hk:k < P.length) (h2:x.2 < P.length):Bg (P++v') k = some x:=by
 obtain ⟨c,r,hP,hd⟩:=Mx hk
 have hrl:r.length+1 = P.length - k:=by have:=congrArg List.length hP; rw [List.length_drop] at this; simpa using this.symm
 unfold Bg at h ⊢;rw [hd v] at h;rw [hd v'];simp only at h ⊢
 split at h
 ·rename_i hq
  rw [if_pos hq]
  rcases hs:C5 (P++v) ((P++v).length+1) k [] with _ | ⟨s,k'⟩
  ·rw [hs] at h; cases h
  ·rw [hs] at h;cases h;simp only at h2;have hle:=(Jh _ _ _ _ _ hs (by rw [List.length_append]; omega)).1;rw [L5 v' _ ((P++v').length+1) k [] s k' hs hle h2 (by rw [List.length_append]; omega)];simp only;rw [←List.cons_append,←List.cons_append,Ck (by rw [List.length_cons]; omega),Ck (by rw [List.length_cons]; omega)]
 ·rename_i hq
  rw [if_neg hq];rw [←List.cons_append] at h ⊢
  by_cases hi:A8 true (c::r++v) = 0
  ·rw [if_neg (by simpa using hi)] at h
   rcases hn:EM (c::r++v) with _ | z
   ·rw [hn] at h; cases h
   ·rw [hn] at h;cases h;simp only at h2;have hz:=E1 hn
    have h4:k+z.size < P.length:=by have:=E9 (bs:=P++v) (k:=k) (n:=z.size); omega
    have hn':=Ol v' hn (by rw [List.length_cons]; omega);rw [if_neg (by rw [Ke hn']; simp),hn'];simp only;rw [Om v' (v:=v) hz.1 (by rw [List.length_cons]; omega),Gk v' (by omega) h2,Ck (by rw [List.length_cons]; omega),Ck (by rw [List.length_cons]; omega)]
  ·rw [if_pos hi] at h;cases h;have h2':goT (P++v) k (A8 true (c::r++v)) < P.length:=h2
   have h4:k+A8 true (c::r++v) < P.length:=by have:=E9 (bs:=P++v) (k:=k) (n:=A8 true (c::r++v)); omega
   have hi':=LF v' (neg:=true) (u:=c::r) (v:=v) rfl hi (by rw [List.length_cons]; omega);rw [hi',if_pos hi];exact congrArg some (Jd v' rfl h2)
end
inductive ActC (last:Nat) (st:List UInt8) (k:Nat) (b1 b2:List UInt8):Prop
 | none:Bv b1 last st k = none→Bv b2 last st k = none→ActC last st k b1 b2
 | sign (kd:Nat) (st':List UInt8):Bv b1 last st k = Ar st' (some (Ax b1 k kd 1 0))→Bv b2 last st k = Ar st' (some (Ax b2 k kd 1 0))→ActC last st k b1 b2
 | field:Bv b1 last st k = Ar st (Bf b1 k)→Bv b2 last st k = Ar st (Bf b2 k)→ActC last st k b1 b2
 | scalar:Bv b1 last st k = Ar st (Bg b1 k)→Bv b2 last st k = Ar st (Bg b2 k)→ActC last st k b1 b2
theorem Tb {last:Nat} {st:List UInt8} {k:Nat} {b1 b2:List UInt8} {c:UInt8} {r1 r2:List UInt8} (h1:b1.drop k = c::r1) (h2:b2.drop k = c::r2) (hl:last≠1):ActC last st k b1 b2:=by
 have top:∀ b,(∀ x r,(x:List UInt8).drop k = c::r→Bv x last st k = Cl x b st k)→ActC last st k b1 b2:=by
  intro b hb
  have e:∀ x r,(x:List UInt8).drop k = c::r→Bv x last st k = if b∧c.toNat = 44 then Ar st (some (Ax x k 8 1 0)) else if b∧c.toNat = 59 then Ar st (some (Ax x k 9 1 0)) else Ar st (Bf x k):=fun x r hx=>by
   rw [hb x r hx]; unfold Cl; rw [hx]
  by_cases q1:b = true∧c.toNat = 44
  ·exact .sign 8 st (by rw [e _ _ h1,if_pos q1]) (by rw [e _ _ h2,if_pos q1])
  ·by_cases q2:b = true∧c.toNat = 59
   ·exact .sign 9 st (by rw [e _ _ h1,if_neg q1,if_pos q2]) (by rw [e _ _ h2,if_neg q1,if_pos q2])
   ·exact .field (by rw [e _ _ h1,if_neg q1,if_neg q2]) (by rw [e _ _ h2,if_neg q1,if_neg q2])
 have msg:∀ b,(∀ x r,(x:List UInt8).drop k = c::r→Bv x last st k = BX x b st k)→ActC last st k b1 b2:=by
  intro b hb
  have e:∀ x r,(x:List UInt8).drop k = c::r→Bv x last st k = if c.toNat = AY st then Ar st.dropLast (some (Ax x k 5 1 0)) else if c.toNat = C8 (AY st) then .none
    else if b∧c.toNat = 44 then Ar st (some (Ax x k 8 1 0)) else if b∧c.toNat = 59 then Ar st (some (Ax x k 9 1 0)) else Ar st (Bf x k):=fun x r hx=>by
   rw [hb x r hx]; unfold BX; rw [hx]
  by_cases q0:c.toNat = AY st
  ·exact .sign 5 st.dropLast (by rw [e _ _ h1,if_pos q0]) (by rw [e _ _ h2,if_pos q0])
  ·by_cases q3:c.toNat = C8 (AY st)
   ·exact .none (by rw [e _ _ h1,if_neg q0,if_pos q3]) (by rw [e _ _ h2,if_neg q0,if_pos q3])
   ·by_cases q1:b = true∧c.toNat = 44
    ·exact .sign 8 st (by rw [e _ _ h1,if_neg q0,if_neg q3,if_pos q1]) (by rw [e _ _ h2,if_neg q0,if_neg q3,if_pos q1])
    ·by_cases q2:b = true∧c.toNat = 59
     ·exact .sign 9 st (by rw [e _ _ h1,if_neg q0,if_neg q3,if_neg q1,if_pos q2]) (by rw [e _ _ h2,if_neg q0,if_neg q3,if_neg q1,if_pos q2])
     ·exact .field (by rw [e _ _ h1,if_neg q0,if_neg q3,if_neg q1,if_neg q2]) (by rw [e _ _ h2,if_neg q0,if_neg q3,if_neg q1,if_neg q2])
 have lst:(∀ x r,(x:List UInt8).drop k = c::r→Bv x last st k = CH x st k)→ActC last st k b1 b2:=by
  intro hb
  have e:∀ x r,(x:List UInt8).drop k = c::r→Bv x last st k = if c.toNat = 93 then Ar st.dropLast (some (Ax x k 7 1 0)) else if c.toNat = 44 then Ar st (some (Ax x k 8 1 0)) else .none:=fun x r hx=>by
   rw [hb x r hx]; unfold CH; rw [hx]
  by_cases q0:c.toNat = 93
  ·exact .sign 7 st.dropLast (by rw [e _ _ h1,if_pos q0]) (by rw [e _ _ h2,if_pos q0])
  ·by_cases q1:c.toNat = 44
   ·exact .sign 8 st (by rw [e _ _ h1,if_neg q0,if_pos q1]) (by rw [e _ _ h2,if_neg q0,if_pos q1])
   ·exact .none (by rw [e _ _ h1,if_neg q0,if_neg q1]) (by rw [e _ _ h2,if_neg q0,if_neg q1])
 have val:∀ l cl,(∀ x r,(x:List UInt8).drop k = c::r→Bv x last st k = Bx x l cl st k)→ActC last st k b1 b2:=by
  intro l cl hb
  have e:∀ x r,(x:List UInt8).drop k = c::r→Bv x last st k = if c.toNat = 123∨c.toNat = 60 then Ar (st++[c]) (some (Ax x k 4 1 0)) else if l∧c.toNat = 91 then Ar (st++[c]) (some (Ax x k 6 1 0))
    else if cl∧c.toNat = 93 then Ar st.dropLast (some (Ax x k 7 1 0)) else Ar st (Bg x k):=fun x r hx=>by
   rw [hb x r hx]; unfold Bx; rw [hx]
  by_cases q0:c.toNat = 123∨c.toNat = 60
  ·exact .sign 4 (st++[c]) (by rw [e _ _ h1,if_pos q0]) (by rw [e _ _ h2,if_pos q0])
  ·by_cases q1:l = true∧c.toNat = 91
   ·exact .sign 6 (st++[c]) (by rw [e _ _ h1,if_neg q0,if_pos q1]) (by rw [e _ _ h2,if_neg q0,if_pos q1])
   ·by_cases q2:cl = true∧c.toNat = 93
    ·exact .sign 7 st.dropLast (by rw [e _ _ h1,if_neg q0,if_neg q1,if_pos q2]) (by rw [e _ _ h2,if_neg q0,if_neg q1,if_pos q2])
    ·exact .scalar (by rw [e _ _ h1,if_neg q0,if_neg q1,if_neg q2]) (by rw [e _ _ h2,if_neg q0,if_neg q1,if_neg q2])
 by_cases a0:last = 0
 ·exact top false fun x r _=>by unfold Bv; rw [if_neg hl,if_pos a0]
 ·by_cases a2:last = 2
  ·exact val true false fun x r _=>by unfold Bv; rw [if_neg hl,if_neg a0,if_pos a2]
  ·by_cases a4:last = 4
   ·exact msg false fun x r _=>by unfold Bv; rw [if_neg hl,if_neg a0,if_neg a2,if_pos a4]
   ·by_cases a6:last = 6
    ·exact val false true fun x r _=>by unfold Bv; rw [if_neg hl,if_neg a0,if_neg a2,if_neg a4,if_pos a6]
    ·by_cases a8:last = 8∨last = 9
     ·by_cases o0:Av st = 0
      ·exact top false fun x r _=>by unfold Bv; rw [if_neg hl,if_neg a0,if_neg a2,if_neg a4,if_neg a6,if_pos a8,if_pos o0]
      ·by_cases o4:Av st = 4
       ·exact msg false fun x r _=>by unfold Bv; rw [if_neg hl,if_neg a0,if_neg a2,if_neg a4,if_neg a6,if_pos a8,if_neg o0,if_pos o4]
       ·exact val false false fun x r _=>by unfold Bv; rw [if_neg hl,if_neg a0,if_neg a2,if_neg a4,if_neg a6,if_pos a8,if_neg o0,if_neg o4]
     ·by_cases o0:Av st = 0
      ·exact top true fun x r _=>by unfold Bv; rw [if_neg hl,if_neg a0,if_neg a2,if_neg a4,if_neg a6,if_neg a8,if_pos o0]
      ·by_cases o4:Av st = 4
       ·exact msg true fun x r _=>by unfold Bv; rw [if_neg hl,if_neg a0,if_neg a2,if_neg a4,if_neg a6,if_neg a8,if_neg o0,if_pos o4]
       ·exact lst fun x r _=>by unfold Bv; rw [if_neg hl,if_neg a0,if_neg a2,if_neg a4,if_neg a6,if_neg a8,if_neg o0,if_neg o4]
theorem I0 {bs:List UInt8} {k:Nat} {y:TT × Nat} (h:Bf bs k = some y):y.1.kind = 2∧y.1.pos = k:=⟨(HI h).2,(HI h).1.pos⟩
theorem Hv {bs:List UInt8} {k:Nat} {y:TT × Nat} (h:Bg bs k = some y):y.1.kind = 3∧y.1.pos = k:=⟨(FC h).2,(FC h).1.pos⟩
theorem Za0 {st:List UInt8}:Av st = 0↔st = []:=by
 unfold Av
 rcases hs:st.getLast? with _ | c
 ·simpa using hs
 ·simp only
  constructor
  ·intro h; split at h <;> omega
  ·intro h; subst h; cases hs
theorem St {bs st:List UInt8} {last k:Nat} {t:TT} {st':List UInt8} {k':Nat} (h:Bv bs last st k = some (t,st',k')) (h1:t.kind≠1) :
  k < k'∧t.pos = k∧(2≤t.kind∧t.kind≤9)∧(t.kind = 4∨t.kind = 6→st'.length = st.length+1)∧(t.kind = 5∨t.kind = 7→st'.length = st.length - 1∧(st≠[]∨last = 4∨last = 6))∧(t.kind = 2∨t.kind = 3∨Cm t.kind→st' = st):=by
 have sign:∀ kd a st2,Ar st2 (some (Ax bs k kd 1 a)) = some (t,st',k')→t.kind = kd∧(k < k'∧t.pos = k)∧st' = st2:=fun kd a st2 h=>by cases h; exact ⟨rfl,⟨by have:=E9 (bs:=bs) (k:=k) (n:=1); omega,rfl⟩,rfl⟩
 have fld:Ar st (Bf bs k) = some (t,st',k')→t.kind = 2∧(k < k'∧t.pos = k)∧st' = st:=fun h=>by
  rcases hf:Bf bs k with _ | ⟨t2,k2⟩
  ·rw [hf] at h; cases h
  ·rw [hf] at h; have:=I0 hf; have hlt:=(HI hf).1.lt; cases h; exact ⟨this.1,⟨hlt,this.2⟩,rfl⟩
 have scl:Ar st (Bg bs k) = some (t,st',k')→t.kind = 3∧(k < k'∧t.pos = k)∧st' = st:=fun h=>by
  rcases hf:Bg bs k with _ | ⟨t2,k2⟩
  ·rw [hf] at h; cases h
  ·rw [hf] at h; have:=Hv hf; have hlt:=(FC hf).1.lt; cases h; exact ⟨this.1,⟨hlt,this.2⟩,rfl⟩
 have eof:Ar st (some (Ax bs k 1 0 0)) = some (t,st',k')→False:=fun h=>by cases h; exact h1 rfl
 have same:∀ kd,(t.kind = kd∧(k < k'∧t.pos = k)∧st' = st)→(kd = 2∨kd = 3∨Cm kd)→_:=fun kd hh hk=>(by
  obtain ⟨e1,e2,e3⟩:=hh;unfold Cm at hk ⊢
  exact ⟨e2.1,e2.2,by omega,fun h=>by omega,fun h=>by omega,fun _=>e3⟩:k < k'∧t.pos = k∧(2≤t.kind∧t.kind≤9)∧(t.kind = 4∨t.kind = 6→st'.length = st.length+1)∧(t.kind = 5∨t.kind = 7→st'.length = st.length - 1∧(st≠[]∨last = 4∨last = 6))∧(t.kind = 2∨t.kind = 3∨Cm t.kind→st' = st))
 have cls:∀ kd,(t.kind = kd∧(k < k'∧t.pos = k)∧st' = st.dropLast)→(kd = 5∨kd = 7)→(st≠[]∨last = 4∨last = 6)→_:=fun kd hh hk hne=>(by
  obtain ⟨e1,e2,e3⟩:=hh;unfold Cm
  exact ⟨e2.1,e2.2,by omega,fun h=>by omega,fun _=>⟨by rw [e3]; simp,hne⟩,fun h=>by omega⟩:k < k'∧t.pos = k∧(2≤t.kind∧t.kind≤9)∧(t.kind = 4∨t.kind = 6→st'.length = st.length+1)∧(t.kind = 5∨t.kind = 7→st'.length = st.length - 1∧(st≠[]∨last = 4∨last = 6))∧(t.kind = 2∨t.kind = 3∨Cm t.kind→st' = st))
 have opn:∀ kd c,(t.kind = kd∧(k < k'∧t.pos = k)∧st' = st++[c])→(kd = 4∨kd = 6)→_:=fun kd c hh hk=>(by
  obtain ⟨e1,e2,e3⟩:=hh;unfold Cm
  exact ⟨e2.1,e2.2,by omega,fun _=>by rw [e3]; simp,fun h=>by omega,fun h=>by omega⟩:k < k'∧t.pos = k∧(2≤t.kind∧t.kind≤9)∧(t.kind = 4∨t.kind = 6→st'.length = st.length+1)∧(t.kind = 5∨t.kind = 7→st'.length = st.length - 1∧(st≠[]∨last = 4∨last = 6))∧(t.kind = 2∨t.kind = 3∨Cm t.kind→st' = st))
 have top:∀ b,Cl bs b st k = some (t,st',k')→_:=fun b h=>(by
  unfold Cl at h
  split at h
  ·exact absurd (eof h) id
  ·split at h
   ·exact same 8 (sign _ _ _ h) (.inr (.inr (.inl rfl)))
   ·split at h
    ·exact same 9 (sign _ _ _ h) (.inr (.inr (.inr rfl)))
    ·exact same 2 (fld h) (.inl rfl):k < k'∧t.pos = k∧(2≤t.kind∧t.kind≤9)∧(t.kind = 4∨t.kind = 6→st'.length = st.length+1)∧(t.kind = 5∨t.kind = 7→st'.length = st.length - 1∧(st≠[]∨last = 4∨last = 6))∧(t.kind = 2∨t.kind = 3∨Cm t.kind→st' = st))
 have msg:∀ b,(st≠[]∨last = 4∨last = 6)→BX bs b st k = some (t,st',k')→_:=fun b hne h=>(by
  unfold BX at h
  split at h
  ·cases h
  ·split at h
   ·exact cls 5 (sign _ _ _ h) (.inl rfl) hne
   ·split at h
    ·cases h
    ·split at h
     ·exact same 8 (sign _ _ _ h) (.inr (.inr (.inl rfl)))
     ·split at h
      ·exact same 9 (sign _ _ _ h) (.inr (.inr (.inr rfl)))
      ·exact same 2 (fld h) (.inl rfl):k < k'∧t.pos = k∧(2≤t.kind∧t.kind≤9)∧(t.kind = 4∨t.kind = 6→st'.length = st.length+1)∧(t.kind = 5∨t.kind = 7→st'.length = st.length - 1∧(st≠[]∨last = 4∨last = 6))∧(t.kind = 2∨t.kind = 3∨Cm t.kind→st' = st))
 have val:∀ l cl,(cl = true→last = 6)→Bx bs l cl st k = some (t,st',k')→_:=fun l cl hcl h=>(by
  unfold Bx at h
  split at h
  ·cases h
  ·split at h
   ·exact opn 4 _ (sign _ _ _ h) (.inl rfl)
   ·split at h
    ·exact opn 6 _ (sign _ _ _ h) (.inr rfl)
    ·split at h
     ·rename_i hc
      exact cls 7 (sign _ _ _ h) (.inr rfl) (.inr (.inr (hcl hc.1)))
     ·exact same 3 (scl h) (.inr (.inl rfl)):k < k'∧t.pos = k∧(2≤t.kind∧t.kind≤9)∧(t.kind = 4∨t.kind = 6→st'.length = st.length+1)∧(t.kind = 5∨t.kind = 7→st'.length = st.length - 1∧(st≠[]∨last = 4∨last = 6))∧(t.kind = 2∨t.kind = 3∨Cm t.kind→st' = st))
 unfold Bv at h
 split at h
 ·exact absurd (eof h) id
 ·split at h
  ·exact top _ h
  ·split at h
   ·exact val _ _ (fun h=>by cases h) h
   ·split at h
    ·rename_i h4
     exact msg _ (.inr (.inl h4)) h
    ·split at h
     ·rename_i h6
      exact val _ _ (fun _=>h6) h
     ·split at h
      ·split at h
       ·exact top _ h
       ·rename_i ho
        split at h
        ·exact msg _ (.inl fun e=>ho (Za0.2 e)) h
        ·exact val _ _ (fun h=>by cases h) h
      ·split at h
       ·exact top _ h
       ·rename_i ho
        have hne:st≠[]:=fun e=>ho (Za0.2 e)
        split at h
        ·exact msg _ (.inl hne) h
        ·unfold CH at h
         split at h
         ·cases h
         ·split at h
          ·exact cls 7 (sign _ _ _ h) (.inr rfl) (.inl hne)
          ·split at h
           ·exact same 8 (sign _ _ _ h) (.inr (.inr (.inl rfl)))
           ·cases h
def Rn (s:DT):Prop:=s.tok.kind = 4∨s.tok.kind = 6→s.st≠[]
def D9 (kd:Nat):Int:=if kd = 4∨kd = 6 then 1 else if kd = 5∨kd = 7 then -1 else 0
structure Moves (bs:List UInt8) (s s1:DT):Prop where
 pos:s1.tok.pos = goT bs s.k 0
 lt:goT bs s.k 0 < s1.k
 kind:2≤s1.tok.kind∧s1.tok.kind≤9
 len:(s1.st.length:Int) = s.st.length+D9 s1.tok.kind
 same:Cm s1.tok.kind→s1.st = s.st
 ok:Rn s1
theorem EV {bs:List UInt8} {s s1:DT} (hs:Rn s) (h:BK bs s = some s1) (h1:s1.tok.kind≠1):Moves bs s s1:=by
 unfold BK at h;rw [GT] at h
 rcases hn:Bv bs s.tok.kind s.st (goT bs s.k 0) with _ | ⟨t,st,k⟩
 ·rw [hn] at h; cases h
 ·rw [hn] at h;cases h;obtain ⟨a0,a1,a2,a3,a4,a5⟩:=St hn h1;refine ⟨a1,a0,a2,?_,fun h=>a5 (.inr (.inr h)),?_⟩
  ·show (st.length:Int) = s.st.length+D9 t.kind
   unfold D9
   by_cases q1:t.kind = 4∨t.kind = 6
   ·rw [if_pos q1,a3 q1]; omega
   ·rw [if_neg q1]
    by_cases q2:t.kind = 5∨t.kind = 7
    ·rw [if_pos q2];obtain ⟨b1,b2⟩:=a4 q2
     have hne:s.st≠[]:=by
      rcases b2 with h | h | h
      ·exact h
      ·exact hs (.inl h)
      ·exact hs (.inr h)
     have:=List.length_pos_iff.2 hne;omega
    ·rw [if_neg q2,a5 (by unfold Cm; omega)]; omega
  ·intro hk;have:=a3 hk
   show st≠[]
   intro e;rw [e] at this;simp at this
section
variable {P v:List UInt8}
inductive Dies (P:List UInt8):DT→Prop
 | now {s:DT}:BK P s = none→Dies P s
 | later {s x:DT}:BK P s = some x→x.tok.kind≠1→Dies P x→Dies P s
theorem Dies.run {s:DT} (h:Dies P s):s.peeked = false→s.k≤P.length→∀ (f:Nat) (out:List TT),
  (¬ Cm s.tok.kind→(GI P [] f s out).2 = false)∧(Cm s.tok.kind→∀ s0,s0.peeked = false→BK P s0 = some s→(GI P [] f s0 out).2 = false):=by
 induction h with
 | @now s h=>
  intro hp hk f out
  cases f with
  | zero=>exact ⟨fun _=>rfl,fun _ _ _ _=>rfl⟩
  | succ f=>
   refine ⟨fun _=>?_,fun hc s0 hp0 h0=>?_⟩
   ·rw [Er hp]; unfold C6; rw [h]
   ·rw [Er hp0,Ii h0 hc,h]
 | @later s x h h1 _ ih=>
  intro hp hk f out;have ho:=Ea h hk
  cases f with
  | zero=>exact ⟨fun _=>rfl,fun _ _ _ _=>rfl⟩
  | succ f=>
   refine ⟨fun _=>?_,fun hc s0 hp0 h0=>?_⟩
   ·by_cases hx:Cm x.tok.kind
    ·exact (ih ho.1 ho.2.2.1 (f+1) out).2 hx s hp h
    ·rw [Er hp,IG h hx];simp only;rw [if_neg h1];exact (ih ho.1 ho.2.2.1 f _).1 hx
   ·have hx:¬ Cm x.tok.kind:=by have:=ho.2.2.2.2.2.2 hc; unfold Cm; omega
    rw [Er hp0,Ii h0 hc,h];simp only;rw [if_neg h1];exact (ih ho.1 ho.2.2.1 f _).1 hx
theorem H8 {s:DT} (hst:s.st≠[]) (hk:goT P s.k 0 = P.length) (h0:s.tok.kind≠0) (h1:s.tok.kind≠1):Dies P s:=by
 refine .now ?_;have hd:P.drop P.length = []:=List.drop_length;have ho:Av s.st≠0:=fun e=>hst (Za0.1 e)
 have val:∀ l cl st,Bx P l cl st P.length = none:=fun l cl st=>by unfold Bx; rw [hd]
 have msg:∀ b st,BX P b st P.length = none:=fun b st=>by unfold BX; rw [hd]
 have lst:∀ st,CH P st P.length = none:=fun st=>by unfold CH; rw [hd]
 have:Bv P s.tok.kind s.st P.length = none:=by
  unfold Bv;rw [if_neg h1,if_neg h0,if_neg ho,if_neg ho,val,val,val,msg,msg,lst];simp
 unfold BK;rw [GT,hk,this]
theorem Fy (v':List UInt8) {s s1:DT} (h:BK (P++v) s = some s1) (hl:s.tok.kind≠1) (hp:goT (P++v) s.k 0 < P.length) (h2:s1.k < P.length):BK (P++v') s = some s1:=by
 have hge:=E9 (bs:=P++v) (k:=s.k) (n:=0);have hg:=Gk v' (P:=P) (v:=v) (k:=s.k) (n:=0) (by omega) hp;obtain ⟨c,r,_,hd⟩:=Mx hp;unfold BK at h ⊢;rw [GT] at h ⊢;rw [hg];generalize hk:goT (P++v) s.k 0 = k at *
 have tail:∀ {o o':Option (TT × Nat)} {st':List UInt8},Bv (P++v) s.tok.kind s.st k = Ar st' o→Bv (P++v') s.tok.kind s.st k = Ar st' o'→(∀ x,o = some x→x.2 < P.length→o' = some x)→(match Bv (P++v') s.tok.kind s.st k with
   | none=>none
   | some (t,st,k)=>some ⟨false,t,s.bad,st,k⟩) = some s1:=by
  intro o o' st' e1 e2 hx;rw [e1] at h;rw [e2]
  rcases o with _ | ⟨t,k2⟩
  ·cases h
  ·have hs:some ⟨false,t,s.bad,st',k2⟩ = some s1:=h
   have h3:k2 < P.length:=by cases hs; exact h2
   rw [hx _ rfl h3];exact hs
 rcases Tb (hd v) (hd v') hl (st:=s.st) with ⟨e1,e2⟩ | ⟨kd,st',e1,e2⟩ | ⟨e1,e2⟩ | ⟨e1,e2⟩
 ·rw [e1] at h; cases h
 ·exact tail e1 e2 fun x hx h3=>by cases hx; exact congrArg some (Jd v' rfl h3)
 ·exact tail e1 e2 fun x hx h3=>PI v' hx hp h3
 ·exact tail e1 e2 fun x hx h3=>N5 v' hx hp h3
theorem Qh {k:Nat} (hk:k≤P.length) (h:¬ goT (P++v) k 0 < P.length):goT P k 0 = P.length:=by
 have h1:=(DO (bs:=P) (k:=k) (n:=0) (by omega)).2
 by_cases h2:goT P k 0 < P.length
 ·exfalso
  have:=Gk v (P:=P) (v:=[]) (k:=k) (n:=0) (by omega) (by rw [List.append_nil]; exact h2);rw [List.append_nil] at this;omega
 ·omega
theorem JN {s s1:DT} (h:BK (P++v) s = some s1) (hl:s.tok.kind≠1) (hsk:s.k≤P.length) (hp:goT (P++v) s.k 0 < P.length) (h2:¬ s1.k < P.length):BK P s = none∨∃ x,BK P s = some x∧x.st = s1.st∧x.tok.kind = s1.tok.kind∧goT P x.k 0 = P.length:=by
 rcases hx:BK P s with _ | x
 ·exact .inl rfl
 ·refine .inr ⟨x,rfl,?_⟩;have hxk:x.k≤P.length:=(Ea hx hsk).2.2.1
  have hgP:goT P s.k 0 = goT (P++v) s.k 0:=by
   have hge:=E9 (bs:=P++v) (k:=s.k) (n:=0);have:=Gk [] (P:=P) (v:=v) (k:=s.k) (n:=0) (by omega) hp;rwa [List.append_nil] at this
  have hx1:¬ x.k < P.length:=by
   intro h3;have:=Fy v (P:=P) (v:=[]) (s:=s) (s1:=x) (by rw [List.append_nil]; exact hx) hl (by rw [List.append_nil,hgP]; exact hp) h3;rw [h] at this;cases this;exact h2 h3
  have hxe:x.k = P.length:=by omega
  -- the same kind of token
  obtain ⟨c,r,hP,hd⟩:=Mx hp;unfold BK at h hx;rw [GT] at h hx;rw [hgP] at hx;generalize goT (P++v) s.k 0 = k at *
  have hge:goT P x.k 0 = P.length:=by
   have a:=(DO (bs:=P) (k:=x.k) (n:=0) (by omega));omega
  have fin:∀ {o o':Option (TT × Nat)} {st':List UInt8},Bv (P++v) s.tok.kind s.st k = Ar st' o→Bv P s.tok.kind s.st k = Ar st' o'→(∀ y z,o = some y→o' = some z→z.1.kind = y.1.kind)→x.st = s1.st∧x.tok.kind = s1.tok.kind∧goT P x.k 0 = P.length:=by
   intro o o' st' e1 e2 hk;rw [e1] at h;rw [e2] at hx
   rcases o with _ | ⟨t,k2⟩
   ·cases h
   ·rcases o' with _ | ⟨t',k3⟩
    ·cases hx
    ·have hs1:some ⟨false,t,s.bad,st',k2⟩ = some s1:=h;have hs2:some ⟨false,t',s.bad,st',k3⟩ = some x:=hx;have:=hk _ _ rfl rfl;cases hs1;cases hs2;exact ⟨rfl,this,hge⟩
  rcases Tb (b1:=P++v) (b2:=P) (hd v) hP hl (st:=s.st) with ⟨e1,e2⟩ | ⟨kd,st',e1,e2⟩ | ⟨e1,e2⟩ | ⟨e1,e2⟩
  ·rw [e1] at h; cases h
  ·exact fin e1 e2 fun y z hy hz=>by cases hy; cases hz; rfl
  ·exact fin e1 e2 fun y z hy hz=>by rw [(I0 hy).1,(I0 hz).1]
  ·exact fin e1 e2 fun y z hy hz=>by rw [(Hv hy).1,(Hv hz).1]
def BZ:Nat→List (Nat × Nat)→Option Nat
 | _,[]=>none
 | d,(kd,pos)::l=>if kd = 4∨kd = 6 then BZ (d+1) l else if kd = 5∨kd = 7 then (if d = 1 then some pos else BZ (d - 1) l) else BZ d l
theorem Do (d kd pos:Nat) (l:List (Nat × Nat)):BZ d ((kd,pos)::l) = if kd = 4∨kd = 6 then BZ (d+1) l else if kd = 5∨kd = 7 then (if d = 1 then some pos else BZ (d - 1) l) else BZ d l:=rfl
def kpT (t:TT):Nat × Nat:=(t.kind,t.pos)
theorem S4 {s t:DT} {l:List TT} (hc:Chain (P++v) s l t):∀ (d e:Nat),s.st.length = d→1≤d→BZ d (l.map kpT) = some e→P.length≤e→s.k≤P.length→s.tok.kind≠0→s.tok.kind≠1→Rn s→Dies P s:=by
 induction hc with
 | nil s=>intro d e _ _ h; cases h
 | @tok s s1 t l h1 h2 h3 _ ih=>
  intro d e hd hd1 hcl he hk h0 hn1 hok;have hm:=EV hok h1 h3;rw [List.map_cons] at hcl;unfold kpT at hcl;rw [Do] at hcl;have hlen:=hm.len;unfold D9 at hlen
  by_cases hp:goT (P++v) s.k 0 < P.length
  ·
   obtain ⟨d1,e1,e2,e3⟩:∃ d1,s1.st.length = d1∧1≤d1∧BZ d1 (l.map kpT) = some e:=by
    by_cases q1:s1.tok.kind = 4∨s1.tok.kind = 6
    ·rw [if_pos q1] at hcl hlen; exact ⟨d+1,by omega,by omega,hcl⟩
    ·rw [if_neg q1] at hcl hlen
     by_cases q2:s1.tok.kind = 5∨s1.tok.kind = 7
     ·rw [if_pos q2] at hcl hlen
      by_cases q3:d = 1
      ·rw [if_pos q3] at hcl;have:=hm.pos;cases hcl;omega
      ·rw [if_neg q3] at hcl; exact ⟨d - 1,by omega,by omega,hcl⟩
     ·rw [if_neg q2] at hcl hlen; exact ⟨d,by omega,by omega,hcl⟩
   by_cases hs1:s1.k < P.length
   ·have:=Fy [] h1 hn1 hp hs1;rw [List.append_nil] at this;exact .later this h3 (ih d1 e e1 e2 e3 he (by omega) (by have:=hm.kind; omega) h3 hm.ok)
   ·rcases JN h1 hn1 hk hp hs1 with hx | ⟨x,hx,x1,x2,x3⟩
    ·exact .now hx
    ·exact .later hx (by rw [x2]; exact h3) (H8 (by rw [x1]; intro e; rw [e] at e1; simp at e1; omega) x3 (by rw [x2]; have:=hm.kind; omega) (by rw [x2]; exact h3))
  ·exact H8 (by intro e; rw [e] at hd; simp at hd; omega) (Qh hk hp) h0 hn1
 | @comma s s1 t l h1 h2 _ ih=>
  intro d e hd hd1 hcl he hk h0 hn1 hok
  have h3:s1.tok.kind≠1:=by unfold Cm at h2; omega
  have hm:=EV hok h1 h3
  by_cases hp:goT (P++v) s.k 0 < P.length
  ·by_cases hs1:s1.k < P.length
   ·have:=Fy [] h1 hn1 hp hs1;rw [List.append_nil] at this;exact .later this h3 (ih d e (by rw [hm.same h2]; exact hd) hd1 hcl he (by omega) (by have:=hm.kind; omega) h3 hm.ok)
   ·rcases JN h1 hn1 hk hp hs1 with hx | ⟨x,hx,x1,x2,x3⟩
    ·exact .now hx
    ·exact .later hx (by rw [x2]; exact h3) (H8 (by rw [x1,hm.same h2]; intro e; rw [e] at hd; simp at hd; omega) x3 (by rw [x2]; have:=hm.kind; omega) (by rw [x2]; exact h3))
  ·exact H8 (by intro e; rw [e] at hd; simp at hd; omega) (Qh hk hp) h0 hn1
def Fw:List (Nat × Nat)→Int
 | []=>0
 | (kd,_)::l=>D9 kd+Fw l
theorem Chain.places {bs:List UInt8} {s t:DT} {l:List TT} (h:Chain bs s l t):Rn s→s.k≤bs.length→∀ x ∈ l,s.k≤x.pos∧x.pos < bs.length:=by
 induction h with
 | nil s=>intro _ _ x hx; simp at hx
 | @tok s s1 t l h1 h2 h3 _ ih=>
  intro hok hk x hx;have ho:=Ea h1 hk;have hm:=EV hok h1 h3;have hge:=E9 (bs:=bs) (k:=s.k) (n:=0);have hlt:=hm.lt;have hps:=hm.pos
  rcases List.mem_cons.1 hx with rfl | hx
  ·have:=ho.2.2.1; omega
  ·have:=ih hm.ok ho.2.2.1 x hx; omega
 | @comma s s1 t l h1 h2 _ ih=>
  intro hok hk x hx;have ho:=Ea h1 hk
  have h3:s1.tok.kind≠1:=by unfold Cm at h2; omega
  have hm:=EV hok h1 h3;have hge:=E9 (bs:=bs) (k:=s.k) (n:=0);have hlt:=hm.lt;have:=ih hm.ok ho.2.2.1 x hx; omega
theorem cut_all {s t:DT} {L:List TT} (hc:Chain (P++v) s L t):∀ (l0:List TT) (t0:TT) (l1:List TT) (e:Nat),L = l0++t0::l1→Rn s→s.tok.kind≠1→s.k≤P.length→(t0.kind = 4∨t0.kind = 6)→t0.pos < P.length→(s.st.length:Int)+Fw (l0.map kpT) = 0→BZ 1 (l1.map kpT) = some e→P.length≤e→Dies P s:=by
 induction hc with
 | nil s=>intro l0 t0 l1 e h; simp at h
 | @tok s s1 t l h1 h2 h3 hc ih=>
  intro l0 t0 l1 e hL hok hn1 hk ht0 hp0 hdep hcl he;have hm:=EV hok h1 h3;have hlen:=hm.len;have hps:=hm.pos
  have hkl:s.k≤(P++v).length:=by rw [List.length_append]; omega
  cases l0 with
  | nil=>
   rw [List.nil_append] at hL
   injection hL with q1 q2
   subst q1 q2;simp only [List.map_nil,Fw] at hdep;unfold D9 at hlen;rw [if_pos ht0] at hlen
   have hp:goT (P++v) s.k 0 < P.length:=by omega
   by_cases hs1:s1.k < P.length
   ·have:=Fy [] h1 hn1 hp hs1;rw [List.append_nil] at this;exact .later this h3 (S4 hc 1 e (by omega) (Nat.le_refl _) hcl he (by omega) (by have:=hm.kind; omega) h3 hm.ok)
   ·rcases JN h1 hn1 hk hp hs1 with hx | ⟨x,hx,x1,x2,x3⟩
    ·exact .now hx
    ·exact .later hx (by rw [x2]; exact h3) (H8 (by rw [x1]; intro e; rw [e] at hlen; simp at hlen; omega) x3 (by rw [x2]; have:=hm.kind; omega) (by rw [x2]; exact h3))
  | cons y l0=>
   rw [List.cons_append] at hL
   injection hL with q1 q2
   subst q1;have hpl:=(hc.places hm.ok (Ea h1 hkl).2.2.1 t0 (by rw [q2]; simp)).1;have hlt:=hm.lt;have:=Fy [] h1 hn1 (by omega) (by omega);rw [List.append_nil] at this;rw [List.map_cons] at hdep;unfold kpT at hdep;simp only [Fw] at hdep;exact .later this h3 (ih l0 t0 l1 e q2 hm.ok h3 (by omega) ht0 hp0 (by show (s1.st.length:Int)+Fw (l0.map fun t=>(t.kind,t.pos)) = 0; omega) hcl he)
 | @comma s s1 t l h1 h2 hc ih=>
  intro l0 t0 l1 e hL hok hn1 hk ht0 hp0 hdep hcl he
  have h3:s1.tok.kind≠1:=by unfold Cm at h2; omega
  have hm:=EV hok h1 h3
  have hkl:s.k≤(P++v).length:=by rw [List.length_append]; omega
  have hpl:=(hc.places hm.ok (Ea h1 hkl).2.2.1 t0 (by rw [hL]; simp)).1;have hlt:=hm.lt;have:=Fy [] h1 hn1 (by omega) (by omega);rw [List.append_nil] at this;exact .later this h3 (ih l0 t0 l1 e hL hm.ok h3 (by omega) ht0 hp0 (by rw [hm.same h2]; exact hdep) hcl he)
end
def DI (odd:Bool) (x:Nat × Nat) (s:Int × Int × Int):Int × Int × Int:=
 if x.1 = 4∨x.1 = 6 then (if s.1 = 0∧(s.2.1 < 0∨odd = true) then (s.1+1,(x.2:Int),-1) else (s.1+1,s.2.1,s.2.2))
 else if x.1 = 5∨x.1 = 7 then (if s.1 - 1 = 0∧s.2.2 < 0 then (s.1 - 1,s.2.1,(x.2:Int)) else (s.1 - 1,s.2.1,s.2.2)) else s
def J7 (odd:Bool):List (Nat × Nat)→Int × Int × Int→Int × Int × Int
 | [],s=>s
 | x::l,s=>J7 odd l (DI odd x s)
theorem MD:∀ (l:List (Nat × Nat)) (x:Nat × Nat),Fw (l++[x]) = Fw l+D9 x.1
 | [],x=>by simp [Fw]
 | y::l,x=>by
  rw [List.cons_append];obtain ⟨a,b⟩:=y;simp only [Fw,MD l x];omega
theorem OQ:∀ (l m:List (Nat × Nat)),Fw (l++m) = Fw l+Fw m
 | [],m=>by simp [Fw]
 | (a,b)::l,m=>by
  rw [List.cons_append];simp only [Fw,OQ l m];omega
theorem Dn:∀ (l:List (Nat × Nat)) (d:Nat),1≤d→(∀ e,BZ d l = some e→∀ x,BZ d (l++[x]) = some e)∧(BZ d l = none→1≤(d:Int)+Fw l∧∀ x,BZ d (l++[x]) = BZ ((d:Int)+Fw l).toNat [x])
 | [],d,hd=>⟨(by intro e h; cases h),fun _=>⟨by simp [Fw]; omega,fun x=>by simp [Fw]⟩⟩
 | (kd,pos)::l,d,hd=>by
  simp only [List.cons_append,Do,Fw]
  by_cases q1:kd = 4∨kd = 6
  ·simp only [if_pos q1];obtain ⟨h1,h2⟩:=Dn l (d+1) (by omega)
   have hdl:D9 kd = 1:=by unfold D9; rw [if_pos q1]
   refine ⟨h1,fun h=>?_⟩;obtain ⟨g1,g2⟩:=h2 h;rw [hdl];refine ⟨by omega,fun x=>?_⟩;rw [g2 x]
   congr 1
   omega
  ·simp only [if_neg q1]
   by_cases q2:kd = 5∨kd = 7
   ·simp only [if_pos q2]
    have hdl:D9 kd = -1:=by unfold D9; rw [if_neg q1,if_pos q2]
    by_cases q3:d = 1
    ·simp only [if_pos q3];exact ⟨fun e h _=>h,(by intro h; cases h)⟩
    ·simp only [if_neg q3];obtain ⟨h1,h2⟩:=Dn l (d - 1) (by omega);refine ⟨h1,fun h=>?_⟩;obtain ⟨g1,g2⟩:=h2 h;rw [hdl];refine ⟨by omega,fun x=>?_⟩;rw [g2 x]
     congr 1
     omega
   ·simp only [if_neg q2]
    have hdl:D9 kd = 0:=by unfold D9; rw [if_neg q1,if_neg q2]
    obtain ⟨h1,h2⟩:=Dn l d hd;refine ⟨h1,fun h=>?_⟩;obtain ⟨g1,g2⟩:=h2 h;rw [hdl];refine ⟨by omega,fun x=>?_⟩;rw [g2 x]
    congr 1
    omega
def MJ (pre:List (Nat × Nat)) (s:Int × Int × Int):Prop:=s.1 = Fw pre∧(s.2.1 < 0∨∃ l0 kd l1,pre = l0++(kd,s.2.1.toNat)::l1∧0≤s.2.1∧Fw l0 = 0∧(kd = 4∨kd = 6)∧((s.2.2 < 0∧BZ 1 l1 = none)∨(0≤s.2.2∧BZ 1 l1 = some s.2.2.toNat)))
theorem PE {odd:Bool} {pre:List (Nat × Nat)} {s:Int × Int × Int} (x:Nat × Nat) (h:MJ pre s):MJ (pre++[x]) (DI odd x s):=by
 obtain ⟨deep,fr,en⟩:=s;obtain ⟨kx,px⟩:=x;obtain ⟨h1,h2⟩:=h;simp only at h1 h2;unfold MJ;rw [MD];unfold DI;simp only
 -- the old one goes on
 have old:∀ en':Int,(∀ l1,((en < 0∧BZ 1 l1 = none)∨(0≤en∧BZ 1 l1 = some en.toNat))→(1:Int)+Fw l1 = deep→((en' < 0∧BZ 1 (l1++[(kx,px)]) = none)∨(0≤en'∧BZ 1 (l1++[(kx,px)]) = some en'.toNat)))→
   (fr < 0∨∃ l0 kd l1,pre++[(kx,px)] = l0++(kd,fr.toNat)::l1∧0≤fr∧Fw l0 = 0∧(kd = 4∨kd = 6)∧((en' < 0∧BZ 1 l1 = none)∨(0≤en'∧BZ 1 l1 = some en'.toNat))):=by
  intro en' hx
  rcases h2 with h2 | ⟨l0,kd,l1,e1,e2,e3,e4,e5⟩
  ·exact .inl h2
  ·refine .inr ⟨l0,kd,l1++[(kx,px)],by rw [e1]; simp,e2,e3,e4,hx l1 e5 ?_⟩;rw [h1,e1,OQ];simp only [Fw]
   have:D9 kd = 1:=by unfold D9; rw [if_pos e4]
   omega
 by_cases q1:kx = 4∨kx = 6
 ·have hdl:D9 kx = 1:=by unfold D9; rw [if_pos q1]
  rw [if_pos q1]
  by_cases q2:deep = 0∧(fr < 0∨odd = true)
  ·rw [if_pos q2];simp only;refine ⟨by omega,.inr ⟨pre,kx,[],by simp,by omega,by omega,q1,.inl ⟨by omega,rfl⟩⟩⟩
  ·rw [if_neg q2];simp only;refine ⟨by omega,old en fun l1 hl1 hd=>?_⟩;obtain ⟨g1,g2⟩:=Dn l1 1 (Nat.le_refl _)
   rcases hl1 with ⟨a,b⟩ | ⟨a,b⟩
   ·refine .inl ⟨a,?_⟩;rw [(g2 b).2 (kx,px),Do,if_pos q1]; rfl
   ·exact .inr ⟨a,g1 _ b _⟩
 ·rw [if_neg q1]
  by_cases q3:kx = 5∨kx = 7
  ·have hdl:D9 kx = -1:=by unfold D9; rw [if_neg q1,if_pos q3]
   rw [if_pos q3]
   by_cases q4:deep - 1 = 0∧en < 0
   ·rw [if_pos q4];simp only;refine ⟨by omega,old (px:Int) fun l1 hl1 hd=>?_⟩;obtain ⟨g1,g2⟩:=Dn l1 1 (Nat.le_refl _)
    rcases hl1 with ⟨a,b⟩ | ⟨a,b⟩
    ·refine .inr ⟨by omega,?_⟩;rw [(g2 b).2 (kx,px),Do,if_neg q1,if_pos q3,if_pos (by omega)];simp
    ·omega
   ·rw [if_neg q4];simp only;refine ⟨by omega,old en fun l1 hl1 hd=>?_⟩;obtain ⟨g1,g2⟩:=Dn l1 1 (Nat.le_refl _)
    rcases hl1 with ⟨a,b⟩ | ⟨a,b⟩
    ·refine .inl ⟨a,?_⟩;rw [(g2 b).2 (kx,px),Do,if_neg q1,if_pos q3,if_neg (by have:=(g2 b).1; omega)];rfl
    ·exact .inr ⟨a,g1 _ b _⟩
  ·have hdl:D9 kx = 0:=by unfold D9; rw [if_neg q1,if_neg q3]
   rw [if_neg q3];refine ⟨by simp only; omega,old en fun l1 hl1 hd=>?_⟩;obtain ⟨g1,g2⟩:=Dn l1 1 (Nat.le_refl _)
   rcases hl1 with ⟨a,b⟩ | ⟨a,b⟩
   ·refine .inl ⟨a,?_⟩;rw [(g2 b).2 (kx,px),Do,if_neg q1,if_neg q3];rfl
   ·exact .inr ⟨a,g1 _ b _⟩
theorem Mz (odd:Bool):∀ (l pre:List (Nat × Nat)) (s:Int × Int × Int),MJ pre s→MJ (pre++l) (J7 odd l s)
 | [],pre,s,h=>by rw [List.append_nil]; exact h
 | x::l,pre,s,h=>by
  have:=Mz odd l (pre++[x]) (DI odd x s) (PE x h);rwa [List.append_assoc,List.singleton_append] at this
theorem PD:MJ [] (0,-1,-1):=⟨rfl,.inl (by decide)⟩
theorem Gn:∀ (l:List (Nat × Nat)) (d e:Nat),BZ d l = some e→∃ kd,(kd,e) ∈ l
 | [],_,_,h=>by cases h
 | (kd,pos)::l,d,e,h=>by
  rw [Do] at h;have up:(∃ k,(k,e) ∈ l)→∃ k,(k,e) ∈ (kd,pos)::l:=fun ⟨k,hk⟩=>⟨k,List.mem_cons_of_mem _ hk⟩
  split at h
  ·exact up (Gn l _ e h)
  ·split at h
   ·split at h
    ·cases h; exact ⟨kd,by simp⟩
    ·exact up (Gn l _ e h)
   ·exact up (Gn l _ e h)
def kpX (t:TX):Nat × Nat:=(t.kind,t.pos)
theorem ToksOk.kp {l:List TT} {m:List TX} (h:ToksOk l m):l.map kpT = m.map kpX:=by
 induction h with
 | nil=>rfl
 | cons h1 _ ih=>rw [List.map_cons,List.map_cons,ih]; unfold kpT kpX; rw [←h1.kind,←h1.pos]; rfl
theorem Km (ps:List UInt8) (odd:Bool) {deep fr en:Int} (h:J7 odd ((B0 ps).l.map kpX) (0,-1,-1) = (deep,fr,en)) (h0:0≤fr) (h1:fr < en) (m:Nat) (hm1:fr.toNat < m) (hm2:m≤en.toNat) :
  m≤(B0 ps).out.length∧(PP ((B0 ps).out.take m) []).2 = false:=by
 obtain ⟨a,Y,hc,ht⟩:=NC ps;have hf:=Mz odd ((B0 ps).l.map kpX) [] (0,-1,-1) PD;rw [List.nil_append,h] at hf;obtain ⟨_,hf⟩:=hf;simp only at hf
 rcases hf with hf | ⟨l0,kd,l1,e1,_,e3,e4,e5⟩
 ·omega
 rcases e5 with e5 | ⟨_,e5⟩
 ·omega
 rw [←ht.kp] at e1;obtain ⟨Y0,Y1',hY,f1,f2⟩:=List.map_eq_append_iff.1 e1;obtain ⟨t0,Y1,hY1,f3,f4⟩:=List.map_eq_cons_iff.1 f2;subst hY1
 have hnew:Rn DT.new:=by intro h; simp [DT.new,TT.zero] at h
 have hpl:=hc.places hnew (Nat.zero_le _);obtain ⟨ke,hke⟩:=Gn _ _ _ e5;rw [←f4] at hke;obtain ⟨te,hte,hte2⟩:=List.mem_map.1 hke
 have hlen:en.toNat < (B0 ps).out.length:=by
  have:=(hpl te (by rw [hY]; simp [hte])).2
  have e:te.pos = en.toNat:=by have:=congrArg Prod.snd hte2; exact this
  omega
 have hml:m≤(B0 ps).out.length:=by omega
 refine ⟨hml,?_⟩;generalize hbs:(B0 ps).out = bs at *;obtain ⟨P,v,hPv,hPm⟩:∃ P v,bs = P++v∧P.length = m:=⟨bs.take m,bs.drop m,(List.take_append_drop m bs).symm,by rw [List.length_take]; omega⟩
 have hP:bs.take m = P:=by rw [hPv,←hPm,List.take_left]
 rw [hP];rw [hPv] at hc;have hp0:t0.kind = kd∧t0.pos = fr.toNat:=⟨congrArg Prod.fst f3,congrArg Prod.snd f3⟩;have hd:=cut_all hc Y0 t0 Y1 en.toNat hY hnew (by simp [DT.new,TT.zero]) (Nat.zero_le _) (by rw [hp0.1]; exact e4) (by rw [hp0.2]; omega) (by rw [f1]; simpa [DT.new] using e3) (by rw [f4]; exact e5) (by omega);exact (hd.run rfl (Nat.zero_le _) _ []).1 (by unfold Cm; decide)
end Go.Proofs.YtgdnpnipahegaaaGreatDoor
