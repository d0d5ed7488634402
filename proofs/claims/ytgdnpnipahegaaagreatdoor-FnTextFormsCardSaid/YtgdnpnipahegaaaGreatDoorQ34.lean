/-
 The package's reader of the text form, step by step: what each kind of token is read as, and where the reader then stands. Plain functions.
-/
import Derived.Test.YtgdnpnipahegaaaGreatDoorQ33
namespace Go.Proofs.YtgdnpnipahegaaaGreatDoor
section
theorem Gk (bs:List UInt8) (n:Nat):goT bs n 0 = n+skT false (bs.drop n):=by unfold goT; rw [Nat.add_zero]
theorem Ft (bs:List UInt8) (n m:Nat):goT bs n m = goT bs (n+m) 0:=by unfold goT; rw [Nat.add_zero]
theorem S1 (l:List UInt8):skT false (csT l) = 0:=by
 have key:∀ (l:List UInt8) (b:Bool),skT false (l.drop (skT b l)) = 0:=by
  intro l
  induction l with
  | nil=>intro b; cases b <;> simp [IJ]
  | cons c l ih=>
   intro b
   cases b with
   | true=>rw [G3,List.drop_succ_cons]; exact ih _
   | false=>
    rw [CL]
    split
    ·rw [List.drop_succ_cons]; exact ih _
    ·rename_i h1
     split
     ·rw [List.drop_succ_cons]; exact ih _
     ·rename_i h2
      rw [List.drop_zero,CL,if_neg h1,if_neg h2]
 exact key l false
theorem PR (bs:List UInt8) (n:Nat):bs.drop (goT bs n 0) = csT (bs.drop n):=by rw [Gk,←List.drop_drop]; try rfl
theorem T7 (bs:List UInt8) (n:Nat):goT bs (goT bs n 0) 0 = goT bs n 0:=by
 rw [Gk bs (goT bs n 0),PR,S1,Nat.add_zero]
theorem Cl {bs pre r:List UInt8} (hb:bs = pre++r):bs.drop pre.length = r:=by rw [hb]; exact List.drop_left
theorem Oj {bs pre x r:List UInt8} (hb:bs = pre++(x++r)) (hx:Blk x):goT bs pre.length 0 = goT bs (pre++x).length 0:=by
 rw [Gk,Gk,Cl hb,Cl (pre:=pre++x) (r:=r) (by rw [hb,List.append_assoc]),hx,List.length_append]; omega
theorem J7 {bs pre r:List UInt8} (hb:bs = pre++r) (hr:skT false r = 0):goT bs pre.length 0 = pre.length:=by rw [Gk,Cl hb,hr]; try rfl
def IX (t:TT):TX:=⟨t.kind,if t.kind = 2 then t.att else 0,t.pos,if t.kind = 2 then t.sep else false,t.raw,if t.kind = 2 then (if t.att = 2 then t.str else t.raw) else []⟩
def ED:List UInt8→Bool
 | []=>false
 | c::_=>c.toNat == 34 || c.toNat == 39
structure TokOk (t:TT) (x:TX):Prop where
 kind:(IX t).kind = x.kind
 nk:(IX t).nk = x.nk
 pos:(IX t).pos = x.pos
 sep:(IX t).sep = x.sep
 str:(IX t).str = x.str
 raw:ED x.raw = false→(IX t).raw = x.raw
inductive ToksOk:List TT→List TX→Prop
 | nil:ToksOk [] []
 | cons {t:TT} {x:TX} {l:List TT} {m:List TX}:TokOk t x→ToksOk l m→ToksOk (t::l) (x::m)
theorem ToksOk.append {l l2:List TT} {m m2:List TX} (h:ToksOk l m) (k:ToksOk l2 m2):ToksOk (l++l2) (m++m2):=by
 induction h with
 | nil=>exact k
 | cons h1 _ ih=>exact .cons h1 ih
theorem ToksOk.length {l:List TT} {m:List TX} (h:ToksOk l m):l.length = m.length:=by
 induction h with
 | nil=>rfl
 | cons _ _ ih=>simp only [List.length_cons,ih]
def Cr (n:Nat):Prop:=n = 8∨n = 9
inductive Chain (bs:List UInt8):DT→List TT→DT→Prop
 | nil (s:DT):Chain bs s [] s
 | tok {s s1 t:DT} {l:List TT}:BN bs s = some s1→¬ Cr s1.tok.kind→s1.tok.kind≠1→Chain bs s1 l t→Chain bs s (s1.tok::l) t
 | comma {s s1 t:DT} {l:List TT}:BN bs s = some s1→Cr s1.tok.kind→Chain bs s1 l t→Chain bs s l t
theorem Chain.trans {bs:List UInt8} {s t u:DT} {l m:List TT} (h:Chain bs s l t) (k:Chain bs t m u):Chain bs s (l++m) u:=by
 induction h with
 | nil s=>exact k
 | tok h1 h2 h3 _ ih=>exact .tok h1 h2 h3 (ih k)
 | comma h1 h2 _ ih=>exact .comma h1 h2 (ih k)
theorem Chain.facts {bs:List UInt8} {s t:DT} {l:List TT} (h:Chain bs s l t) (hk:s.k≤bs.length):t.bad = s.bad∧t.k≤bs.length∧s.k+l.length≤t.k∧(s.peeked = false→t.peeked = false):=by
 induction h with
 | nil s=>exact ⟨rfl,hk,by simp,fun h=>h⟩
 | tok h1 h2 h3 _ ih=>
  have ho:=Ec h1 hk;have:=ih ho.2.2.1;refine ⟨this.1.trans ho.2.1,this.2.1,?_,fun _=>this.2.2.2 ho.1⟩;have:=ho.2.2.2.2.1 h3;simp only [List.length_cons]; omega
 | comma h1 h2 _ ih=>
  have ho:=Ec h1 hk;have:=ih ho.2.2.1;exact ⟨this.1.trans ho.2.1,this.2.1,by omega,fun _=>this.2.2.2 ho.1⟩
theorem Jg {bs:List UInt8} {s s1:DT} (h:BN bs s = some s1) (hs:¬ Cr s1.tok.kind):Db bs s = some s1:=by
 unfold Db; rw [h]; exact if_neg hs
theorem IL {bs:List UInt8} {s s1:DT} (h:BN bs s = some s1) (hs:Cr s1.tok.kind):Db bs s = BN bs s1:=by
 unfold Db; rw [h]; exact if_pos hs
theorem Eu {bs:List UInt8} {f:Nat} {s:DT} {out:List TT} (hp:s.peeked = false):FE bs [] (f+1) s out = match Db bs s with
  | none=>(out,false)
  | some s1=>if s1.tok.kind = 1 then (out,true) else FE bs [] f s1 (out++[s1.tok]):=by
 rw [Ko]; simp only [List.getD_nil,Bool.false_eq_true,if_false]; rw [CT hp]
 try rfl
theorem Chain.run {bs:List UInt8} {s t e:DT} {l:List TT} (h:Chain bs s l t) (he:BN bs t = some e) (hek:e.tok.kind = 1):s.peeked = false→s.k≤bs.length→∀ (f:Nat) (out:List TT),l.length < f→
  (¬ Cr s.tok.kind→FE bs [] f s out = (out++l,true))∧
  (Cr s.tok.kind→∀ s0,s0.peeked = false→BN bs s0 = some s→FE bs [] f s0 out = (out++l,true)):=by
 have hes:¬ Cr e.tok.kind:=by unfold Cr; omega
 induction h with
 | nil s=>
  intro hp hk f out hf;obtain ⟨f,rfl⟩:∃ g,f = g+1:=⟨f - 1,by simp at hf; omega⟩;refine ⟨fun _=>?_,fun hc s0 hp0 h0=>?_⟩
  ·rw [Eu hp,Jg he hes]; simp [hek]
  ·rw [Eu hp0,IL h0 hc,he]; simp [hek]
 | @tok s s1 t l h1 h2 h3 _ ih=>
  intro hp hk f out hf;obtain ⟨f,rfl⟩:∃ g,f = g+1:=⟨f - 1,by simp at hf; omega⟩;have ho:=Ec h1 hk;have ih':=fun out=>(ih he ho.1 ho.2.2.1 f out (by simp at hf; omega)).1 h2
  have e2:out++s1.tok::l = (out++[s1.tok])++l:=by simp
  refine ⟨fun _=>?_,fun hc s0 hp0 h0=>?_⟩
  ·rw [Eu hp,Jg h1 h2]; simp only; rw [if_neg h3,ih',e2]
  ·rw [Eu hp0,IL h0 hc,h1]; simp only; rw [if_neg h3,ih',e2]
 | @comma s s1 t l h1 h2 _ ih=>
  intro hp hk f out hf;have ho:=Ec h1 hk;refine ⟨fun _=>(ih he ho.1 ho.2.2.1 f out hf).2 h2 s hp h1,fun hc=>?_⟩;have:=ho.2.2.2.2.2.2 hc;unfold Cr at h2; omega
structure At (bs:List UInt8) (n:Nat) (st:List UInt8) (last:Nat) (s:DT):Prop where
 peeked:s.peeked = false
 bad:s.bad = false
 st:s.st = st
 last:s.tok.kind = last
 le:s.k≤bs.length
 pos:goT bs s.k 0 = goT bs n 0
def Cz (n:Nat):Prop:=n = 3∨n = 5∨n = 7
theorem At.blank {bs pre x r st:List UInt8} {last:Nat} {s:DT} (h:At bs pre.length st last s) (hb:bs = pre++(x++r)) (hx:Blk x):At bs (pre++x).length st last s:={ h with pos:=h.pos.trans (Oj hb hx) }
def Bz (bs:List UInt8) (last:Nat) (st:List UInt8) (k:Nat):Option (TT × List UInt8 × Nat):=
 if last = 1 then Aw st (some (AD bs k 1 0 0))
 else if last = 0 then Cq bs false st k
 else if last = 2 then BB bs true false st k
 else if last = 4 then B4 bs false st k
 else if last = 6 then BB bs false true st k
 else if last = 8∨last = 9 then (if AB st = 0 then Cq bs false st k else if AB st = 4 then B4 bs false st k else BB bs false false st k)
 else (if AB st = 0 then Cq bs true st k else if AB st = 4 then B4 bs true st k else CH bs st k)
theorem Hd (bs:List UInt8) (last:Nat) (st:List UInt8) (k:Nat):C3 bs last st k = Bz bs last st (goT bs k 0):=rfl
theorem Ga {bs pre r st st':List UInt8} {last k':Nat} {a:DT} {t:TT} (h:At bs pre.length st last a) (hb:bs = pre++r) (hr:skT false r = 0) (hn:Bz bs last st pre.length = some (t,st',k')):BN bs a = some ⟨false,t,false,st',k'⟩:=by
 unfold BN;rw [Hd,h.pos,J7 hb hr,h.last,h.st,hn,h.bad]
theorem K5 {bs st:List UInt8} {n k:Nat} {t:TT} {last:Nat} (hk:k = goT bs n 0) (hn:n≤bs.length) (hl:t.kind = last):At bs n st last ⟨false,t,false,st,k⟩:=
 ⟨rfl,rfl,rfl,hl,by have:=(DU (bs:=bs) (k:=n) (n:=0) (by omega)).2; subst hk; exact this,by show goT bs k 0 = _; rw [hk]; exact T7 bs n⟩
theorem IM (st:List UInt8) (c:UInt8):AB (st++[c]) = (if c.toNat = 91 then 6 else 4)∧A4 (st++[c]) = (if c.toNat = 91 then 93 else if c.toNat = 123 then 125 else 62):=by
 unfold AB A4;simp
theorem Tq:AB [] = 0:=rfl
def FN (st:List UInt8) (last:Nat):Prop:=(AB st = 0∧(last = 0∨Cz last∨Cr last))∨(AB st = 4∧(last = 4∨Cz last∨Cr last))
def H7 (st:List UInt8) (last:Nat):Prop:=last = 2∨last = 6∨(last = 8∧AB st = 6)
def K6 (c:UInt8):Prop:=Ch c = false∧c.toNat≠35∧c.toNat≠34∧c.toNat≠39∧c.toNat≠125∧c.toNat≠62∧c.toNat≠44∧c.toNat≠59
theorem PV (st:List UInt8) (h:AB st = 4):A4 st = 125∧De (A4 st) = 62∨A4 st = 62∧De (A4 st) = 125:=by
 unfold AB at h
 have hc:A4 st = 125∨A4 st = 62:=by
  unfold A4
  rcases hs:st.getLast? with _ | c
  ·rw [hs] at h; simp at h
  ·rw [hs] at h;simp only at h ⊢
   split at h
   ·omega
   ·rename_i h1
    rw [if_neg h1]
    split <;> simp
 unfold De
 rcases hc with hc | hc <;> rw [hc] <;> simp
theorem Qs {bs st:List UInt8} {last k:Nat} {c:UInt8} {r:List UInt8} (hF:FN st last) (hd:bs.drop k = c::r) (hc:K6 c):Bz bs last st k = Aw st (Bh bs k):=by
 obtain ⟨_,_,_,_,h1,h2,h3,h4⟩:=hc
 have top:∀ b,Cq bs b st k = Aw st (Bh bs k):=fun b=>by
  unfold Cq; rw [hd]; simp only; rw [if_neg (by omega),if_neg (by omega)]
 have msg:AB st = 4→∀ b,B4 bs b st k = Aw st (Bh bs k):=fun ho b=>by
  have hcl:=PV st ho;unfold B4; rw [hd]; simp only; rw [if_neg (by omega),if_neg (by omega),if_neg (by omega),if_neg (by omega)]
 unfold Bz
 rcases hF with ⟨ho,hl⟩ | ⟨ho,hl⟩
 ·rcases hl with rfl | hl | hl
  ·rw [if_neg (by decide),if_pos rfl,top]
  ·unfold Cz at hl;rw [if_neg (by omega),if_neg (by omega),if_neg (by omega),if_neg (by omega),if_neg (by omega),if_neg (by omega),if_pos ho,top]
  ·unfold Cr at hl;rw [if_neg (by omega),if_neg (by omega),if_neg (by omega),if_neg (by omega),if_neg (by omega),if_pos hl,if_pos ho,top]
 ·rcases hl with rfl | hl | hl
  ·rw [if_neg (by decide),if_neg (by decide),if_neg (by decide),if_pos rfl,msg ho]
  ·unfold Cz at hl;rw [if_neg (by omega),if_neg (by omega),if_neg (by omega),if_neg (by omega),if_neg (by omega),if_neg (by omega),if_neg (by omega),if_pos ho,msg ho]
  ·unfold Cr at hl;rw [if_neg (by omega),if_neg (by omega),if_neg (by omega),if_neg (by omega),if_neg (by omega),if_pos hl,if_neg (by omega),if_pos ho,msg ho]
theorem Hy {bs st:List UInt8} {last k:Nat} {c:UInt8} {r:List UInt8} (hV:H7 st last) (hd:bs.drop k = c::r):Bz bs last st k = if c.toNat = 123∨c.toNat = 60 then Aw (st++[c]) (some (AD bs k 4 1 0)) else if last = 2∧c.toNat = 91 then Aw (st++[c]) (some (AD bs k 6 1 0))
  else if last = 6∧c.toNat = 93 then Aw st.dropLast (some (AD bs k 7 1 0)) else Aw st (Bi bs k):=by
 unfold Bz
 rcases hV with rfl | rfl | ⟨rfl,ho⟩
 ·rw [if_neg (by decide),if_neg (by decide),if_pos rfl];unfold BB; rw [hd];simp
 ·rw [if_neg (by decide),if_neg (by decide),if_neg (by decide),if_neg (by decide),if_pos rfl];unfold BB; rw [hd];simp
 ·rw [if_neg (by decide),if_neg (by decide),if_neg (by decide),if_neg (by decide),if_neg (by decide),if_pos (by decide),if_neg (by omega),if_neg (by omega)];unfold BB; rw [hd];simp
theorem JK {bs pre r:List UInt8} {c:UInt8} (hb:bs = pre++([c]++r)) (kd at_:Nat):AD bs pre.length kd 1 at_ = (⟨kd,at_,false,0,pre.length,[c],[]⟩,goT bs (pre++[c]).length 0):=by
 unfold AD;rw [Cl hb,Ft];simp
theorem Kv {bs pre r:List UInt8} {c:UInt8} (hb:bs = pre++([c]++r)):(pre++[c]).length≤bs.length:=by rw [hb]; simp
theorem JR {c:UInt8} {r:List UInt8} (h1:Ch c = false) (h2:c.toNat≠35):skT false ([c]++r) = 0:=EC h1 h2
section
variable {bs pre r st:List UInt8} {last:Nat} {a:DT}
theorem CY {c:UInt8} (h:c.toNat≠32∧c.toNat≠10∧c.toNat≠13∧c.toNat≠9):Ch c = false:=by unfold Ch; simp; omega
theorem Qb {c:UInt8} (h:At bs pre.length st last a) (hV:H7 st last) (hb:bs = pre++([c]++r)) (hc:c.toNat = 123∨c.toNat = 60) :
  ∃ a',BN bs a = some a'∧a'.tok.kind = 4∧TokOk a'.tok ⟨4,0,pre.length,false,[c],[]⟩∧At bs (pre++[c]).length (st++[c]) 4 a':=by
 have hn:=Hy hV (Cl hb);rw [if_pos hc,JK hb] at hn;exact ⟨_,Ga h hb (JR (CY (by omega)) (by omega)) hn,rfl,⟨rfl,rfl,rfl,rfl,rfl,fun _=>rfl⟩,K5 rfl (Kv hb) rfl⟩
theorem Qc {c:UInt8} (h:At bs pre.length st 2 a) (hb:bs = pre++([c]++r)) (hc:c.toNat = 91) :
  ∃ a',BN bs a = some a'∧a'.tok.kind = 6∧TokOk a'.tok ⟨6,0,pre.length,false,[c],[]⟩∧At bs (pre++[c]).length (st++[c]) 6 a':=by
 have hn:=Hy (last:=2) (.inl rfl) (st:=st) (Cl hb);rw [if_neg (by omega),if_pos ⟨rfl,hc⟩,JK hb] at hn;exact ⟨_,Ga h hb (JR (CY (by omega)) (by omega)) hn,rfl,⟨rfl,rfl,rfl,rfl,rfl,fun _=>rfl⟩,K5 rfl (Kv hb) rfl⟩
theorem OZ {c d:UInt8} (h:At bs pre.length (st++[c]) last a) (hb:bs = pre++([d]++r)) (hc:c.toNat = 123∧d.toNat = 125∨c.toNat = 60∧d.toNat = 62) (hl:last = 4∨Cz last∨Cr last) :
  ∃ a',BN bs a = some a'∧a'.tok.kind = 5∧TokOk a'.tok ⟨5,0,pre.length,false,[d],[]⟩∧At bs (pre++[d]).length st 5 a':=by
 obtain ⟨ho,hcl⟩:=IM st c;rw [if_neg (by omega)] at ho hcl
 have hcd:d.toNat = A4 (st++[c]):=by
  rw [hcl]
  by_cases h1:c.toNat = 123
  ·rw [if_pos h1]; omega
  ·rw [if_neg h1]; omega
 have msg:∀ b,B4 bs b (st++[c]) pre.length = Aw st (some (AD bs pre.length 5 1 0)):=fun b=>by
  unfold B4; rw [Cl hb,List.singleton_append]; simp only; rw [if_pos hcd,List.dropLast_concat]
 have hn:Bz bs last (st++[c]) pre.length = Aw st (some (AD bs pre.length 5 1 0)):=by
  unfold Bz
  rcases hl with rfl | hl | hl
  ·rw [if_neg (by decide),if_neg (by decide),if_neg (by decide),if_pos rfl,msg]
  ·unfold Cz at hl;rw [if_neg (by omega),if_neg (by omega),if_neg (by omega),if_neg (by omega),if_neg (by omega),if_neg (by omega),if_neg (by omega),if_pos ho,msg]
  ·unfold Cr at hl;rw [if_neg (by omega),if_neg (by omega),if_neg (by omega),if_neg (by omega),if_neg (by omega),if_pos hl,if_neg (by omega),if_pos ho,msg]
 rw [JK hb] at hn;exact ⟨_,Ga h hb (JR (CY (by omega)) (by omega)) hn,rfl,⟨rfl,rfl,rfl,rfl,rfl,fun _=>rfl⟩,K5 rfl (Kv hb) rfl⟩
theorem O0 {c d:UInt8} (h:At bs pre.length (st++[c]) last a) (hb:bs = pre++([d]++r)) (hc:c.toNat = 91∧d.toNat = 93) (hl:last = 6∨Cz last) :
  ∃ a',BN bs a = some a'∧a'.tok.kind = 7∧TokOk a'.tok ⟨7,0,pre.length,false,[d],[]⟩∧At bs (pre++[d]).length st 7 a':=by
 obtain ⟨ho,hcl⟩:=IM st c;rw [if_pos hc.1] at ho
 have hn:Bz bs last (st++[c]) pre.length = Aw st (some (AD bs pre.length 7 1 0)):=by
  rcases hl with rfl | hl
  ·rw [Hy (.inr (.inl rfl)) (Cl hb),if_neg (by omega),if_neg (by omega),if_pos ⟨rfl,hc.2⟩,List.dropLast_concat]
  ·unfold Cz at hl;unfold Bz;rw [if_neg (by omega),if_neg (by omega),if_neg (by omega),if_neg (by omega),if_neg (by omega),if_neg (by omega),if_neg (by omega),if_neg (by omega)];unfold CH;rw [Cl hb,List.singleton_append]; simp only; rw [if_pos hc.2,List.dropLast_concat]
 rw [JK hb] at hn;exact ⟨_,Ga h hb (JR (CY (by omega)) (by omega)) hn,rfl,⟨rfl,rfl,rfl,rfl,rfl,fun _=>rfl⟩,K5 rfl (Kv hb) rfl⟩
theorem OX {d:UInt8} (h:At bs pre.length st last a) (hb:bs = pre++([d]++r)) (hd:d.toNat = 44∨d.toNat = 59∧AB st≠6) (hl:Cz last) (ho:AB st = 0∨AB st = 4∨AB st = 6) :
  ∃ a',BN bs a = some a'∧(a'.tok.kind = if d.toNat = 44 then 8 else 9)∧At bs (pre++[d]).length st (if d.toNat = 44 then 8 else 9) a':=by
 have hn:Bz bs last st pre.length = Aw st (some (AD bs pre.length (if d.toNat = 44 then 8 else 9) 1 0)):=by
  unfold Cz at hl;unfold Bz;rw [if_neg (by omega),if_neg (by omega),if_neg (by omega),if_neg (by omega),if_neg (by omega),if_neg (by omega)]
  rcases ho with ho | ho | ho
  ·rw [if_pos ho];unfold Cq;rw [Cl hb,List.singleton_append]; simp only
   by_cases h44:d.toNat = 44
   ·rw [if_pos ⟨trivial,h44⟩,if_pos h44]
   ·rw [if_neg (by omega),if_pos ⟨trivial,by omega⟩,if_neg h44]
  ·rw [if_neg (by omega),if_pos ho];have hcl:=PV st ho;unfold B4;rw [Cl hb,List.singleton_append]; simp only;rw [if_neg (by omega),if_neg (by omega)]
   by_cases h44:d.toNat = 44
   ·rw [if_pos ⟨trivial,h44⟩,if_pos h44]
   ·rw [if_neg (by omega),if_pos ⟨trivial,by omega⟩,if_neg h44]
  ·rw [if_neg (by omega),if_neg (by omega)];unfold CH;rw [Cl hb,List.singleton_append]; simp only
   have h44:d.toNat = 44:=by omega
   rw [if_neg (by omega),if_pos h44,if_pos h44]
 rw [JK hb] at hn;exact ⟨_,Ga h hb (JR (CY (by omega)) (by omega)) hn,rfl,K5 rfl (Kv hb) rfl⟩
theorem SZ {n:Nat} (h:At bs n st last a) (hn:goT bs n 0 = bs.length) (hl:last = 0∨Cz last∨Cr last) (ho:AB st = 0):∃ a',BN bs a = some a'∧a'.tok.kind = 1:=by
 have hd:bs.drop bs.length = []:=List.drop_length
 have top:∀ b,Cq bs b st bs.length = Aw st (some (AD bs bs.length 1 0 0)):=fun b=>by unfold Cq; rw [hd]
 have hk:Bz bs last st bs.length = Aw st (some (AD bs bs.length 1 0 0)):=by
  unfold Bz
  rcases hl with rfl | hl | hl
  ·rw [if_neg (by decide),if_pos rfl,top]
  ·unfold Cz at hl;rw [if_neg (by omega),if_neg (by omega),if_neg (by omega),if_neg (by omega),if_neg (by omega),if_neg (by omega),if_pos ho,top]
  ·unfold Cr at hl;rw [if_neg (by omega),if_neg (by omega),if_neg (by omega),if_neg (by omega),if_neg (by omega),if_pos hl,if_pos ho,top]
 unfold BN;rw [Hd,h.pos,hn,h.last,h.st,hk];exact ⟨_,rfl,rfl⟩
end
structure NameLex (x:List UInt8) (nk:Nat) (str:List UInt8):Prop where
 head:∃ c y,x = c::y∧K6 c
 next:∀ bs n r,bs.drop n = x++r→Eo r = true→∃ t:TT,Bh bs n = some (Fy bs (t,goT bs (n+x.length) 0))∧t.kind = 2∧t.att = nk∧t.sep = false∧t.pos = n∧t.raw = x∧(if nk = 2 then t.str else x) = str
theorem JO {bs x r:List UInt8} {n:Nat} (h:bs.drop n = x++r):(bs.drop n).take x.length = x:=by rw [h,List.take_left]
theorem MX {bs pre x r st str:List UInt8} {last nk:Nat} {a:DT} (h:At bs pre.length st last a) (hF:FN st last) (hx:NameLex x nk str) (hb:bs = pre++(x++r)) (hr:Eo r = true) :
  ∃ t:TT,BN bs a = some ⟨false,(Fy bs (t,goT bs (pre++x).length 0)).1,false,st,(Fy bs (t,goT bs (pre++x).length 0)).2⟩∧t.kind = 2∧t.att = nk∧t.sep = false∧t.pos = pre.length∧t.raw = x∧(if nk = 2 then t.str else x) = str:=by
 obtain ⟨c,y,rfl,hc⟩:=hx.head;obtain ⟨t,h1,h2⟩:=hx.next bs pre.length r (Cl hb) hr;have hn:=Qs hF (Cl hb) hc;rw [h1] at hn;refine ⟨t,?_,h2⟩;rw [List.length_append];exact Ga h hb (EC hc.1 hc.2.1) hn
theorem OO {t:TT} {n nk:Nat} {x str:List UInt8} (b:Bool) (h:t.kind = 2∧t.att = nk∧t.sep = false∧t.pos = n∧t.raw = x∧(if nk = 2 then t.str else x) = str) (hb:t.sep = b∨b = true):TokOk (if b then { t with sep:=true } else t) ⟨2,nk,n,b,x,str⟩:=by
 obtain ⟨h1,h2,h3,h4,h5,h6⟩:=h
 cases b with
 | false=>exact ⟨h1,by simp [IX,h1,h2],h4,by simp [IX,h1,h3],by simp [IX,h1,h2,h5,h6],fun _=>h5⟩
 | true=>exact ⟨h1,by simp [IX,h1,h2],h4,by simp [IX,h1],by simp [IX,h1,h2,h5,h6],fun _=>h5⟩
theorem Qd {bs pre x b r st str:List UInt8} {last nk:Nat} {a:DT} (h:At bs pre.length st last a) (hF:FN st last) (hx:NameLex x nk str) (hk:Blk b) (hb:bs = pre++(x++(b++([58]++r)))) :
  ∃ a',BN bs a = some a'∧a'.tok.kind = 2∧TokOk a'.tok ⟨2,nk,pre.length,true,x,str⟩∧At bs (pre++x++b++[58]).length st 2 a':=by
 obtain ⟨t,h1,h2⟩:=MX h hF hx hb (IA hk (by rfl))
 have hb2:bs = (pre++x)++(b++([58]++r)):=by rw [hb]; simp only [List.append_assoc]
 have hb3:bs = (pre++x++b)++([58]++r):=by rw [hb2]; simp only [List.append_assoc]
 have hg:goT bs (pre++x).length 0 = (pre++x++b).length:=by rw [Oj hb2 hk,J7 hb3 (EC (by decide) (by decide))]
 have hd:bs.drop (goT bs (pre++x).length 0) = 58::r:=by rw [hg,Cl hb3]; try rfl
 rw [Es hd,if_pos (by decide)] at h1;refine ⟨_,h1,h2.1,OO true h2 (.inr rfl),K5 ?_ (Kv hb3) h2.1⟩;rw [hg,Ft,List.length_append (bs:=[58])]
 try rfl
theorem RP {bs pre x b r st str:List UInt8} {c:UInt8} {last nk:Nat} {a:DT} (h:At bs pre.length st last a) (hF:FN st last) (hx:NameLex x nk str) (hk:Blk b) (hb:bs = pre++(x++(b++(c::r)))) (hc:c.toNat = 123∨c.toNat = 60∨c.toNat = 91) :
  ∃ a',BN bs a = some a'∧a'.tok.kind = 2∧TokOk a'.tok ⟨2,nk,pre.length,false,x,str⟩∧At bs (pre++x++b).length st 2 a':=by
 have hbl:Ch c = false:=CY (by omega);obtain ⟨t,h1,h2⟩:=MX h hF hx hb (IA hk (by show DI c = true; unfold DI; simp; omega))
 have hb2:bs = (pre++x)++(b++(c::r)):=by rw [hb]; simp only [List.append_assoc]
 have hb3:bs = (pre++x++b)++(c::r):=by rw [hb2]; simp only [List.append_assoc]
 have hg:goT bs (pre++x).length 0 = (pre++x++b).length:=by rw [Oj hb2 hk,J7 hb3 (EC hbl (by omega))]
 have hd:bs.drop (goT bs (pre++x).length 0) = c::r:=by rw [hg,Cl hb3]
 rw [Es hd,if_neg (by omega)] at h1;refine ⟨_,h1,h2.1,OO false h2 (.inl h2.2.2.1),K5 ?_ (by rw [hb3]; simp) h2.1⟩;rw [hg,J7 hb3 (EC hbl (by omega))]
def MG (r:List UInt8):Prop:=Eo r = true∧ED (csT r) = false
structure ScalLex (x:List UInt8):Prop where
 head:∃ c y,x = c::y∧Ch c = false∧c.toNat≠35∧c.toNat≠123∧c.toNat≠60∧c.toNat≠91∧c.toNat≠93
 next:∀ bs n r,bs.drop n = x++r→MG r→∃ t:TT,Bi bs n = some (t,goT bs (n+x.length) 0)∧t.kind = 3∧t.pos = n∧(ED x = false→t.raw = x)
theorem OY {bs pre x r st:List UInt8} {last:Nat} {a:DT} (h:At bs pre.length st last a) (hV:H7 st last) (hx:ScalLex x) (hb:bs = pre++(x++r)) (hr:MG r) :
  ∃ a',BN bs a = some a'∧a'.tok.kind = 3∧TokOk a'.tok ⟨3,0,pre.length,false,x,[]⟩∧At bs (pre++x).length st 3 a':=by
 obtain ⟨c,y,rfl,h1,h2,h3,h4,h5,h6⟩:=hx.head;obtain ⟨t,g1,g2,g3,g4⟩:=hx.next bs pre.length r (Cl hb) hr;have hn:=Hy hV (Cl hb);rw [if_neg (by omega),if_neg (by omega),if_neg (by omega),g1] at hn;refine ⟨_,Ga h hb (EC h1 h2) hn,g2,⟨g2,by simp [IX,g2],g3,by simp [IX,g2],by simp [IX,g2],g4⟩,K5 ?_ (by rw [hb]; simp) g2⟩;rw [List.length_append]
end
section
theorem Sg {x:List UInt8} (h:RX false x = true):NameLex x 1 x:=by
 obtain ⟨h1,c,y,rfl,hc⟩:=Pl h;unfold Head at hc;refine ⟨⟨c,y,rfl,by unfold K6; exact ⟨hc.1,by omega⟩⟩,fun bs n r hd hr=>?_⟩;have hi:=h1 r hr;refine ⟨⟨2,1,false,0,n,c::y,[]⟩,?_,rfl,rfl,rfl,rfl,rfl,by rw [if_neg (by decide)]⟩
 ·rw [Ft bs n (c::y).length |>.symm];unfold Bh;rw [hd,List.cons_append];simp only;rw [←List.cons_append,if_neg (by omega),hi,if_pos (by simp)];unfold AD;rw [JO hd]
  try rfl
theorem lex_num {x:List UInt8} (h:Ts x = true):NameLex x 3 x:=by
 unfold Ts at h;simp only [Bool.and_eq_true,beq_iff_eq,decide_eq_true_eq] at h;obtain ⟨⟨⟨⟨⟨h1,h2⟩,h3⟩,h4⟩,h5⟩,h6⟩:=h
 cases x with
 | nil=>cases h6
 | cons c y=>
  have hc:48≤c.toNat∧c.toNat≤57:=by unfold AZ at h6; simpa using h6
  refine ⟨⟨c,y,rfl,by unfold K6; exact ⟨CY (by omega),by omega⟩⟩,fun bs n r hd hr=>?_⟩;have hi:=Jr h3 h4 hr;have hn:=Ng h1 h2 hr;refine ⟨⟨2,3,false,0,n,c::y,[]⟩,?_,rfl,rfl,rfl,rfl,rfl,by rw [if_neg (by decide)]⟩
  ·rw [Ft bs n (c::y).length |>.symm];unfold Bh;rw [hd,List.cons_append];simp only
   have hnum:EP (c::(y++r)) = some ⟨0,false,(c::y).length,0⟩:=by
    rw [DC,if_neg (by omega),←List.cons_append,hn]
   have hs:Fp ⟨0,false,(c::y).length,0⟩ (c::(y++r)) = c::y:=by
    unfold Fp;simp only;rw [if_neg (by simp),if_neg (by simp),←List.cons_append,List.take_left]
   rw [←List.cons_append] at hnum hs ⊢;rw [if_neg (by omega),hi,if_neg (by simp),hnum];simp only;rw [hs,if_pos ⟨trivial,trivial,h5⟩];unfold AD;rw [JO hd]
   try rfl
theorem TM {x name:List UInt8} (hok:D7 name = true) (h:∀ r,tnT (csT (x++r)) [] = some (name,r)):NameLex (91::x) 2 name:=by
 refine ⟨⟨91,x,rfl,by unfold K6; decide⟩,fun bs n r hd hr=>?_⟩
 have hd1:bs.drop (n+1) = x++r:=by rw [←List.drop_drop,hd]; try rfl
 have hlen:bs.length = n+(91::x).length+r.length:=by
  have:=congrArg List.length hd;simp at this ⊢; omega
 have htn:tnF (bs.length+1) (csT (bs.drop (n+1))) [] = some (name,r):=by
  rw [hd1,NR (by have:=C6 (x++r); simp at this hlen; omega),h]
 refine ⟨⟨2,2,false,0,n,91::x,name⟩,?_,rfl,rfl,rfl,rfl,rfl,by rw [if_pos rfl]⟩;unfold Bh;rw [hd,List.cons_append];simp only;rw [if_pos (by decide)];unfold D8;rw [htn];simp only;rw [if_pos hok]
 have e:bs.length - r.length = n+(91::x).length:=by omega
 rw [e,show n+(91::x).length - n = (91::x).length by omega,JO hd]
 try rfl
theorem Nk (ps:List UInt8) (s:WS):∃ x nk str,NameLex x nk str∧(DK ps s).out = s.out++x∧(DK ps s).l = s.l++[⟨2,nk,s.out.length,false,x,str⟩]∧(DK ps s).left = s.left:=by
 unfold DK;simp only
 split
 ·obtain ⟨x,hx,h1,h2,h3⟩:=Dv ps EF (Ab ps s) (by decide)
  have hd:(BK ps EF (Ab ps s)).out.drop s.out.length = x:=by rw [h1]; exact List.drop_left
  refine ⟨x,3,x,lex_num (List.all_eq_true.1 Sn x hx),h1,?_,h3⟩;unfold Oy;simp only [hd,h2];rfl
 ·split
  ·obtain ⟨x,h1,h2,h3,h4,h5⟩:=P8 ps (Ab ps s)
   have hd:(DG ps (Ab ps s)).2.out.drop s.out.length = 91::x:=by rw [h1]; exact List.drop_left
   refine ⟨91::x,2,_,TM h4 h5,h1,?_,h3⟩;unfold Oy;simp only [hd,h2];rfl
  ·obtain ⟨x,hx,h1,h2,h3⟩:=Dv ps FI (Ab ps s) (by decide)
   have hd:(BK ps FI (Ab ps s)).out.drop s.out.length = x:=by rw [h1]; exact List.drop_left
   refine ⟨x,1,x,Sg (List.all_eq_true.1 QB x hx),h1,?_,h3⟩;unfold Oy;simp only [hd,h2];rfl
theorem PB {x:List UInt8} (h:RX true x = true):ScalLex x:=by
 obtain ⟨h1,c,y,rfl,hc⟩:=Pl h;unfold Head at hc;refine ⟨⟨c,y,rfl,hc.1,by omega⟩,fun bs n r hd hr=>?_⟩;have hi:=h1 r hr.1;refine ⟨⟨3,3,false,0,n,c::y,[]⟩,?_,rfl,rfl,fun _=>rfl⟩
 ·rw [Ft bs n (c::y).length |>.symm];unfold Bi;rw [hd,List.cons_append];simp only;rw [←List.cons_append,if_neg (by omega),hi,if_pos (by simp)];unfold AD;rw [JO hd]
theorem Qz {b x r:List UInt8} (hb:Blk b) (hx:∃ c y,x = c::y∧(AZ c = true∨c.toNat = 46)):Bb true (45::(b++(x++r))) = 0:=by
 rw [CV,if_pos (by decide)]
 have:Dm (b++(x++r)) = 0:=by
  have key:∀ c l,(Gj c = false)→Dm (c::l) = 0:=fun c l h=>by rw [CB,h]; simp
  cases b with
  | nil=>
   obtain ⟨c,y,rfl,hc⟩:=hx;refine key c _ ?_;unfold AZ at hc;unfold Gj;simp at hc ⊢;omega
  | cons c b=>
   refine key c _ ?_;have h1:=hb [];rw [List.append_nil,CL,IJ,List.length_cons] at h1
   by_cases hbl:Ch c = true
   ·unfold Ch at hbl;unfold Gj;simp at hbl ⊢;omega
   ·rw [if_neg hbl] at h1
    by_cases h35:c.toNat = 35
    ·unfold Gj; rw [h35]; try rfl
    ·rw [if_neg h35] at h1; omega
 rw [if_pos this]
theorem Se {x:List UInt8} (h:J0 x = true):ScalLex x:=by
 obtain ⟨⟨k,h1⟩,h2,c,y,rfl,hc⟩:=Nb h
 have hcb:46≤c.toNat∧c.toNat≤57∧c.toNat≠47:=by unfold AZ at hc; simp at hc; omega
 refine ⟨⟨c,y,rfl,CY (by omega),by omega⟩,fun bs n r hd hr=>?_⟩;have hi:=h2 r hr.1;have hn:=h1 r hr.1;refine ⟨⟨3,1,false,k,n,c::y,Fp ⟨k,false,(c::y).length,0⟩ (c::y++r)⟩,?_,rfl,rfl,fun _=>rfl⟩;rw [Ft bs n (c::y).length |>.symm]
 have hnum:EP (c::(y++r)) = some ⟨k,false,(c::y).length,0⟩:=by
  rw [DC,if_neg (by omega),←List.cons_append,hn]
 unfold Bi;rw [hd,List.cons_append];simp only;rw [←List.cons_append] at hnum ⊢;rw [if_neg (by omega),hi,if_neg (by simp),hnum];simp only;rw [List.take_left,if_neg (by decide)]
 try rfl
theorem Sf {b x:List UInt8} (hb:Blk b) (h:J0 x = true):ScalLex (45::(b++x)):=by
 obtain ⟨⟨k,h1⟩,h2,hx⟩:=Nb h;refine ⟨⟨45,_,rfl,by decide,by decide⟩,fun bs n r hd hr=>?_⟩;have hn:=h1 r hr.1;have hi:=Qz (r:=r) hb hx
 have hsk:skT false (b++(x++r)) = b.length:=by
  rw [hb];obtain ⟨c,y,rfl,hc⟩:=hx
  have hcb:46≤c.toNat∧c.toNat≤57:=by unfold AZ at hc; simp at hc; omega
  rw [List.cons_append,EC (CY (by omega)) (by omega)]
  try rfl
 have hnum:EP (45::(b++(x++r))) = some ⟨k,true,1+b.length+x.length,b.length⟩:=by
  rw [DC,if_pos (by decide),hsk,List.drop_left,hn]
 have hl:(45::(b++x)).length = 1+b.length+x.length:=by simp; omega
 have e:45::(b++x)++r = 45::(b++(x++r)):=by simp
 refine ⟨⟨3,1,false,k+128,n,45::(b++x),Fp ⟨k,true,1+b.length+x.length,b.length⟩ (45::(b++(x++r)))⟩,?_,rfl,rfl,fun _=>rfl⟩;rw [Ft bs n _ |>.symm,hl];unfold Bi;rw [hd,e];simp only;rw [if_neg (by decide),hi,if_neg (by simp),hnum];simp only;rw [if_pos (by decide),←hl,←e,List.take_left]
theorem Pm (ps:List UInt8) (s:WS):∃ x,ScalLex x∧(BH ps s).out = s.out++x∧(BH ps s).l = s.l∧(BH ps s).left = s.left:=by
 -- the number behind the sign
 have body:∀ s1:WS,∃ x,J0 x = true∧(let n:=Af ps s1.k 4
   let s2:=Ab ps s1
   if n = 0 then BK ps Fi s2 else if n = 1 then BK ps Ff s2 else if n = 2 then BK ps E8 s2
   else BK ps E0 (BK ps EK (BK ps Ek s2))).out = s1.out++x∧(let n:=Af ps s1.k 4
   let s2:=Ab ps s1
   if n = 0 then BK ps Fi s2 else if n = 1 then BK ps Ff s2 else if n = 2 then BK ps E8 s2
   else BK ps E0 (BK ps EK (BK ps Ek s2))).l = s1.l∧(let n:=Af ps s1.k 4
   let s2:=Ab ps s1
   if n = 0 then BK ps Fi s2 else if n = 1 then BK ps Ff s2 else if n = 2 then BK ps E8 s2
   else BK ps E0 (BK ps EK (BK ps Ek s2))).left = s1.left:=by
  intro s1;simp only
  have tab:∀ t,t.all J0 = true→0 < t.length→∃ x,J0 x = true∧(BK ps t (Ab ps s1)).out = s1.out++x∧(BK ps t (Ab ps s1)).l = s1.l∧(BK ps t (Ab ps s1)).left = s1.left:=by
   intro t ht h0;obtain ⟨x,hx,h1,h2,h3⟩:=Dv ps t (Ab ps s1) h0;exact ⟨x,List.all_eq_true.1 ht x hx,h1,h2,h3⟩
  have hall:=decs_ok;rw [List.all_append,List.all_append,Bool.and_eq_true,Bool.and_eq_true] at hall
  split
  ·exact tab Fi hall.1.1 (by decide)
  ·split
   ·exact tab Ff hall.1.2 (by decide)
   ·split
    ·exact tab E8 hall.2 (by decide)
    ·obtain ⟨x,hx,h1,h2,h3⟩:=Dv ps Ek (Ab ps s1) (by decide);obtain ⟨y,hy,g1,g2,g3⟩:=Dv ps EK (BK ps Ek (Ab ps s1)) (by decide);obtain ⟨z,hz,f1,f2,f3⟩:=Dv ps E0 (BK ps EK (BK ps Ek (Ab ps s1))) (by decide);have:=List.all_eq_true.1 (List.all_eq_true.1 (List.all_eq_true.1 flts_ok x hx) y hy) z hz;refine ⟨x++y++z,this,?_,by rw [f2,g2,h2]; try rfl,by rw [f3,g3,h3]; try rfl⟩;rw [f1,g1,h1]; simp [Ab]
 unfold BH;simp only
 split
 ·obtain ⟨b,hb,e1,e2,e3⟩:=Dv ps Dk (AW [45] (Ab ps s)) (by decide);obtain ⟨x,hx,h1,h2,h3⟩:=body (BK ps Dk (AW [45] (Ab ps s)));refine ⟨45::(b++x),Sf (QN (by simp [hb])) hx,?_,h2.trans (by rw [e2]; try rfl),h3.trans (by rw [e3]; try rfl)⟩;refine h1.trans ?_;rw [e1]; simp [AW,Ab]
 ·obtain ⟨x,hx,h1,h2,h3⟩:=body (Ab ps s);exact ⟨x,Se hx,h1,h2,h3⟩
def UC (x:List UInt8):Prop:=(∃ c y,x = c::y∧(c.toNat = 34∨c.toNat = 39))∧∀ bs f n r out,bs.drop n = x++r→x.length < f→ED (csT r) = false→∃ s,Da bs f n out = some (s,goT bs (n+x.length) 0)
theorem Hn (bs:List UInt8) (f k:Nat) (out:List UInt8):Da bs (f+1) k out = match bs.drop k with
  | []=>some (out,k)
  | c::r=>if c.toNat = 34∨c.toNat = 39 then (match A7 c.toNat r [] with
    | none=>none
    | some (s,m)=>Da bs f (goT bs k (r.length+1 - m)) (out++s))
   else some (out,k):=rfl
theorem OT {bs x r:List UInt8} {n f:Nat} {out:List UInt8} (hx:Str1 x) (hd:bs.drop n = x++r):∃ s,Da bs (f+1) n out = Da bs f (goT bs (n+x.length) 0) (out++s):=by
 obtain ⟨c,y,rfl,hc,hy⟩:=hx;obtain ⟨s,hs⟩:=hy r;refine ⟨s,?_⟩;rw [Hn,hd,List.cons_append];simp only;rw [if_pos hc,hs];simp only;rw [Ft,show (y++r).length+1 - r.length = (c::y).length by simp; omega]
theorem RM {x:List UInt8} (hx:Str1 x):UC x:=by
 refine ⟨?_,fun bs f n r out hd hf hr=>?_⟩
 ·obtain ⟨c,y,h1,h2,_⟩:=hx; exact ⟨c,y,h1,h2⟩
 ·have hp:0 < x.length:=by obtain ⟨c,y,rfl,_⟩:=hx; simp
  obtain ⟨g,rfl⟩:∃ g,f = g+1+1:=⟨f - 2,by omega⟩;obtain ⟨s,hs⟩:=OT (f:=g+1) (out:=out) hx hd;refine ⟨out++s,hs.trans ?_⟩
  have hd2:bs.drop (goT bs (n+x.length) 0) = csT r:=by
   rw [PR,←List.drop_drop,hd,List.drop_left]
  rw [Hn,hd2]
  rcases hcs:csT r with _ | ⟨c,l⟩
  ·rfl
  ·simp only;rw [hcs] at hr;simp only [ED,Bool.or_eq_false_iff,beq_eq_false_iff_ne] at hr;rw [if_neg (by omega)]
theorem RL {x b y:List UInt8} (hx:Str1 x) (hb:Blk b) (hy:UC y):UC (x++(b++y)):=by
 refine ⟨?_,fun bs f n r out hd hf hr=>?_⟩
 ·obtain ⟨c,z,rfl,h2,_⟩:=hx; exact ⟨c,_,rfl,h2⟩
 ·obtain ⟨g,rfl⟩:∃ g,f = g+1:=⟨f - 1,by omega⟩
  have hp:0 < x.length:=by obtain ⟨c,y,rfl,_⟩:=hx; simp
  have hd0:bs.drop n = x++(b++(y++r)):=by rw [hd]; simp only [List.append_assoc]
  obtain ⟨s,hs⟩:=OT (f:=g) (out:=out) hx hd0
  have hd1:bs.drop (n+x.length) = b++(y++r):=by rw [←List.drop_drop,hd0,List.drop_left]
  have hk:skT false (y++r) = 0:=by
   obtain ⟨c,z,rfl,h2⟩:=hy.1;exact EC (CY (by omega)) (by omega)
  have hg:goT bs (n+x.length) 0 = n+x.length+b.length:=by rw [Gk,hd1,hb,hk]; omega
  have hd2:bs.drop (n+x.length+b.length) = y++r:=by rw [←List.drop_drop,hd1,List.drop_left]
  obtain ⟨s2,hs2⟩:=hy.2 bs g (n+x.length+b.length) r (out++s) hd2 (by simp at hf; omega) hr;refine ⟨s2,?_⟩;rw [hs,hg,hs2,List.length_append,List.length_append]
  congr 3
  omega
theorem MU (ps:List UInt8):∀ (m:Nat) (s:WS),∃ x,UC x∧(Gu ps (m+1) s).out = s.out++x∧(Gu ps (m+1) s).l = s.l∧(Gu ps (m+1) s).left = s.left
 | 0,s=>by
  obtain ⟨x,hx,h1,h2,h3⟩:=OU ps s;exact ⟨x,RM hx,h1,h2,h3⟩
 | m+1,s=>by
  obtain ⟨x,hx,h1,h2,h3⟩:=OU ps s;obtain ⟨b,hb,e1,e2,e3,_⟩:=A8 ps false (EB ps s);obtain ⟨y,hy,f1,f2,f3⟩:=MU ps m (Am ps false (EB ps s))
  have e:Gu ps (m+1+1) s = Gu ps (m+1) (Am ps false (EB ps s)):=by
   rw [Gu,if_pos (by omega)]
  rw [e];exact ⟨x++(b++y),RL hx hb hy,by rw [f1,e1,h1]; simp,by rw [f2,e2,h2],by rw [f3,e3,h3]⟩
theorem TO {x:List UInt8} (h:UC x):ScalLex x:=by
 obtain ⟨⟨c,y,rfl,hc⟩,h2⟩:=h;refine ⟨⟨c,y,rfl,CY (by omega),by omega⟩,fun bs n r hd hr=>?_⟩
 have hlen:bs.length = n+(c::y).length+r.length:=by
  have:=congrArg List.length hd;simp at this ⊢; omega
 obtain ⟨s,hs⟩:=h2 bs (bs.length+1) n r [] hd (by omega) hr.2;refine ⟨⟨3,2,false,0,n,(bs.drop n).take (goT bs (n+(c::y).length) 0 - n),s⟩,?_,rfl,rfl,fun hq=>?_⟩
 ·unfold Bi;rw [hd,List.cons_append];simp only;rw [if_pos hc,hs]
 ·exfalso
  simp only [ED,Bool.or_eq_false_iff,beq_eq_false_iff_ne] at hq;omega
theorem Gv (ps:List UInt8) (s:WS):∃ x,ScalLex x∧(Bn ps s).out = s.out++x∧(Bn ps s).l = s.l++[⟨3,0,s.out.length,false,x,[]⟩]∧(Bn ps s).left = s.left:=by
 have fin:∀ s2:WS,(∃ x,ScalLex x∧s2.out = s.out++x∧s2.l = s.l∧s2.left = s.left)→∃ x,ScalLex x∧(Cu 3 s.out.length s2).out = s.out++x∧(Cu 3 s.out.length s2).l = s.l++[⟨3,0,s.out.length,false,x,[]⟩]∧(Cu 3 s.out.length s2).left = s.left:=by
  rintro s2 ⟨x,hx,h1,h2,h3⟩;refine ⟨x,hx,h1,?_,h3⟩;unfold Cu;simp only [h2,h1,List.drop_left]
 unfold Bn;simp only;refine fin _ ?_
 split
 ·exact Pm ps (Ab ps s)
 ·split
  ·obtain ⟨x,hx,h1,h2,h3⟩:=Dv ps Jp (Ab ps s) (by decide);exact ⟨x,PB (List.all_eq_true.1 lits_ok x hx),h1,h2,h3⟩
  ·rw [Nat.add_comm 1];obtain ⟨x,hx,h1,h2,h3⟩:=MU ps (Af ps (Ab ps s).k 3) (Ab ps (Ab ps s));exact ⟨x,TO hx,h1,h2,h3⟩
end
end Go.Proofs.YtgdnpnipahegaaaGreatDoor
