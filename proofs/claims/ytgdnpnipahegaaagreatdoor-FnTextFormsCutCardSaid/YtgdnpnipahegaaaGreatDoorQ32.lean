/-
 A string that the reference's writer of the text form writes, in any of its ways, is one for the package's reader, up to its quotation mark. Plain functions.
-/
import Derived.Test.YtgdnpnipahegaaaGreatDoorQ31
namespace Go.Proofs.YtgdnpnipahegaaaGreatDoor
section
theorem GG (q:Nat):∀ (f:Nat) (l out:List UInt8),FS q f l out = (FS q f l []).map fun x=>(out++x.1,x.2)
 | 0,_,_=>rfl
 | f+1,l,out=>by
  unfold FS
  rcases hu:BE l with _ | ⟨c,n⟩
  ·rfl
  ·simp only
   split
   ·rfl
   ·split
    ·simp
    ·split
     ·rcases he:Hd l with _ | ⟨b,m⟩
      ·rfl
      ·simp only [List.nil_append];rw [GG q f (l.drop m) (out++b),GG q f (l.drop m) b,Option.map_map]
       congr 1
       funext x
       simp
     ·simp only [List.nil_append];rw [GG q f (l.drop n) (out++l.take n),GG q f (l.drop n) (l.take n),Option.map_map]
      congr 1
      funext x
      simp
theorem NU (q:Nat) (l out:List UInt8):AZ q l out = (AZ q l []).map fun x=>(out++x.1,x.2):=GG q _ l out
def Ends1 (q n:Nat) (l:List UInt8):Prop:=∃ s,AZ q l [] = some (s,n)
variable {q n:Nat}
theorem Ends1.of {l out s:List UInt8} (h:AZ q l out = some (s,n)):Ends1 q n l:=by
 rw [NU] at h
 rcases hs:AZ q l [] with _ | ⟨t,m⟩
 ·rw [hs] at h; cases h
 ·rw [hs] at h;cases h;exact ⟨t,hs⟩
theorem Ends1.all {l:List UInt8} (h:Ends1 q n l) (out:List UInt8):∃ s,AZ q l out = some (s,n):=by
 obtain ⟨s,hs⟩:=h;rw [NU,hs];exact ⟨_,rfl⟩
theorem Ends1.same {l l2 o o2:List UInt8} (e:AZ q l o = AZ q l2 o2):Ends1 q n l↔Ends1 q n l2:=by
 constructor
 ·intro h;obtain ⟨s,hs⟩:=h.all o;exact .of (e ▸ hs)
 ·intro h;obtain ⟨s,hs⟩:=h.all o2;exact .of (e.trans hs)
theorem Ends1.mark {c:UInt8} {r:List UInt8} (hc:c.toNat = q) (hq:q = 34∨q = 39):Ends1 q r.length (c::r):=by
 have hu:BE (c::r) = some (c.toNat,1):=by rw [Bo,if_pos (by omega)]
 exact ⟨[],by rw [Du hu,if_neg (by omega),if_pos hc]; simp⟩
theorem Ends1.plain {c:UInt8} {l:List UInt8} (h:c.toNat < 128) (h1:c.toNat≠0) (h2:c.toNat≠10) (h3:c.toNat≠q) (h4:c.toNat≠92):Ends1 q n (c::l)↔Ends1 q n l:=by
 have hu:BE (c::l) = some (c.toNat,1):=by rw [Bo,if_pos h]
 refine Ends1.same (o:=[]) (o2:=[c]) ?_;rw [Du hu,if_neg (by omega),if_neg h3,if_neg h4];simp
theorem Ends1.dropRun {p:UInt8→Bool} (hp:∀ c,p c = true→c.toNat < 128∧c.toNat≠0∧c.toNat≠10∧c.toNat≠q∧c.toNat≠92):∀ (k:Nat) (l:List UInt8),k≤Aq p l→Ends1 q n l→Ends1 q n (l.drop k)
 | 0,l,_,h=>h
 | k+1,[],hk,_=>by simp [Aq] at hk
 | k+1,c::l,hk,h=>by
  rw [BB] at hk
  cases hc:p c with
  | false=>rw [hc] at hk; simp at hk
  | true=>
   rw [hc,if_pos rfl] at hk;obtain ⟨a,b,d,e,f⟩:=hp c hc;rw [List.drop_succ_cons];exact Ends1.dropRun hp k l (by omega) ((Ends1.plain a b d e f).1 h)
theorem Ends1.esc (hq:q = 34∨q = 39) {l b:List UInt8} {m:Nat} (he:Hd (92::l) = some (b,m)) (h:Ends1 q n ((92::l).drop m)):Ends1 q n (92::l):=by
 have hu:BE (92::l) = some (92,1):=by rw [Bo]; try rfl
 obtain ⟨s,hs⟩:=h.all b;refine .of (out:=[]) (s:=s) ?_;rw [Du hu,if_neg (by omega),if_neg (by omega),if_pos rfl,he];exact hs
theorem JV {p:UInt8→Bool}:∀ (y l:List UInt8),y.all p = true→Aq p (y++l) = y.length+Aq p l
 | [],l,_=>by simp
 | c::y,l,h=>by
  simp only [List.all_cons,Bool.and_eq_true] at h;rw [List.cons_append,BB,h.1,if_pos rfl,JV y l h.2,List.length_cons]; omega
theorem QQ {q:Nat} (hq:q = 34∨q = 39) {c:UInt8} (h:AK c = true):c.toNat < 128∧c.toNat≠0∧c.toNat≠10∧c.toNat≠q∧c.toNat≠92:=by
 unfold AK at h; simp at h; omega
theorem Rc {q:Nat} (hq:q = 34∨q = 39) {c:UInt8} (h:AO c = true):c.toNat < 128∧c.toNat≠0∧c.toNat≠10∧c.toNat≠q∧c.toNat≠92:=by
 unfold AO at h; simp at h; omega
def P7:List UInt8→Bool
 | [b,c]=>b == 92 && D8 c.toNat != 0
 | _=>false
theorem sims_ok:Gv.all P7 = true:=by decide +kernel
theorem SX (hq:q = 34∨q = 39) {x l:List UInt8} (hx:P7 x = true) (h:Ends1 q n l):Ends1 q n (x++l):=by
 match x,hx with
 | [b,c],hx=>
  simp only [P7,Bool.and_eq_true,beq_iff_eq,bne_iff_ne] at hx;obtain ⟨rfl,hc⟩:=hx;refine Ends1.esc (b:=[UInt8.ofNat (D8 c.toNat)]) (m:=2) hq ?_ (by simpa using h)
  show Hd (92::c::l) = _
  rw [BJ,if_pos hc]
def P9:List UInt8→Bool
 | b::c::y=>b == 92 && decide (c.toNat≤51) && AK c && y.all AK && decide (y.length≤2)
 | _=>false
theorem octs_ok:Gz.all P9 = true:=by decide +kernel
theorem Se (z:List UInt8) (hl:z.length≤3) (h:∀ c ∈ z,AK c = true) (h1:∀ c y,z = c::y→c.toNat≤51):Gy 0 z≤255:=by
 have ho:∀ c ∈ z,c.toNat≤55:=fun c hc=>by have:=h c hc; unfold AK at this; simp at this; omega
 clear h
 rcases z with _ | ⟨a,_ | ⟨b,_ | ⟨c,_ | ⟨d,y⟩⟩⟩⟩
 ·exact Nat.zero_le _
 ·have:=h1 a [] rfl
  show 0 * 8+(a.toNat - 48)≤255
  omega
 ·have:=h1 a [b] rfl;have:=ho b (by simp)
  show (0 * 8+(a.toNat - 48)) * 8+(b.toNat - 48)≤255
  omega
 ·have:=h1 a [b,c] rfl;have:=ho b (by simp);have:=ho c (by simp)
  show ((0 * 8+(a.toNat - 48)) * 8+(b.toNat - 48)) * 8+(c.toNat - 48)≤255
  omega
 ·simp at hl
theorem SZ (hq:q = 34∨q = 39) {x l:List UInt8} (hx:P9 x = true) (h:Ends1 q n l):Ends1 q n (x++l):=by
 match x,hx with
 | b::c::y,hx=>
  simp only [P9,Bool.and_eq_true,beq_iff_eq,decide_eq_true_eq] at hx;obtain ⟨⟨⟨⟨rfl,h51⟩,hc⟩,hy⟩,hl⟩:=hx;have hrun:Aq AK (c::y++l) = (y.length+1)+Aq AK l:=JV (c::y) l (by simp only [List.all_cons,hc,hy,Bool.and_self]);have hr3:=Bp AK (c::y++l)
  have he1:D8 c.toNat = 0:=by
   unfold AK at hc; simp at hc;unfold D8
   repeat (first | (rw [if_neg (by omega)]))
  have hov:¬ 255 < Gy 0 ((c::y++l).take (min 3 (Aq AK (c::y++l)))):=by
   have:=Se ((c::y++l).take (min 3 (Aq AK (c::y++l)))) (by rw [List.length_take]; omega) ?_ ?_
   ·omega
   ·intro d hd;refine Hw AK (c::y++l) d ?_;exact (List.take_subset_take_left _ (Nat.min_le_right _ _)) hd
   ·intro d z hz;rw [hrun,show min 3 (y.length+1+Aq AK l) = (min 3 (y.length+1+Aq AK l) - 1)+1 by omega,List.cons_append,List.take_succ_cons] at hz
    injection hz with hz
    rw [←hz]; exact h51
  refine Ends1.esc hq (b:=[UInt8.ofNat (Gy 0 ((c::y++l).take (min 3 (Aq AK (c::y++l)))))]) (m:=1+min 3 (Aq AK (c::y++l))) ?_ ?_
  ·show Hd (92::c::(y++l)) = _
   rw [BJ,if_neg (by simpa using he1),if_pos hc];unfold LV;rw [←List.cons_append,if_neg hov]
  ·show Ends1 q n ((92::(c::y++l)).drop _)
   rw [Nat.add_comm,List.drop_succ_cons,hrun]
   have e:(c::y++l).drop (min 3 (y.length+1+Aq AK l)) = l.drop (min 3 (y.length+1+Aq AK l) - (y.length+1)):=by
    rw [List.drop_append,List.drop_of_length_le (by simp; omega)];simp
   rw [e];exact Ends1.dropRun (p:=AK) (fun _ hc=>QQ hq hc) _ l (by omega) h
theorem SF {c:UInt8} (h:AO c = true):E7 c.toNat < 16:=by
 have hall:∀ c:Fin 256,AO (UInt8.ofNat c.val) = true→E7 (UInt8.ofNat c.val).toNat < 16:=by decide +kernel
 have:=hall ⟨c.toNat,c.toNat_lt⟩;simp at this
 simpa using this (by simpa using h)
theorem Mw:∀ (l:List UInt8) (acc:Nat),(∀ c ∈ l,AO c = true)→∃ v,CI acc l = some v
 | [],acc,_=>⟨acc,rfl⟩
 | c::l,acc,h=>by
  unfold CI;rw [if_pos (SF (h c (by simp)))];exact Mw l _ (fun d hd=>h d (by simp [hd]))
def Qa:List UInt8→Bool
 | b::c::d::y=>b == 92 && c == 120 && (d::y).all AO && decide (y.length≤1)
 | _=>false
theorem hexs_ok:GB.all Qa = true:=by decide +kernel
theorem S1 (hq:q = 34∨q = 39) {x l:List UInt8} (hx:Qa x = true) (h:Ends1 q n l):Ends1 q n (x++l):=by
 match x,hx with
 | b::c::d::y,hx=>
  simp only [Qa,Bool.and_eq_true,beq_iff_eq,decide_eq_true_eq] at hx;obtain ⟨⟨⟨rfl,rfl⟩,hy⟩,hl⟩:=hx;have hrun:Aq AO (d::y++l) = (y.length+1)+Aq AO l:=JV (d::y) l hy;obtain ⟨v,hv⟩:=Mw ((d::y++l).take (min 2 (Aq AO (d::y++l)))) 0 (fun e he=>Hw AO (d::y++l) e ((List.take_subset_take_left _ (Nat.min_le_right _ _)) he));refine Ends1.esc hq (b:=[UInt8.ofNat v]) (m:=2+min 2 (Aq AO (d::y++l))) ?_ ?_
  ·show Hd (92::120::(d::y++l)) = _
   rw [BJ,if_neg (by decide),if_neg (by decide),if_pos (by decide)];unfold H5;rw [if_neg (by omega),hv]
  ·show Ends1 q n ((92::120::(d::y++l)).drop _)
   rw [Nat.add_comm,List.drop_succ_cons,List.drop_succ_cons,hrun]
   have e:(d::y++l).drop (min 2 (y.length+1+Aq AO l)) = l.drop (min 2 (y.length+1+Aq AO l) - (y.length+1)):=by
    rw [List.drop_append,List.drop_of_length_le (by simp; omega)];simp
   rw [e];exact Ends1.dropRun (p:=AO) (fun _ hc=>Rc hq hc) _ l (by omega) h
def P6:List UInt8→Bool
 | b::c::y=>b == 92 && (c == 117 && y.length == 4 || c == 85 && y.length == 8) && (match CI 0 y with
  | none=>false
  | some v=>decide (v≤1114111) && !FR v)
 | _=>false
theorem unis_ok:Gs.all P6 = true:=by decide +kernel
theorem SW (hq:q = 34∨q = 39) {x l:List UInt8} (hx:P6 x = true) (h:Ends1 q n l):Ends1 q n (x++l):=by
 match x,hx with
 | b::c::y,hx=>
  simp only [P6,Bool.and_eq_true,Bool.or_eq_true,beq_iff_eq] at hx;obtain ⟨⟨rfl,hc⟩,hv⟩:=hx
  rcases hx:CI 0 y with _ | v
  ·rw [hx] at hv; cases hv
  ·rw [hx] at hv;simp at hv
   have hu:∀ d,y.length = d→EK d (92::c::y++l) = some (Fu v,d+2):=by
    intro d hd;unfold EK;rw [if_neg (by simp; omega)]
    show (match CI 0 ((y++l).take d) with | none=>_ | some v=>_) = _
    rw [←hd,List.take_left,hx];simp only;rw [if_neg (by omega),if_pos hv.2]
   rcases hc with ⟨rfl,hl⟩ | ⟨rfl,hl⟩
   ·refine Ends1.esc hq (b:=Fu v) (m:=6) ?_ ?_
    ·show Hd (92::117::(y++l)) = _
     rw [BJ,if_neg (by decide),if_neg (by decide),if_neg (by decide),if_pos (by decide)];exact hu 4 hl
    ·show Ends1 q n ((y++l).drop 4)
     rw [←hl,List.drop_left]; exact h
   ·refine Ends1.esc hq (b:=Fu v) (m:=10) ?_ ?_
    ·show Hd (92::85::(y++l)) = _
     rw [BJ,if_neg (by decide),if_neg (by decide),if_neg (by decide),if_neg (by decide),if_pos (by decide)];exact hu 8 hl
    ·show Ends1 q n ((y++l).drop 8)
     rw [←hl,List.drop_left]; exact h
def P8 (x:List UInt8):Bool:=match BE x with
 | none=>false
 | some (c,k)=>k == x.length && !(c == 0 || c == 10 || c == 34 || c == 39 || c == 92)
theorem raws_ok:Gw.all P8 = true:=by decide +kernel
theorem SY (hq:q = 34∨q = 39) {x l:List UInt8} (hx:P8 x = true) (h:Ends1 q n l):Ends1 q n (x++l):=by
 unfold P8 at hx
 rcases hu:BE x with _ | ⟨c,k⟩
 ·rw [hu] at hx; cases hx
 ·rw [hu] at hx;simp at hx;obtain ⟨rfl,hc⟩:=hx;have hu2:=F9 hu (r:=l);rw [List.take_length] at hu2;refine (Ends1.same (o:=[]) (o2:=x) (l2:=l) ?_).2 h;rw [Du hu2,if_neg (by omega),if_neg (by omega),if_neg (by omega),List.drop_left,List.take_left];simp
theorem Rh (ps:List UInt8) (hq:q = 34∨q = 39) (s:WS):∃ x,(BC ps q s).out = s.out++x∧(BC ps q s).l = s.l∧(BC ps q s).left = s.left∧∀ n l,Ends1 q n l→Ends1 q n (x++l):=by
 have tab:∀ (tab:List (List UInt8)) (ok:List UInt8→Bool) (s1:WS),0 < tab.length→s1.out = s.out→s1.l = s.l→s1.left = s.left→tab.all ok = true→(∀ x,ok x = true→∀ n l,Ends1 q n l→Ends1 q n (x++l))→
   ∃ x,(BH ps tab s1).out = s.out++x∧(BH ps tab s1).l = s.l∧(BH ps tab s1).left = s.left∧∀ n l,Ends1 q n l→Ends1 q n (x++l):=by
  intro tab ok s1 h0 e1 e2 e3 hall hok;obtain ⟨x,hx,h1,h2,h3⟩:=Ds ps tab s1 h0;exact ⟨x,by rw [h1,e1],by rw [h2,e2],by rw [h3,e3],hok x (List.all_eq_true.1 hall x hx)⟩
 unfold BC;simp only
 split
 ·refine ⟨_,rfl,rfl,rfl,fun n l h=>?_⟩;have hp:=Jp ps (Ab ps s).k 95 (by decide);generalize Ah ps (Ab ps s).k 95 = v at *;rw [List.singleton_append]
  have hc:∀ z,z < 128→(UInt8.ofNat z).toNat = z:=fun z hz=>by simp [Nat.mod_eq_of_lt (show z < 256 by omega)]
  split
  ·rw [Ends1.plain]
   ·exact h
   all_goals rw [hc 113 (by decide)]; omega
  ·rename_i hne
   rw [Ends1.plain]
   ·exact h
   all_goals rw [hc _ (by omega)]; omega
 ·split
  ·exact tab Gv P7 _ (by decide) rfl rfl rfl sims_ok fun x hx n l h=>SX hq hx h
  ·split
   ·exact tab Gz P9 _ (by decide) rfl rfl rfl octs_ok fun x hx n l h=>SZ hq hx h
   ·split
    ·exact tab GB Qa _ (by decide) rfl rfl rfl hexs_ok fun x hx n l h=>S1 hq hx h
    ·split
     ·exact tab Gs P6 _ (by decide) rfl rfl rfl unis_ok fun x hx n l h=>SW hq hx h
     ·exact tab Gw P8 _ (by decide) rfl rfl rfl raws_ok fun x hx n l h=>SY hq hx h
theorem LO (ps:List UInt8) (hq:q = 34∨q = 39):∀ (m:Nat) (s:WS),∃ x,(Dp ps q m s).out = s.out++x∧(Dp ps q m s).l = s.l∧(Dp ps q m s).left = s.left∧∀ n l,Ends1 q n l→Ends1 q n (x++l)
 | 0,s=>⟨[],by simp [Dp],rfl,rfl,fun n l h=>h⟩
 | m+1,s=>by
  obtain ⟨x,e1,e2,e3,h⟩:=Rh ps hq s;obtain ⟨y,f1,f2,f3,g⟩:=LO ps hq m (BC ps q s);exact ⟨x++y,by rw [Dp,f1,e1,List.append_assoc],by rw [Dp,f2,e2],by rw [Dp,f3,e3],fun n l hl=>by rw [List.append_assoc]; exact h n _ (g n l hl)⟩
def Str1 (x:List UInt8):Prop:=∃ c y,x = c::y∧(c.toNat = 34∨c.toNat = 39)∧∀ r,Ends1 c.toNat r.length (y++r)
theorem NS (ps:List UInt8) (s:WS):∃ x,Str1 x∧(Ex ps s).out = s.out++x∧(Ex ps s).l = s.l∧(Ex ps s).left = s.left:=by
 unfold Ex;simp only;generalize hqq:(if 0 < Ah ps s.k 2 then 39 else 34:Nat) = q
 have hq:q = 34∨q = 39:=by rw [←hqq]; split <;> simp
 obtain ⟨x,e1,e2,e3,h⟩:=LO (q:=q) ps hq (Ah ps (AU [UInt8.ofNat q] (Ab ps s)).k 8) (Ab ps (AU [UInt8.ofNat q] (Ab ps s)))
 have hc:(UInt8.ofNat q).toNat = q:=by rcases hq with rfl | rfl <;> rfl
 refine ⟨UInt8.ofNat q::(x++[UInt8.ofNat q]),⟨_,_,rfl,by rw [hc]; exact hq,fun r=>?_⟩,?_,e2,e3⟩
 ·rw [hc,List.append_assoc];exact h _ _ (Ends1.mark hc hq)
 ·show (Dp ps q _ _).out++_ = _
  rw [e1]
  show (s.out++[_])++_++_ = _
  simp
end
section
theorem KR:∀ (f g:Nat) (l name:List UInt8),l.length≤f→l.length≤g→tnF f l name = tnF g l name
 | 0,0,_,_,_,_=>rfl
 | 0,g+1,l,name,h,_=>by
  have:l = []:=List.eq_nil_of_length_eq_zero (by omega);subst this; rfl
 | f+1,0,l,name,_,h=>by
  have:l = []:=List.eq_nil_of_length_eq_zero (by omega);subst this; rfl
 | f+1,g+1,[],name,_,_=>rfl
 | f+1,g+1,c::r,name,hf,hg=>by
  simp only [List.length_cons] at hf hg;have hc:=C3 r;rw [D6,D6]
  split
  ·rfl
  ·split
   ·exact KR f g _ _ (by omega) (by omega)
   ·split
    ·rcases r with _ | ⟨a,_ | ⟨b,r2⟩⟩
     ·rfl
     ·rfl
     ·simp only
      split
      ·have:=C3 r2;simp only [List.length_cons] at hf hg;exact KR f g _ _ (by omega) (by omega)
      ·rfl
    ·rfl
def tnT (l name:List UInt8):Option (List UInt8 × List UInt8):=tnF l.length l name
theorem MW {f:Nat} {l name:List UInt8} (h:l.length≤f):tnF f l name = tnT l name:=KR _ _ _ _ h (Nat.le_refl _)
theorem Jf (c:UInt8) (r name:List UInt8):tnT (c::r) name = if c.toNat = 93 then some (name,r) else if c.toNat = 47∨tnC c = true∨EJ c = true then tnT (csT r) (name++[c])
  else if c.toNat = 37 then (match r with
   | a::b::r2=>if AO a && AO b then tnT (csT r2) (name++[c,a,b]) else none
   | _=>none)
  else none:=by
 have hc:=C3 r
 conv=>lhs; unfold tnT
 rw [List.length_cons,D6]
 split
 ·rfl
 ·split
  ·exact MW hc
  ·split
   ·rcases r with _ | ⟨a,_ | ⟨b,r2⟩⟩
    ·rfl
    ·rfl
    ·simp only
     split
     ·have:=C3 r2;exact MW (by simp only [List.length_cons]; omega)
     ·rfl
   ·rfl
def HJ:List UInt8→Bool
 | []=>true
 | [c]=>c.toNat == 47 || tnC c || EJ c
 | [c,d]=>(c.toNat == 47 || tnC c || EJ c) && HJ [d]
 | c::a::b::r=>if c.toNat == 47 || tnC c || EJ c then HJ (a::b::r) else c.toNat == 37 && AO a && AO b && HJ r
theorem PU {c:UInt8} (h:(c.toNat == 47 || tnC c || EJ c) = true∨c.toNat = 37):Cc c = false∧c.toNat≠35∧c.toNat≠93:=by
 have hall:∀ c:Fin 256,((UInt8.ofNat c.val).toNat == 47 || tnC (UInt8.ofNat c.val) || EJ (UInt8.ofNat c.val)) = true∨(UInt8.ofNat c.val).toNat = 37→Cc (UInt8.ofNat c.val) = false∧(UInt8.ofNat c.val).toNat≠35∧(UInt8.ofNat c.val).toNat≠93:=by decide +kernel
 have:=hall ⟨c.toNat,c.toNat_lt⟩;simp only [UInt8.ofNat_toNat] at this;exact this h
theorem MY {c:UInt8} (h:(c.toNat == 47 || tnC c || EJ c) = true) (l name:List UInt8):tnT (csT (c::l)) name = tnT (csT l) (name++[c]):=by
 obtain ⟨h1,h2,h3⟩:=PU (.inl h);rw [JF h1 h2,Jf,if_neg h3,if_pos (by simpa [or_assoc] using h)]
theorem Je:∀ (p l name:List UInt8),HJ p = true→tnT (csT (p++l)) name = tnT (csT l) (name++p)
 | [],l,name,_=>by simp
 | [c],l,name,h=>by
  rw [List.singleton_append,MY h]
 | [c,d],l,name,h=>by
  simp only [HJ,Bool.and_eq_true] at h
  show tnT (csT (c::d::l)) name = _
  rw [MY h.1,MY h.2,List.append_assoc]
  try rfl
 | c::a::b::r,l,name,h=>by
  unfold HJ at h
  split at h
  ·rename_i hc
   rw [List.cons_append,MY hc,Je (a::b::r) l _ h,List.append_assoc]
   try rfl
  ·rename_i hc
   simp only [Bool.and_eq_true,beq_iff_eq] at h;obtain ⟨⟨⟨h37,ha⟩,hb⟩,hr⟩:=h;obtain ⟨h1,h2,h3⟩:=PU (c:=c) (.inr h37)
   show tnT (csT (c::a::b::(r++l))) name = _
   rw [JF h1 h2,Jf,if_neg h3,if_neg (by simpa [or_assoc] using hc),if_pos h37];simp only [ha,hb,Bool.and_self,if_true];rw [Je r l _ hr,List.append_assoc]
   try rfl
theorem R8:(Ch.all fun l=>l.all HJ && D4 l.flatten) = true:=by decide +kernel
theorem IL (ps:List UInt8):∀ (l:List (List UInt8)) (str:List UInt8) (s:WS),l.all HJ = true→∃ y,(C7 ps l str s).2.out = s.out++y∧(C7 ps l str s).2.l = s.l∧(C7 ps l str s).2.left = s.left∧(C7 ps l str s).1 = str++l.flatten∧
  ∀ r name,tnT (csT (y++r)) name = tnT (csT r) (name++l.flatten)
 | [],str,s,_=>⟨[],by simp [C7],rfl,rfl,by simp [C7],fun r name=>by simp⟩
 | x::l,str,s,h=>by
  simp only [List.all_cons,Bool.and_eq_true] at h;unfold C7
  split
  ·obtain ⟨b,hb,e1,e2,e3,_⟩:=A4 ps false (AU x s);obtain ⟨y,f1,f2,f3,f4,f5⟩:=IL ps l (str++x) (Al ps false (AU x s)) h.2;refine ⟨x++(b++y),?_,by rw [f2,e2]; try rfl,by rw [f3,e3]; try rfl,by rw [f4]; simp,fun r name=>?_⟩
   ·rw [f1,e1]; simp [AU]
   ·rw [List.append_assoc,Je x _ _ h.1,List.append_assoc,KE hb,f5]; simp
  ·obtain ⟨y,f1,f2,f3,f4,f5⟩:=IL ps l (str++x) (AU x s) h.2;refine ⟨x++y,?_,f2,f3,by rw [f4]; simp,fun r name=>?_⟩
   ·rw [f1]; simp [AU]
   ·rw [List.append_assoc,Je x _ _ h.1,f5]; simp
theorem O6 (ps:List UInt8) (s:WS):∃ x,(DD ps s).2.out = s.out++(91::x)∧(DD ps s).2.l = s.l∧(DD ps s).2.left = s.left∧D4 (DD ps s).1 = true∧
  ∀ r,tnT (csT (x++r)) [] = some ((DD ps s).1,r):=by
 have hm:Ch.getD (Ah ps s.k 5) [] ∈ Ch:=by
  have h:Ah ps s.k 5 < Ch.length:=Jp ps s.k 5 (by decide);rw [List.getD_eq_getElem?_getD,List.getElem?_eq_getElem h]; exact List.getElem_mem h
 have hok:=List.all_eq_true.1 R8 _ hm;simp only [Bool.and_eq_true] at hok;unfold DD;simp only;obtain ⟨b,hb,e1,e2,e3,_⟩:=A4 ps false (AU [91] (Ab ps s));obtain ⟨y,f1,f2,f3,f4,f5⟩:=IL ps (Ch.getD (Ah ps s.k 5) []) [] (Al ps false (AU [91] (Ab ps s))) hok.1;generalize C7 ps (Ch.getD (Ah ps s.k 5) []) [] (Al ps false (AU [91] (Ab ps s))) = R at *;obtain ⟨b2,hb2,g1,g2,g3,_⟩:=A4 ps false R.2;refine ⟨b++(y++(b2++[93])),?_,?_,?_,?_,fun r=>?_⟩
 ·show (Al ps false R.2).out++[93] = _
  rw [g1,f1,e1]; simp [AU,Ab]
 ·show (Al ps false R.2).l = _
  rw [g2,f2,e2]; try rfl
 ·show (Al ps false R.2).left = _
  rw [g3,f3,e3]; try rfl
 ·rw [f4]; simpa using hok.2
 ·simp only [List.append_assoc];rw [KE hb,f5,KE hb2,f4];rw [show csT ([93]++r) = 93::r from JF (by decide) (by decide),Jf,if_pos (by decide)]
end
section
theorem F3 (bs:List UInt8) (n:Nat):goT bs n 0 = n+skT false (bs.drop n):=by unfold goT; rw [Nat.add_zero]
theorem Fh (bs:List UInt8) (n m:Nat):goT bs n m = goT bs (n+m) 0:=by unfold goT; rw [Nat.add_zero]
theorem RO (l:List UInt8):skT false (csT l) = 0:=by
 have key:∀ (l:List UInt8) (b:Bool),skT false (l.drop (skT b l)) = 0:=by
  intro l
  induction l with
  | nil=>intro b; cases b <;> simp [Ig]
  | cons c l ih=>
   intro b
   cases b with
   | true=>rw [GH,List.drop_succ_cons]; exact ih _
   | false=>
    rw [CM]
    split
    ·rw [List.drop_succ_cons]; exact ih _
    ·rename_i h1
     split
     ·rw [List.drop_succ_cons]; exact ih _
     ·rename_i h2
      rw [List.drop_zero,CM,if_neg h1,if_neg h2]
 exact key l false
theorem OO (bs:List UInt8) (n:Nat):bs.drop (goT bs n 0) = csT (bs.drop n):=by rw [F3,←List.drop_drop]; try rfl
theorem SN (bs:List UInt8) (n:Nat):goT bs (goT bs n 0) 0 = goT bs n 0:=by
 rw [F3 bs (goT bs n 0),OO,RO,Nat.add_zero]
theorem Cg {bs pre r:List UInt8} (hb:bs = pre++r):bs.drop pre.length = r:=by rw [hb]; exact List.drop_left
theorem Nl {bs pre x r:List UInt8} (hb:bs = pre++(x++r)) (hx:Blk x):goT bs pre.length 0 = goT bs (pre++x).length 0:=by
 rw [F3,F3,Cg hb,Cg (pre:=pre++x) (r:=r) (by rw [hb,List.append_assoc]),hx,List.length_append]; omega
theorem JA {bs pre r:List UInt8} (hb:bs = pre++r) (hr:skT false r = 0):goT bs pre.length 0 = pre.length:=by rw [F3,Cg hb,hr]; try rfl
def IM (t:TT):TX:=⟨t.kind,if t.kind = 2 then t.att else 0,t.pos,if t.kind = 2 then t.sep else false,t.raw,if t.kind = 2 then (if t.att = 2 then t.str else t.raw) else []⟩
def Fo:List UInt8→Bool
 | []=>false
 | c::_=>c.toNat == 34 || c.toNat == 39
structure TokOk (t:TT) (x:TX):Prop where
 kind:(IM t).kind = x.kind
 nk:(IM t).nk = x.nk
 pos:(IM t).pos = x.pos
 sep:(IM t).sep = x.sep
 str:(IM t).str = x.str
 raw:Fo x.raw = false→(IM t).raw = x.raw
inductive ToksOk:List TT→List TX→Prop
 | nil:ToksOk [] []
 | cons {t:TT} {x:TX} {l:List TT} {m:List TX}:TokOk t x→ToksOk l m→ToksOk (t::l) (x::m)
theorem ToksOk.append {l l2:List TT} {m m2:List TX} (h:ToksOk l m) (k:ToksOk l2 m2):ToksOk (l++l2) (m++m2):=by
 induction h with
 | nil=>exact k
 | cons h1 _ ih=>exact .cons h1 ih
theorem ToksOk.length {l:List TT} {m:List TX} (h:ToksOk l m):l.length = m.length:=by
 induction h with
 | nil=>rfl
 | cons _ _ ih=>simp only [List.length_cons,ih]
def Cm (n:Nat):Prop:=n = 8∨n = 9
inductive Chain (bs:List UInt8):DT→List TT→DT→Prop
 | nil (s:DT):Chain bs s [] s
 | tok {s s1 t:DT} {l:List TT}:BK bs s = some s1→¬ Cm s1.tok.kind→s1.tok.kind≠1→Chain bs s1 l t→Chain bs s (s1.tok::l) t
 | comma {s s1 t:DT} {l:List TT}:BK bs s = some s1→Cm s1.tok.kind→Chain bs s1 l t→Chain bs s l t
theorem Chain.trans {bs:List UInt8} {s t u:DT} {l m:List TT} (h:Chain bs s l t) (k:Chain bs t m u):Chain bs s (l++m) u:=by
 induction h with
 | nil s=>exact k
 | tok h1 h2 h3 _ ih=>exact .tok h1 h2 h3 (ih k)
 | comma h1 h2 _ ih=>exact .comma h1 h2 (ih k)
theorem Chain.facts {bs:List UInt8} {s t:DT} {l:List TT} (h:Chain bs s l t) (hk:s.k≤bs.length):t.bad = s.bad∧t.k≤bs.length∧s.k+l.length≤t.k∧(s.peeked = false→t.peeked = false):=by
 induction h with
 | nil s=>exact ⟨rfl,hk,by simp,fun h=>h⟩
 | tok h1 h2 h3 _ ih=>
  have ho:=Ea h1 hk;have:=ih ho.2.2.1;refine ⟨this.1.trans ho.2.1,this.2.1,?_,fun _=>this.2.2.2 ho.1⟩;have:=ho.2.2.2.2.1 h3;simp only [List.length_cons]; omega
 | comma h1 h2 _ ih=>
  have ho:=Ea h1 hk;have:=ih ho.2.2.1;exact ⟨this.1.trans ho.2.1,this.2.1,by omega,fun _=>this.2.2.2 ho.1⟩
theorem IG {bs:List UInt8} {s s1:DT} (h:BK bs s = some s1) (hs:¬ Cm s1.tok.kind):C6 bs s = some s1:=by
 unfold C6; rw [h]; exact if_neg hs
theorem Ii {bs:List UInt8} {s s1:DT} (h:BK bs s = some s1) (hs:Cm s1.tok.kind):C6 bs s = BK bs s1:=by
 unfold C6; rw [h]; exact if_pos hs
theorem Er {bs:List UInt8} {f:Nat} {s:DT} {out:List TT} (hp:s.peeked = false):GI bs [] (f+1) s out = match C6 bs s with
  | none=>(out,false)
  | some s1=>if s1.tok.kind = 1 then (out,true) else GI bs [] f s1 (out++[s1.tok]):=by
 rw [QH]; simp only [List.getD_nil,Bool.false_eq_true,if_false]; rw [De hp]
 try rfl
theorem Chain.run {bs:List UInt8} {s t e:DT} {l:List TT} (h:Chain bs s l t) (he:BK bs t = some e) (hek:e.tok.kind = 1):s.peeked = false→s.k≤bs.length→∀ (f:Nat) (out:List TT),l.length < f→
  (¬ Cm s.tok.kind→GI bs [] f s out = (out++l,true))∧
  (Cm s.tok.kind→∀ s0,s0.peeked = false→BK bs s0 = some s→GI bs [] f s0 out = (out++l,true)):=by
 have hes:¬ Cm e.tok.kind:=by unfold Cm; omega
 induction h with
 | nil s=>
  intro hp hk f out hf;obtain ⟨f,rfl⟩:∃ g,f = g+1:=⟨f - 1,by simp at hf; omega⟩;refine ⟨fun _=>?_,fun hc s0 hp0 h0=>?_⟩
  ·rw [Er hp,IG he hes]; simp [hek]
  ·rw [Er hp0,Ii h0 hc,he]; simp [hek]
 | @tok s s1 t l h1 h2 h3 _ ih=>
  intro hp hk f out hf;obtain ⟨f,rfl⟩:∃ g,f = g+1:=⟨f - 1,by simp at hf; omega⟩;have ho:=Ea h1 hk;have ih':=fun out=>(ih he ho.1 ho.2.2.1 f out (by simp at hf; omega)).1 h2
  have e2:out++s1.tok::l = (out++[s1.tok])++l:=by simp
  refine ⟨fun _=>?_,fun hc s0 hp0 h0=>?_⟩
  ·rw [Er hp,IG h1 h2]; simp only; rw [if_neg h3,ih',e2]
  ·rw [Er hp0,Ii h0 hc,h1]; simp only; rw [if_neg h3,ih',e2]
 | @comma s s1 t l h1 h2 _ ih=>
  intro hp hk f out hf;have ho:=Ea h1 hk;refine ⟨fun _=>(ih he ho.1 ho.2.2.1 f out hf).2 h2 s hp h1,fun hc=>?_⟩;have:=ho.2.2.2.2.2.2 hc;unfold Cm at h2; omega
structure At (bs:List UInt8) (n:Nat) (st:List UInt8) (last:Nat) (s:DT):Prop where
 peeked:s.peeked = false
 bad:s.bad = false
 st:s.st = st
 last:s.tok.kind = last
 le:s.k≤bs.length
 pos:goT bs s.k 0 = goT bs n 0
def Cs (n:Nat):Prop:=n = 3∨n = 5∨n = 7
theorem At.blank {bs pre x r st:List UInt8} {last:Nat} {s:DT} (h:At bs pre.length st last s) (hb:bs = pre++(x++r)) (hx:Blk x):At bs (pre++x).length st last s:={ h with pos:=h.pos.trans (Nl hb hx) }
def Bv (bs:List UInt8) (last:Nat) (st:List UInt8) (k:Nat):Option (TT × List UInt8 × Nat):=
 if last = 1 then Ar st (some (Ax bs k 1 0 0))
 else if last = 0 then Cl bs false st k
 else if last = 2 then Bx bs true false st k
 else if last = 4 then BX bs false st k
 else if last = 6 then Bx bs false true st k
 else if last = 8∨last = 9 then (if Av st = 0 then Cl bs false st k else if Av st = 4 then BX bs false st k else Bx bs false false st k)
 else (if Av st = 0 then Cl bs true st k else if Av st = 4 then BX bs true st k else CH bs st k)
theorem GT (bs:List UInt8) (last:Nat) (st:List UInt8) (k:Nat):C1 bs last st k = Bv bs last st (goT bs k 0):=rfl
theorem FU {bs pre r st st':List UInt8} {last k':Nat} {a:DT} {t:TT} (h:At bs pre.length st last a) (hb:bs = pre++r) (hr:skT false r = 0) (hn:Bv bs last st pre.length = some (t,st',k')):BK bs a = some ⟨false,t,false,st',k'⟩:=by
 unfold BK;rw [GT,h.pos,JA hb hr,h.last,h.st,hn,h.bad]
theorem Ko {bs st:List UInt8} {n k:Nat} {t:TT} {last:Nat} (hk:k = goT bs n 0) (hn:n≤bs.length) (hl:t.kind = last):At bs n st last ⟨false,t,false,st,k⟩:=
 ⟨rfl,rfl,rfl,hl,by have:=(DO (bs:=bs) (k:=n) (n:=0) (by omega)).2; subst hk; exact this,by show goT bs k 0 = _; rw [hk]; exact SN bs n⟩
theorem Ij (st:List UInt8) (c:UInt8):Av (st++[c]) = (if c.toNat = 91 then 6 else 4)∧AY (st++[c]) = (if c.toNat = 91 then 93 else if c.toNat = 123 then 125 else 62):=by
 unfold Av AY;simp
theorem R9:Av [] = 0:=rfl
def Fx (st:List UInt8) (last:Nat):Prop:=(Av st = 0∧(last = 0∨Cs last∨Cm last))∨(Av st = 4∧(last = 4∨Cs last∨Cm last))
def Hi (st:List UInt8) (last:Nat):Prop:=last = 2∨last = 6∨(last = 8∧Av st = 6)
def Kp (c:UInt8):Prop:=Cc c = false∧c.toNat≠35∧c.toNat≠34∧c.toNat≠39∧c.toNat≠125∧c.toNat≠62∧c.toNat≠44∧c.toNat≠59
theorem OT (st:List UInt8) (h:Av st = 4):AY st = 125∧C8 (AY st) = 62∨AY st = 62∧C8 (AY st) = 125:=by
 unfold Av at h
 have hc:AY st = 125∨AY st = 62:=by
  unfold AY
  rcases hs:st.getLast? with _ | c
  ·rw [hs] at h; simp at h
  ·rw [hs] at h;simp only at h ⊢
   split at h
   ·omega
   ·rename_i h1
    rw [if_neg h1]
    split <;> simp
 unfold C8
 rcases hc with hc | hc <;> rw [hc] <;> simp
theorem Pr {bs st:List UInt8} {last k:Nat} {c:UInt8} {r:List UInt8} (hF:Fx st last) (hd:bs.drop k = c::r) (hc:Kp c):Bv bs last st k = Ar st (Bf bs k):=by
 obtain ⟨_,_,_,_,h1,h2,h3,h4⟩:=hc
 have top:∀ b,Cl bs b st k = Ar st (Bf bs k):=fun b=>by
  unfold Cl; rw [hd]; simp only; rw [if_neg (by omega),if_neg (by omega)]
 have msg:Av st = 4→∀ b,BX bs b st k = Ar st (Bf bs k):=fun ho b=>by
  have hcl:=OT st ho;unfold BX; rw [hd]; simp only; rw [if_neg (by omega),if_neg (by omega),if_neg (by omega),if_neg (by omega)]
 unfold Bv
 rcases hF with ⟨ho,hl⟩ | ⟨ho,hl⟩
 ·rcases hl with rfl | hl | hl
  ·rw [if_neg (by decide),if_pos rfl,top]
  ·unfold Cs at hl;rw [if_neg (by omega),if_neg (by omega),if_neg (by omega),if_neg (by omega),if_neg (by omega),if_neg (by omega),if_pos ho,top]
  ·unfold Cm at hl;rw [if_neg (by omega),if_neg (by omega),if_neg (by omega),if_neg (by omega),if_neg (by omega),if_pos hl,if_pos ho,top]
 ·rcases hl with rfl | hl | hl
  ·rw [if_neg (by decide),if_neg (by decide),if_neg (by decide),if_pos rfl,msg ho]
  ·unfold Cs at hl;rw [if_neg (by omega),if_neg (by omega),if_neg (by omega),if_neg (by omega),if_neg (by omega),if_neg (by omega),if_neg (by omega),if_pos ho,msg ho]
  ·unfold Cm at hl;rw [if_neg (by omega),if_neg (by omega),if_neg (by omega),if_neg (by omega),if_neg (by omega),if_pos hl,if_neg (by omega),if_pos ho,msg ho]
theorem Ha {bs st:List UInt8} {last k:Nat} {c:UInt8} {r:List UInt8} (hV:Hi st last) (hd:bs.drop k = c::r):Bv bs last st k = if c.toNat = 123∨c.toNat = 60 then Ar (st++[c]) (some (Ax bs k 4 1 0)) else if last = 2∧c.toNat = 91 then Ar (st++[c]) (some (Ax bs k 6 1 0))
  else if last = 6∧c.toNat = 93 then Ar st.dropLast (some (Ax bs k 7 1 0)) else Ar st (Bg bs k):=by
 unfold Bv
 rcases hV with rfl | rfl | ⟨rfl,ho⟩
 ·rw [if_neg (by decide),if_neg (by decide),if_pos rfl];unfold Bx; rw [hd];simp
 ·rw [if_neg (by decide),if_neg (by decide),if_neg (by decide),if_neg (by decide),if_pos rfl];unfold Bx; rw [hd];simp
 ·rw [if_neg (by decide),if_neg (by decide),if_neg (by decide),if_neg (by decide),if_neg (by decide),if_pos (by decide),if_neg (by omega),if_neg (by omega)];unfold Bx; rw [hd];simp
theorem Jc {bs pre r:List UInt8} {c:UInt8} (hb:bs = pre++([c]++r)) (kd at_:Nat):Ax bs pre.length kd 1 at_ = (⟨kd,at_,false,0,pre.length,[c],[]⟩,goT bs (pre++[c]).length 0):=by
 unfold Ax;rw [Cg hb,Fh];simp
theorem JU {bs pre r:List UInt8} {c:UInt8} (hb:bs = pre++([c]++r)):(pre++[c]).length≤bs.length:=by rw [hb]; simp
theorem Jj {c:UInt8} {r:List UInt8} (h1:Cc c = false) (h2:c.toNat≠35):skT false ([c]++r) = 0:=Ey h1 h2
section
variable {bs pre r st:List UInt8} {last:Nat} {a:DT}
theorem CX {c:UInt8} (h:c.toNat≠32∧c.toNat≠10∧c.toNat≠13∧c.toNat≠9):Cc c = false:=by unfold Cc; simp; omega
theorem O9 {c:UInt8} (h:At bs pre.length st last a) (hV:Hi st last) (hb:bs = pre++([c]++r)) (hc:c.toNat = 123∨c.toNat = 60) :
  ∃ a',BK bs a = some a'∧a'.tok.kind = 4∧TokOk a'.tok ⟨4,0,pre.length,false,[c],[]⟩∧At bs (pre++[c]).length (st++[c]) 4 a':=by
 have hn:=Ha hV (Cg hb);rw [if_pos hc,Jc hb] at hn;exact ⟨_,FU h hb (Jj (CX (by omega)) (by omega)) hn,rfl,⟨rfl,rfl,rfl,rfl,rfl,fun _=>rfl⟩,Ko rfl (JU hb) rfl⟩
theorem Pa {c:UInt8} (h:At bs pre.length st 2 a) (hb:bs = pre++([c]++r)) (hc:c.toNat = 91) :
  ∃ a',BK bs a = some a'∧a'.tok.kind = 6∧TokOk a'.tok ⟨6,0,pre.length,false,[c],[]⟩∧At bs (pre++[c]).length (st++[c]) 6 a':=by
 have hn:=Ha (last:=2) (.inl rfl) (st:=st) (Cg hb);rw [if_neg (by omega),if_pos ⟨rfl,hc⟩,Jc hb] at hn;exact ⟨_,FU h hb (Jj (CX (by omega)) (by omega)) hn,rfl,⟨rfl,rfl,rfl,rfl,rfl,fun _=>rfl⟩,Ko rfl (JU hb) rfl⟩
theorem NY {c d:UInt8} (h:At bs pre.length (st++[c]) last a) (hb:bs = pre++([d]++r)) (hc:c.toNat = 123∧d.toNat = 125∨c.toNat = 60∧d.toNat = 62) (hl:last = 4∨Cs last∨Cm last) :
  ∃ a',BK bs a = some a'∧a'.tok.kind = 5∧TokOk a'.tok ⟨5,0,pre.length,false,[d],[]⟩∧At bs (pre++[d]).length st 5 a':=by
 obtain ⟨ho,hcl⟩:=Ij st c;rw [if_neg (by omega)] at ho hcl
 have hcd:d.toNat = AY (st++[c]):=by
  rw [hcl]
  by_cases h1:c.toNat = 123
  ·rw [if_pos h1]; omega
  ·rw [if_neg h1]; omega
 have msg:∀ b,BX bs b (st++[c]) pre.length = Ar st (some (Ax bs pre.length 5 1 0)):=fun b=>by
  unfold BX; rw [Cg hb,List.singleton_append]; simp only; rw [if_pos hcd,List.dropLast_concat]
 have hn:Bv bs last (st++[c]) pre.length = Ar st (some (Ax bs pre.length 5 1 0)):=by
  unfold Bv
  rcases hl with rfl | hl | hl
  ·rw [if_neg (by decide),if_neg (by decide),if_neg (by decide),if_pos rfl,msg]
  ·unfold Cs at hl;rw [if_neg (by omega),if_neg (by omega),if_neg (by omega),if_neg (by omega),if_neg (by omega),if_neg (by omega),if_neg (by omega),if_pos ho,msg]
  ·unfold Cm at hl;rw [if_neg (by omega),if_neg (by omega),if_neg (by omega),if_neg (by omega),if_neg (by omega),if_pos hl,if_neg (by omega),if_pos ho,msg]
 rw [Jc hb] at hn;exact ⟨_,FU h hb (Jj (CX (by omega)) (by omega)) hn,rfl,⟨rfl,rfl,rfl,rfl,rfl,fun _=>rfl⟩,Ko rfl (JU hb) rfl⟩
theorem NZ {c d:UInt8} (h:At bs pre.length (st++[c]) last a) (hb:bs = pre++([d]++r)) (hc:c.toNat = 91∧d.toNat = 93) (hl:last = 6∨Cs last) :
  ∃ a',BK bs a = some a'∧a'.tok.kind = 7∧TokOk a'.tok ⟨7,0,pre.length,false,[d],[]⟩∧At bs (pre++[d]).length st 7 a':=by
 obtain ⟨ho,hcl⟩:=Ij st c;rw [if_pos hc.1] at ho
 have hn:Bv bs last (st++[c]) pre.length = Ar st (some (Ax bs pre.length 7 1 0)):=by
  rcases hl with rfl | hl
  ·rw [Ha (.inr (.inl rfl)) (Cg hb),if_neg (by omega),if_neg (by omega),if_pos ⟨rfl,hc.2⟩,List.dropLast_concat]
  ·unfold Cs at hl;unfold Bv;rw [if_neg (by omega),if_neg (by omega),if_neg (by omega),if_neg (by omega),if_neg (by omega),if_neg (by omega),if_neg (by omega),if_neg (by omega)];unfold CH;rw [Cg hb,List.singleton_append]; simp only; rw [if_pos hc.2,List.dropLast_concat]
 rw [Jc hb] at hn;exact ⟨_,FU h hb (Jj (CX (by omega)) (by omega)) hn,rfl,⟨rfl,rfl,rfl,rfl,rfl,fun _=>rfl⟩,Ko rfl (JU hb) rfl⟩
theorem NW {d:UInt8} (h:At bs pre.length st last a) (hb:bs = pre++([d]++r)) (hd:d.toNat = 44∨d.toNat = 59∧Av st≠6) (hl:Cs last) (ho:Av st = 0∨Av st = 4∨Av st = 6) :
  ∃ a',BK bs a = some a'∧(a'.tok.kind = if d.toNat = 44 then 8 else 9)∧At bs (pre++[d]).length st (if d.toNat = 44 then 8 else 9) a':=by
 have hn:Bv bs last st pre.length = Ar st (some (Ax bs pre.length (if d.toNat = 44 then 8 else 9) 1 0)):=by
  unfold Cs at hl;unfold Bv;rw [if_neg (by omega),if_neg (by omega),if_neg (by omega),if_neg (by omega),if_neg (by omega),if_neg (by omega)]
  rcases ho with ho | ho | ho
  ·rw [if_pos ho];unfold Cl;rw [Cg hb,List.singleton_append]; simp only
   by_cases h44:d.toNat = 44
   ·rw [if_pos ⟨trivial,h44⟩,if_pos h44]
   ·rw [if_neg (by omega),if_pos ⟨trivial,by omega⟩,if_neg h44]
  ·rw [if_neg (by omega),if_pos ho];have hcl:=OT st ho;unfold BX;rw [Cg hb,List.singleton_append]; simp only;rw [if_neg (by omega),if_neg (by omega)]
   by_cases h44:d.toNat = 44
   ·rw [if_pos ⟨trivial,h44⟩,if_pos h44]
   ·rw [if_neg (by omega),if_pos ⟨trivial,by omega⟩,if_neg h44]
  ·rw [if_neg (by omega),if_neg (by omega)];unfold CH;rw [Cg hb,List.singleton_append]; simp only
   have h44:d.toNat = 44:=by omega
   rw [if_neg (by omega),if_pos h44,if_pos h44]
 rw [Jc hb] at hn;exact ⟨_,FU h hb (Jj (CX (by omega)) (by omega)) hn,rfl,Ko rfl (JU hb) rfl⟩
theorem RN {n:Nat} (h:At bs n st last a) (hn:goT bs n 0 = bs.length) (hl:last = 0∨Cs last∨Cm last) (ho:Av st = 0):∃ a',BK bs a = some a'∧a'.tok.kind = 1:=by
 have hd:bs.drop bs.length = []:=List.drop_length
 have top:∀ b,Cl bs b st bs.length = Ar st (some (Ax bs bs.length 1 0 0)):=fun b=>by unfold Cl; rw [hd]
 have hk:Bv bs last st bs.length = Ar st (some (Ax bs bs.length 1 0 0)):=by
  unfold Bv
  rcases hl with rfl | hl | hl
  ·rw [if_neg (by decide),if_pos rfl,top]
  ·unfold Cs at hl;rw [if_neg (by omega),if_neg (by omega),if_neg (by omega),if_neg (by omega),if_neg (by omega),if_neg (by omega),if_pos ho,top]
  ·unfold Cm at hl;rw [if_neg (by omega),if_neg (by omega),if_neg (by omega),if_neg (by omega),if_neg (by omega),if_pos hl,if_pos ho,top]
 unfold BK;rw [GT,h.pos,hn,h.last,h.st,hk];exact ⟨_,rfl,rfl⟩
end
structure NameLex (x:List UInt8) (nk:Nat) (str:List UInt8):Prop where
 head:∃ c y,x = c::y∧Kp c
 next:∀ bs n r,bs.drop n = x++r→El r = true→∃ t:TT,Bf bs n = some (Fj bs (t,goT bs (n+x.length) 0))∧t.kind = 2∧t.att = nk∧t.sep = false∧t.pos = n∧t.raw = x∧(if nk = 2 then t.str else x) = str
theorem Jg {bs x r:List UInt8} {n:Nat} (h:bs.drop n = x++r):(bs.drop n).take x.length = x:=by rw [h,List.take_left]
theorem L7 {bs pre x r st str:List UInt8} {last nk:Nat} {a:DT} (h:At bs pre.length st last a) (hF:Fx st last) (hx:NameLex x nk str) (hb:bs = pre++(x++r)) (hr:El r = true) :
  ∃ t:TT,BK bs a = some ⟨false,(Fj bs (t,goT bs (pre++x).length 0)).1,false,st,(Fj bs (t,goT bs (pre++x).length 0)).2⟩∧t.kind = 2∧t.att = nk∧t.sep = false∧t.pos = pre.length∧t.raw = x∧(if nk = 2 then t.str else x) = str:=by
 obtain ⟨c,y,rfl,hc⟩:=hx.head;obtain ⟨t,h1,h2⟩:=hx.next bs pre.length r (Cg hb) hr;have hn:=Pr hF (Cg hb) hc;rw [h1] at hn;refine ⟨t,?_,h2⟩;rw [List.length_append];exact FU h hb (Ey hc.1 hc.2.1) hn
theorem NM {t:TT} {n nk:Nat} {x str:List UInt8} (b:Bool) (h:t.kind = 2∧t.att = nk∧t.sep = false∧t.pos = n∧t.raw = x∧(if nk = 2 then t.str else x) = str) (hb:t.sep = b∨b = true):TokOk (if b then { t with sep:=true } else t) ⟨2,nk,n,b,x,str⟩:=by
 obtain ⟨h1,h2,h3,h4,h5,h6⟩:=h
 cases b with
 | false=>exact ⟨h1,by simp [IM,h1,h2],h4,by simp [IM,h1,h3],by simp [IM,h1,h2,h5,h6],fun _=>h5⟩
 | true=>exact ⟨h1,by simp [IM,h1,h2],h4,by simp [IM,h1],by simp [IM,h1,h2,h5,h6],fun _=>h5⟩
theorem Pb {bs pre x b r st str:List UInt8} {last nk:Nat} {a:DT} (h:At bs pre.length st last a) (hF:Fx st last) (hx:NameLex x nk str) (hk:Blk b) (hb:bs = pre++(x++(b++([58]++r)))) :
  ∃ a',BK bs a = some a'∧a'.tok.kind = 2∧TokOk a'.tok ⟨2,nk,pre.length,true,x,str⟩∧At bs (pre++x++b++[58]).length st 2 a':=by
 obtain ⟨t,h1,h2⟩:=L7 h hF hx hb (H7 hk (by rfl))
 have hb2:bs = (pre++x)++(b++([58]++r)):=by rw [hb]; simp only [List.append_assoc]
 have hb3:bs = (pre++x++b)++([58]++r):=by rw [hb2]; simp only [List.append_assoc]
 have hg:goT bs (pre++x).length 0 = (pre++x++b).length:=by rw [Nl hb2 hk,JA hb3 (Ey (by decide) (by decide))]
 have hd:bs.drop (goT bs (pre++x).length 0) = 58::r:=by rw [hg,Cg hb3]; try rfl
 rw [Eo hd,if_pos (by decide)] at h1;refine ⟨_,h1,h2.1,NM true h2 (.inr rfl),Ko ?_ (JU hb3) h2.1⟩;rw [hg,Fh,List.length_append (bs:=[58])]
 try rfl
theorem QG {bs pre x b r st str:List UInt8} {c:UInt8} {last nk:Nat} {a:DT} (h:At bs pre.length st last a) (hF:Fx st last) (hx:NameLex x nk str) (hk:Blk b) (hb:bs = pre++(x++(b++(c::r)))) (hc:c.toNat = 123∨c.toNat = 60∨c.toNat = 91) :
  ∃ a',BK bs a = some a'∧a'.tok.kind = 2∧TokOk a'.tok ⟨2,nk,pre.length,false,x,str⟩∧At bs (pre++x++b).length st 2 a':=by
 have hbl:Cc c = false:=CX (by omega);obtain ⟨t,h1,h2⟩:=L7 h hF hx hb (H7 hk (by show EI c = true; unfold EI; simp; omega))
 have hb2:bs = (pre++x)++(b++(c::r)):=by rw [hb]; simp only [List.append_assoc]
 have hb3:bs = (pre++x++b)++(c::r):=by rw [hb2]; simp only [List.append_assoc]
 have hg:goT bs (pre++x).length 0 = (pre++x++b).length:=by rw [Nl hb2 hk,JA hb3 (Ey hbl (by omega))]
 have hd:bs.drop (goT bs (pre++x).length 0) = c::r:=by rw [hg,Cg hb3]
 rw [Eo hd,if_neg (by omega)] at h1;refine ⟨_,h1,h2.1,NM false h2 (.inl h2.2.2.1),Ko ?_ (by rw [hb3]; simp) h2.1⟩;rw [hg,JA hb3 (Ey hbl (by omega))]
def LQ (r:List UInt8):Prop:=El r = true∧Fo (csT r) = false
structure ScalLex (x:List UInt8):Prop where
 head:∃ c y,x = c::y∧Cc c = false∧c.toNat≠35∧c.toNat≠123∧c.toNat≠60∧c.toNat≠91∧c.toNat≠93
 next:∀ bs n r,bs.drop n = x++r→LQ r→∃ t:TT,Bg bs n = some (t,goT bs (n+x.length) 0)∧t.kind = 3∧t.pos = n∧(Fo x = false→t.raw = x)
theorem NX {bs pre x r st:List UInt8} {last:Nat} {a:DT} (h:At bs pre.length st last a) (hV:Hi st last) (hx:ScalLex x) (hb:bs = pre++(x++r)) (hr:LQ r) :
  ∃ a',BK bs a = some a'∧a'.tok.kind = 3∧TokOk a'.tok ⟨3,0,pre.length,false,x,[]⟩∧At bs (pre++x).length st 3 a':=by
 obtain ⟨c,y,rfl,h1,h2,h3,h4,h5,h6⟩:=hx.head;obtain ⟨t,g1,g2,g3,g4⟩:=hx.next bs pre.length r (Cg hb) hr;have hn:=Ha hV (Cg hb);rw [if_neg (by omega),if_neg (by omega),if_neg (by omega),g1] at hn;refine ⟨_,FU h hb (Ey h1 h2) hn,g2,⟨g2,by simp [IM,g2],g3,by simp [IM,g2],by simp [IM,g2],g4⟩,Ko ?_ (by rw [hb]; simp) g2⟩;rw [List.length_append]
end
end Go.Proofs.YtgdnpnipahegaaaGreatDoor
