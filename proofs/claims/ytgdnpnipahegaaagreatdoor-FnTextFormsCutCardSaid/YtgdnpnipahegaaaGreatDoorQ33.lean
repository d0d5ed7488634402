/-
 What stands behind a name or a number does not change how it is read, if it is nothing that goes on with it. Plain functions.
-/
import Derived.Test.YtgdnpnipahegaaaGreatDoorQ4
import Derived.Test.YtgdnpnipahegaaaGreatDoorQ21
import Derived.Test.YtgdnpnipahegaaaGreatDoorQ10
namespace Go.Proofs.YtgdnpnipahegaaaGreatDoor
section
theorem J3 (c f:UInt8) (y:List UInt8):Cs (c::f::y) = if c.toNat = 48 then (if f.toNat = 120∨f.toNat = 88 then Iw y else if AG f then Jo y else BX 0 1 (f::y))
  else if 49≤c.toNat∧c.toNat≤57 then BX 0 (1+As AZ (f::y)) ((f::y).drop (As AZ (f::y)))
  else if c.toNat = 46 then BX 4 0 (c::f::y) else none:=rfl
theorem Ct {d:UInt8} (h:DI d = true):Gj d = false∧AZ d = false∧idC d = false∧AQ d = false∧AG d = false∧isE d = false∧isF d = false∧Ie d = false∧d.toNat≠46∧d.toNat≠45∧d.toNat≠120∧d.toNat≠88:=by
 unfold DI at h;simp at h
 have hl:Gj d = false:=by unfold Gj; simp; omega
 have hd:AZ d = false:=by unfold AZ; simp; omega
 refine ⟨hl,hd,by unfold idC; rw [hl,hd]; try rfl,by unfold AQ; simp; omega,by unfold AG; simp; omega,by unfold isE; simp; omega,by unfold isF; simp; omega,by unfold Ie; simp; omega,by omega,by omega,by omega,by omega⟩
theorem DE:DI 32 = true:=by decide
theorem CF {p:UInt8→Bool} {d:UInt8} (h:p d = false) (r:List UInt8):∀ x:List UInt8,As p (x++d::r) = As p x
 | []=>by rw [List.nil_append,BE,h]; try rfl
 | c::x=>by rw [List.cons_append,BE,BE,CF h r x]
theorem CX (x:List UInt8) (y:List UInt8) {n:Nat} (h:n≤x.length):(x++y).drop n = x.drop n++y:=List.drop_append_of_le_length h
theorem Kb {d e:UInt8} (hd:DI d = true) (he:DI e = true) (r s:List UInt8) (x:List UInt8):Eo (x++d::r) = Eo (x++e::s):=by
 cases x with
 | nil=>show DI d = DI e; rw [hd,he]
 | cons c x=>rfl
section
variable {d:UInt8}
theorem Js (hd:DI d = true) (r:List UInt8) (x:List UInt8):Dm (x++d::r) = Dm (x++[32]):=by
 obtain ⟨a1,a2,a3,_⟩:=Ct hd;obtain ⟨b1,b2,b3,_⟩:=Ct DE
 cases x with
 | nil=>rw [List.nil_append,List.nil_append,CB,CB,a1,b1]; try rfl
 | cons c x=>
  have hl:=Bp idC x;rw [List.cons_append,List.cons_append,CB,CB,CF a3,CF b3,CX _ _ hl,CX _ _ hl,Kb hd DE r []]
theorem QA (hd:DI d = true) (r:List UInt8) (neg:Bool) (x:List UInt8):Bb neg (x++d::r) = Bb neg (x++[32]):=by
 obtain ⟨a1,a2,a3,a4,a5,a6,a7,a8,a9,a10,a11,a12⟩:=Ct hd
 cases x with
 | nil=>
  have e1:(d.toNat == 45) = false:=by simp; omega
  rw [List.nil_append,List.nil_append,CV,CV,e1,Bool.and_false,if_neg (by simp),if_neg (by simp)];exact Js hd r []
 | cons c x=>
  have h2:=Js hd r (c::x);rw [List.cons_append,List.cons_append] at h2 ⊢;rw [CV,CV,Js hd r x,h2]
theorem R6 (hd:DI d = true) (r:List UInt8) (k:Nat) (x:List UInt8):Ev k (x++d::r) = Ev k (x++[32])∧∀ k1 n1,Ev k (x++[32]) = some (k1,n1)→n1≤x.length:=by
 obtain ⟨a1,a2,a3,a4,a5,a6,a7,a8,a9,a10,a11,a12⟩:=Ct hd;obtain ⟨b1,b2,b3,b4,b5,b6,b7,b8,b9,b10,b11,b12⟩:=Ct DE
 cases x with
 | nil=>
  have e1:Ev k ([]++d::r) = some (k,0):=by show (if d.toNat = 46 then _ else _) = _; rw [if_neg a9]
  have e2:Ev k ([]++[32]) = some (k,0):=by show (if (32:UInt8).toNat = 46 then (if ([]:List UInt8) = []∧k = 4 then none else some (4,1+As AZ [])) else some (k,0)) = _; rw [if_neg b9]
  rw [e1,e2];exact ⟨rfl,fun k1 n1 h=>by cases h; exact Nat.zero_le _⟩
 | cons c x=>
  have e:∀ y,Ev k (c::x++y) = if c.toNat = 46 then (if x++y = []∧k = 4 then none else some (4,1+As AZ (x++y))) else some (k,0):=fun y=>rfl
  rw [e,e,CF a2,CF b2,if_neg (show ¬ (x++d::r = []∧k = 4) by simp),if_neg (show ¬ (x++[32] = []∧k = 4) by simp)];refine ⟨rfl,fun k1 n1 h=>?_⟩;have:=Bp AZ x
  split at h
  ·cases h; simp; omega
  ·cases h; simp
theorem TI (hd:DI d = true) (r:List UInt8) (k:Nat) (x:List UInt8):He k (x++d::r) = He k (x++[32])∧∀ k1 n1,He k (x++[32]) = some (k1,n1)→n1≤x.length:=by
 obtain ⟨a1,a2,a3,a4,a5,a6,a7,a8,a9,a10,a11,a12⟩:=Ct hd;obtain ⟨b1,b2,b3,b4,b5,b6,b7,b8,b9,b10,b11,b12⟩:=Ct DE
 have e:∀ (c f:UInt8) (y:List UInt8),He k (c::f::y) = if isE c then (if Ie f then (if y = [] then none else some (4,2+As AZ y)) else some (4,1+As AZ (f::y))) else some (k,0):=fun c f y=>rfl
 match x with
 | []=>
  refine ⟨?_,fun k1 n1 h=>by cases h; exact Nat.zero_le _⟩
  cases r with
  | nil=>rfl
  | cons f r=>rw [List.nil_append,e,a6]; try rfl
 | [c]=>
  rw [List.singleton_append,List.singleton_append,e,e,a8,b8,BE,BE,a2,b2];refine ⟨rfl,fun k1 n1 h=>?_⟩
  split at h <;> cases h <;> simp
 | c::f::x=>
  have hl:=Bp AZ x;have hl2:=Bp AZ (f::x);have h1:=CF a2 r (f::x);have h2:=CF b2 [] (f::x);rw [List.cons_append] at h1 h2;rw [List.cons_append,List.cons_append,List.cons_append,List.cons_append,e,e,if_neg (show ¬ x++d::r = [] by simp),if_neg (show ¬ x++[32] = [] by simp),CF a2,CF b2,h1,h2];refine ⟨rfl,fun k1 n1 h=>?_⟩;simp only [List.length_cons] at hl2 ⊢
  split at h
  ·split at h <;> cases h <;> omega
  ·cases h; omega
theorem TD (hd:DI d = true) (r:List UInt8) (k:Nat) (x:List UInt8):Fq k (x++d::r) = Fq k (x++[32])∧(Fq k (x++[32])).2≤x.length:=by
 obtain ⟨a1,a2,a3,a4,a5,a6,a7,a8,a9,a10,a11,a12⟩:=Ct hd
 cases x with
 | nil=>
  have e1:Fq k ([]++d::r) = (k,0):=by show (if isF d then (4,1) else (k,0)) = _; rw [a7]; try rfl
  rw [e1];exact ⟨rfl,Nat.le_refl _⟩
 | cons c x=>
  refine ⟨rfl,?_⟩
  show (if isF c then (4,1) else (k,0):Nat × Nat).2≤_
  split <;> simp
theorem FW (hd:DI d = true) (r:List UInt8) (k n:Nat) (x:List UInt8):BX k n (x++d::r) = BX k n (x++[32]):=by
 obtain ⟨h1,h2⟩:=R6 hd r k x;unfold BX;rw [h1]
 rcases hf:Ev k (x++[32]) with _ | ⟨k1,n1⟩
 ·rfl
 ·have hn1:=h2 _ _ hf;obtain ⟨h3,h4⟩:=TI hd r k1 (x.drop n1);simp only;rw [CX _ _ hn1,CX _ _ hn1,h3]
  rcases he:He k1 (x.drop n1++[32]) with _ | ⟨k2,n2⟩
  ·rfl
  ·have hn2:=h4 _ _ he;simp only [List.length_drop] at hn2
   have h12:n1+n2≤x.length:=by omega
   obtain ⟨h5,h6⟩:=TD hd r k2 (x.drop (n1+n2));simp only;rw [CX _ _ h12,CX _ _ h12,h5];simp only [List.length_drop] at h6
   have h13:n1+n2+(Fq k2 (x.drop (n1+n2)++[32])).2≤x.length:=by omega
   rw [CX _ _ h13,CX _ _ h13,Kb hd DE r []]
theorem TF (hd:DI d = true) (r:List UInt8) (x:List UInt8):Iw (x++d::r) = Iw (x++[32]):=by
 obtain ⟨a1,a2,a3,a4,a5,a6,a7,a8,a9,a10,a11,a12⟩:=Ct hd;obtain ⟨b1,b2,b3,b4,b5,b6,b7,b8,b9,b10,b11,b12⟩:=Ct DE;have hl:=Bp AQ x;unfold Iw;rw [CF a4,CF b4,CX _ _ hl,CX _ _ hl,Kb hd DE r []]
theorem TE (hd:DI d = true) (r:List UInt8) (x:List UInt8):Jo (x++d::r) = Jo (x++[32]):=by
 obtain ⟨a1,a2,a3,a4,a5,a6,a7,a8,a9,a10,a11,a12⟩:=Ct hd;obtain ⟨b1,b2,b3,b4,b5,b6,b7,b8,b9,b10,b11,b12⟩:=Ct DE;have hl:=Bp AG x;unfold Jo;rw [CF a5,CF b5,CX _ _ hl,CX _ _ hl,Kb hd DE r []]
theorem Pq (hd:DI d = true) (r:List UInt8) (x:List UInt8):Cs (x++d::r) = Cs (x++[32]):=by
 obtain ⟨a1,a2,a3,a4,a5,a6,a7,a8,a9,a10,a11,a12⟩:=Ct hd;obtain ⟨b1,b2,b3,b4,b5,b6,b7,b8,b9,b10,b11,b12⟩:=Ct DE
 have hdn:∀ (f:UInt8),AZ f = false→f.toNat≠46→∀ s,Cs (f::s) = none:=by
  intro f hf h46 s;unfold AZ at hf;simp at hf
  have:Cs (f::s) = if f.toNat = 48 then (match s with
   | []=>BX 0 1 []
   | d::r2=>if d.toNat = 120∨d.toNat = 88 then Iw r2 else if AG d then Jo r2 else BX 0 1 (d::r2))
  else if 49≤f.toNat∧f.toNat≤57 then BX 0 (1+As AZ s) (s.drop (As AZ s))
  else if f.toNat = 46 then BX 4 0 (f::s) else none:=rfl
  rw [this,if_neg (by omega),if_neg (by omega),if_neg h46]
 match x with
 | []=>rw [List.nil_append,List.nil_append,hdn d a2 a9,hdn 32 b2 b9]
 | [c]=>
  rw [List.singleton_append,List.singleton_append,J3,J3,if_neg (show ¬ (d.toNat = 120∨d.toNat = 88) by omega),if_neg (show ¬ ((32:UInt8).toNat = 120∨(32:UInt8).toNat = 88) by decide),a5,b5,BE,BE,a2,b2];have h1:=FW hd r 0 1 [];have h2:=FW hd r 0 (1+0) [];have h3:=FW hd r 4 0 [c];simp only [List.nil_append,List.singleton_append] at h1 h2 h3;simp only [Bool.false_eq_true,if_false,List.drop_zero];simp only [Nat.add_zero] at h2 ⊢;rw [h1,h3]
 | c::f::x=>
  have hl2:=Bp AZ (f::x);have h1:=CF a2 r (f::x);have h2:=CF b2 [] (f::x);have e1:=CX (f::x) (d::r) hl2;have e2:=CX (f::x) [32] hl2;have h3:=FW hd r 0 1 (f::x);have h4:=FW hd r 0 (1+As AZ (f::x)) ((f::x).drop (As AZ (f::x)));have h5:=FW hd r 4 0 (c::f::x);rw [List.cons_append] at h1 h2 e1 e2;simp only [List.cons_append] at h3 h4 h5 ⊢;rw [J3,J3,h1,h2,e1,e2,h3,h4,h5,TF hd r,TE hd r]
end
end
section
theorem KJ:∀ (k acc v:Nat) (l r:List UInt8),B6 k acc l = some v→B6 k acc (l.take k++r) = some v
 | 0,_,_,_,_,h=>h
 | k+1,acc,v,[],_,h=>by simp [B6] at h
 | k+1,acc,v,c::l,r,h=>by
  unfold B6 at h;simp only [List.take_succ_cons,List.cons_append];unfold B6
  split at h
  ·rename_i hc; rw [if_pos hc]; exact KJ k _ v l r h
  ·cases h
theorem Gt {l r:List UInt8} {c n:Nat} (h:BI l = some (c,n)):BI (l.take n++r) = some (c,n):=by
 have hs:=Dg h
 cases l with
 | nil=>cases h
 | cons b l=>
  obtain ⟨n,rfl⟩:∃ m,n = m+1:=⟨n - 1,by omega⟩;simp only [List.take_succ_cons,List.cons_append];rw [Bo] at h ⊢
  by_cases h1:b.toNat < 128
  ·rw [if_pos h1] at h ⊢; exact h
  ·rw [if_neg h1] at h ⊢
   rcases hh:C8 b.toNat with _ | ⟨k,least,first⟩
   ·rw [hh] at h; cases h
   ·rw [hh] at h;simp only at h ⊢
    rcases ht:B6 k first l with _ | v'
    ·rw [ht] at h; cases h
    ·rw [ht] at h;simp only at h
     split at h
     ·rename_i hok
      simp only [Option.some.injEq,Prod.mk.injEq] at h;obtain ⟨rfl,hk⟩:=h
      obtain rfl:k = n:=by omega
      rw [KJ _ _ _ _ r ht];simp only;rw [if_pos hok]
     ·cases h
end
section
def okB:Bool→List UInt8→Bool
 | b,[]=>!b
 | true,c::l=>okB (c.toNat != 10) l
 | false,c::l=>if Ch c then okB false l else if c.toNat = 35 then okB true l else false
theorem Lg:∀ (b:Bool) (x y:List UInt8),okB b x = true→skT b (x++y) = x.length+skT false y
 | b,[],y,h=>by
  cases b with
  | false=>simp
  | true=>simp [okB] at h
 | true,c::l,y,h=>by
  rw [List.cons_append,G3,Lg _ l y h,List.length_cons]; omega
 | false,c::l,y,h=>by
  rw [List.cons_append,CL];unfold okB at h
  split
  ·rename_i hc
   rw [if_pos hc] at h;rw [Lg _ l y h,List.length_cons]; omega
  ·rename_i hc
   rw [if_neg hc] at h
   split
   ·rename_i h35
    rw [if_pos h35] at h;rw [Lg _ l y h,List.length_cons]; omega
   ·rename_i h35
    rw [if_neg h35] at h; cases h
theorem Su:(Fu++D4++Dk).all (okB false) = true:=by decide
theorem QN {x:List UInt8} (h:x ∈ Fu++D4++Dk) (y:List UInt8):skT false (x++y) = x.length+skT false y:=Lg _ x y (List.all_eq_true.1 Su x h)
theorem Sm {tab:List (List UInt8)} {n:Nat} (h:n < tab.length):tab.getD n [] ∈ tab:=by
 rw [List.getD_eq_getElem?_getD,List.getElem?_eq_getElem h]; exact List.getElem_mem h
theorem JW (ps:List UInt8) (k n:Nat) (hn:0 < n):Af ps k n < n:=by
 unfold Af
 split
 ·exact hn
 ·exact Nat.mod_lt _ hn
def Blk (x:List UInt8):Prop:=∀ y,skT false (x++y) = x.length+skT false y
theorem Blk.nil:Blk []:=fun y=>by simp
theorem Dv (ps:List UInt8) (tab:List (List UInt8)) (s:WS) (h:0 < tab.length):∃ x ∈ tab,(BK ps tab s).out = s.out++x∧(BK ps tab s).l = s.l∧(BK ps tab s).left = s.left:=
 ⟨_,Sm (JW ps s.k tab.length h),rfl,rfl,rfl⟩
theorem A8 (ps:List UInt8) (b:Bool) (s:WS):∃ x,Blk x∧(Am ps b s).out = s.out++x∧(Am ps b s).l = s.l∧(Am ps b s).left = s.left∧(b = true→∃ c y,x = c::y∧(Ch c = true∨c.toNat = 35)):=by
 cases b with
 | false=>
  obtain ⟨x,hx,h⟩:=Dv ps Fu s (by decide);exact ⟨x,QN (by simp [hx]),h.1,h.2.1,h.2.2,fun h=>by cases h⟩
 | true=>
  obtain ⟨x,hx,h⟩:=Dv ps D4 s (by decide)
  have:D4.all (fun x=>match x with
   | []=>false
   | c::_=>Ch c || c.toNat == 35) = true:=by decide
  have hh:=List.all_eq_true.1 this x hx;refine ⟨x,QN (by simp [hx]),h.1,h.2.1,h.2.2,fun _=>?_⟩
  cases x with
  | nil=>cases hh
  | cons c y=>exact ⟨c,y,rfl,by simpa using hh⟩
theorem EC {c:UInt8} {l:List UInt8} (h1:Ch c = false) (h2:c.toNat≠35):skT false (c::l) = 0:=by rw [CL,h1,if_neg (by simp),if_neg h2]
theorem Ke {c:UInt8} {l:List UInt8} (h1:Ch c = false) (h2:c.toNat≠35):csT (c::l) = c::l:=by unfold csT; rw [EC h1 h2]; try rfl
theorem Lq {x:List UInt8} (h:Blk x) (y:List UInt8):csT (x++y) = csT y:=by
 unfold csT;rw [h,←List.drop_drop,List.drop_left]
theorem Us {x x2:List UInt8} (h:Blk x) (h2:Blk x2):Blk (x++x2):=fun y=>by rw [List.append_assoc,h,h2,List.length_append]; omega
theorem IA {x r:List UInt8} (h:Blk x) (hr:Eo r = true):Eo (x++r) = true:=by
 cases x with
 | nil=>exact hr
 | cons c x=>
  have h1:=h [];rw [List.append_nil,CL,IJ,List.length_cons] at h1
  show DI c = true
  by_cases hb:Ch c = true
  ·unfold Ch at hb;unfold DI;simp at hb ⊢;omega
  ·rw [if_neg hb] at h1
   by_cases h35:c.toNat = 35
   ·unfold DI; rw [h35]; try rfl
   ·rw [if_neg h35] at h1; omega
theorem Jr {neg:Bool} {x r:List UInt8} {n:Nat} (h0:Bb neg x = n) (h1:Bb neg (x++[32]) = n) (hr:Eo r = true):Bb neg (x++r) = n:=by
 cases r with
 | nil=>rw [List.append_nil]; exact h0
 | cons d r=>rw [QA hr r neg x]; exact h1
theorem Ng {x r:List UInt8} {o:Option (Nat × Nat)} (h0:Cs x = o) (h1:Cs (x++[32]) = o) (hr:Eo r = true):Cs (x++r) = o:=by
 cases r with
 | nil=>rw [List.append_nil]; exact h0
 | cons d r=>rw [Pq hr r x]; exact h1
def RX (neg:Bool) (x:List UInt8):Bool:=Bb neg x == x.length && Bb neg (x++[32]) == x.length && (match x with
 | []=>false
 | c::_=>!(Ch c || c.toNat == 35 || c.toNat == 91 || c.toNat == 34 || c.toNat == 39 || c.toNat == 125 || c.toNat == 62 || c.toNat == 44 || c.toNat == 59 || c.toNat == 123 || c.toNat == 60 || c.toNat == 93 || c.toNat == 58))
theorem QB:FI.all (RX false) = true:=by decide
theorem lits_ok:Jp.all (RX true) = true:=by decide
def Head (c:UInt8):Prop:=Ch c = false∧c.toNat≠35∧c.toNat≠91∧c.toNat≠34∧c.toNat≠39∧c.toNat≠125∧c.toNat≠62∧c.toNat≠44∧c.toNat≠59∧c.toNat≠123∧c.toNat≠60∧c.toNat≠93∧c.toNat≠58
theorem Pl {neg:Bool} {x:List UInt8} (h:RX neg x = true):(∀ r,Eo r = true→Bb neg (x++r) = x.length)∧∃ c y,x = c::y∧Head c:=by
 unfold RX at h;simp only [Bool.and_eq_true,beq_iff_eq] at h;obtain ⟨⟨h1,h2⟩,h3⟩:=h;refine ⟨fun r hr=>Jr h1 h2 hr,?_⟩
 cases x with
 | nil=>cases h3
 | cons c y=>
  simp at h3;exact ⟨c,y,rfl,by unfold Head; simp [h3]⟩
def J0 (x:List UInt8):Bool:=((Cs x).map (·.2) == some x.length) && (Cs (x++[32]) == Cs x) && (Bb true x == 0) && (Bb true (x++[32]) == 0) && (match x with
 | []=>false
 | c::_=>AZ c || c.toNat == 46)
theorem decs_ok:(Fi++Ff++E8).all J0 = true:=by decide +kernel
theorem flts_ok:(Ek.all fun f=>EK.all fun e=>E0.all fun s=>J0 (f++e++s)) = true:=by decide +kernel
theorem Nb {x:List UInt8} (h:J0 x = true):(∃ k,∀ r,Eo r = true→Cs (x++r) = some (k,x.length))∧(∀ r,Eo r = true→Bb true (x++r) = 0)∧∃ c y,x = c::y∧(AZ c = true∨c.toNat = 46):=by
 unfold J0 at h;simp only [Bool.and_eq_true,beq_iff_eq] at h;obtain ⟨⟨⟨⟨h1,h2⟩,h3⟩,h4⟩,h5⟩:=h
 rcases hb:Cs x with _ | ⟨k,n⟩
 ·rw [hb] at h1; cases h1
 ·rw [hb] at h1 h2;simp at h1;subst h1;refine ⟨⟨k,fun r hr=>Ng hb h2 hr⟩,fun r hr=>Jr h3 h4 hr,?_⟩
  cases x with
  | nil=>cases h5
  | cons c y=>exact ⟨c,y,rfl,by simpa using h5⟩
def Ts (x:List UInt8):Bool:=(Cs x == some (0,x.length)) && (Cs (x++[32]) == some (0,x.length)) && (Bb false x == 0) && (Bb false (x++[32]) == 0) && decide (Ik 0 x≤2147483647) && (match x with
 | []=>false
 | c::_=>AZ c)
theorem Sn:EF.all Ts = true:=by decide +kernel
end
section
theorem G2 (q:Nat):∀ (f:Nat) (l out:List UInt8),F8 q f l out = (F8 q f l []).map fun x=>(out++x.1,x.2)
 | 0,_,_=>rfl
 | f+1,l,out=>by
  unfold F8
  rcases hu:BI l with _ | ⟨c,n⟩
  ·rfl
  ·simp only
   split
   ·rfl
   ·split
    ·simp
    ·split
     ·rcases he:HQ l with _ | ⟨b,m⟩
      ·rfl
      ·simp only [List.nil_append];rw [G2 q f (l.drop m) (out++b),G2 q f (l.drop m) b,Option.map_map]
       congr 1
       funext x
       simp
     ·simp only [List.nil_append];rw [G2 q f (l.drop n) (out++l.take n),G2 q f (l.drop n) (l.take n),Option.map_map]
      congr 1
      funext x
      simp
theorem OV (q:Nat) (l out:List UInt8):A7 q l out = (A7 q l []).map fun x=>(out++x.1,x.2):=G2 q _ l out
def Ends1 (q n:Nat) (l:List UInt8):Prop:=∃ s,A7 q l [] = some (s,n)
variable {q n:Nat}
theorem Ends1.of {l out s:List UInt8} (h:A7 q l out = some (s,n)):Ends1 q n l:=by
 rw [OV] at h
 rcases hs:A7 q l [] with _ | ⟨t,m⟩
 ·rw [hs] at h; cases h
 ·rw [hs] at h;cases h;exact ⟨t,hs⟩
theorem Ends1.all {l:List UInt8} (h:Ends1 q n l) (out:List UInt8):∃ s,A7 q l out = some (s,n):=by
 obtain ⟨s,hs⟩:=h;rw [OV,hs];exact ⟨_,rfl⟩
theorem Ends1.same {l l2 o o2:List UInt8} (e:A7 q l o = A7 q l2 o2):Ends1 q n l↔Ends1 q n l2:=by
 constructor
 ·intro h;obtain ⟨s,hs⟩:=h.all o;exact .of (e ▸ hs)
 ·intro h;obtain ⟨s,hs⟩:=h.all o2;exact .of (e.trans hs)
theorem Ends1.mark {c:UInt8} {r:List UInt8} (hc:c.toNat = q) (hq:q = 34∨q = 39):Ends1 q r.length (c::r):=by
 have hu:BI (c::r) = some (c.toNat,1):=by rw [Bo,if_pos (by omega)]
 exact ⟨[],by rw [Dw hu,if_neg (by omega),if_pos hc]; simp⟩
theorem Ends1.plain {c:UInt8} {l:List UInt8} (h:c.toNat < 128) (h1:c.toNat≠0) (h2:c.toNat≠10) (h3:c.toNat≠q) (h4:c.toNat≠92):Ends1 q n (c::l)↔Ends1 q n l:=by
 have hu:BI (c::l) = some (c.toNat,1):=by rw [Bo,if_pos h]
 refine Ends1.same (o:=[]) (o2:=[c]) ?_;rw [Dw hu,if_neg (by omega),if_neg h3,if_neg h4];simp
theorem Ends1.dropRun {p:UInt8→Bool} (hp:∀ c,p c = true→c.toNat < 128∧c.toNat≠0∧c.toNat≠10∧c.toNat≠q∧c.toNat≠92):∀ (k:Nat) (l:List UInt8),k≤As p l→Ends1 q n l→Ends1 q n (l.drop k)
 | 0,l,_,h=>h
 | k+1,[],hk,_=>by simp [As] at hk
 | k+1,c::l,hk,h=>by
  rw [BE] at hk
  cases hc:p c with
  | false=>rw [hc] at hk; simp at hk
  | true=>
   rw [hc,if_pos rfl] at hk;obtain ⟨a,b,d,e,f⟩:=hp c hc;rw [List.drop_succ_cons];exact Ends1.dropRun hp k l (by omega) ((Ends1.plain a b d e f).1 h)
theorem Ends1.esc (hq:q = 34∨q = 39) {l b:List UInt8} {m:Nat} (he:HQ (92::l) = some (b,m)) (h:Ends1 q n ((92::l).drop m)):Ends1 q n (92::l):=by
 have hu:BI (92::l) = some (92,1):=by rw [Bo]; try rfl
 obtain ⟨s,hs⟩:=h.all b;refine .of (out:=[]) (s:=s) ?_;rw [Dw hu,if_neg (by omega),if_neg (by omega),if_pos rfl,he];exact hs
theorem Kw {p:UInt8→Bool}:∀ (y l:List UInt8),y.all p = true→As p (y++l) = y.length+As p l
 | [],l,_=>by simp
 | c::y,l,h=>by
  simp only [List.all_cons,Bool.and_eq_true] at h;rw [List.cons_append,BE,h.1,if_pos rfl,Kw y l h.2,List.length_cons]; omega
theorem RY {q:Nat} (hq:q = 34∨q = 39) {c:UInt8} (h:AG c = true):c.toNat < 128∧c.toNat≠0∧c.toNat≠10∧c.toNat≠q∧c.toNat≠92:=by
 unfold AG at h; simp at h; omega
theorem Sl {q:Nat} (hq:q = 34∨q = 39) {c:UInt8} (h:AQ c = true):c.toNat < 128∧c.toNat≠0∧c.toNat≠10∧c.toNat≠q∧c.toNat≠92:=by
 unfold AQ at h; simp at h; omega
def Rc:List UInt8→Bool
 | [b,c]=>b == 92 && EL c.toNat != 0
 | _=>false
theorem sims_ok:GP.all Rc = true:=by decide +kernel
theorem Ul (hq:q = 34∨q = 39) {x l:List UInt8} (hx:Rc x = true) (h:Ends1 q n l):Ends1 q n (x++l):=by
 match x,hx with
 | [b,c],hx=>
  simp only [Rc,Bool.and_eq_true,beq_iff_eq,bne_iff_ne] at hx;obtain ⟨rfl,hc⟩:=hx;refine Ends1.esc (b:=[UInt8.ofNat (EL c.toNat)]) (m:=2) hq ?_ (by simpa using h)
  show HQ (92::c::l) = _
  rw [Cd,if_pos hc]
def Re:List UInt8→Bool
 | b::c::y=>b == 92 && decide (c.toNat≤51) && AG c && y.all AG && decide (y.length≤2)
 | _=>false
theorem octs_ok:GU.all Re = true:=by decide +kernel
theorem Tv (z:List UInt8) (hl:z.length≤3) (h:∀ c ∈ z,AG c = true) (h1:∀ c y,z = c::y→c.toNat≤51):GS 0 z≤255:=by
 have ho:∀ c ∈ z,c.toNat≤55:=fun c hc=>by have:=h c hc; unfold AG at this; simp at this; omega
 clear h
 rcases z with _ | ⟨a,_ | ⟨b,_ | ⟨c,_ | ⟨d,y⟩⟩⟩⟩
 ·exact Nat.zero_le _
 ·have:=h1 a [] rfl
  show 0 * 8+(a.toNat - 48)≤255
  omega
 ·have:=h1 a [b] rfl;have:=ho b (by simp)
  show (0 * 8+(a.toNat - 48)) * 8+(b.toNat - 48)≤255
  omega
 ·have:=h1 a [b,c] rfl;have:=ho b (by simp);have:=ho c (by simp)
  show ((0 * 8+(a.toNat - 48)) * 8+(b.toNat - 48)) * 8+(c.toNat - 48)≤255
  omega
 ·simp at hl
theorem Un (hq:q = 34∨q = 39) {x l:List UInt8} (hx:Re x = true) (h:Ends1 q n l):Ends1 q n (x++l):=by
 match x,hx with
 | b::c::y,hx=>
  simp only [Re,Bool.and_eq_true,beq_iff_eq,decide_eq_true_eq] at hx;obtain ⟨⟨⟨⟨rfl,h51⟩,hc⟩,hy⟩,hl⟩:=hx;have hrun:As AG (c::y++l) = (y.length+1)+As AG l:=Kw (c::y) l (by simp only [List.all_cons,hc,hy,Bool.and_self]);have hr3:=Bp AG (c::y++l)
  have he1:EL c.toNat = 0:=by
   unfold AG at hc; simp at hc;unfold EL
   repeat (first | (rw [if_neg (by omega)]))
  have hov:¬ 255 < GS 0 ((c::y++l).take (min 3 (As AG (c::y++l)))):=by
   have:=Tv ((c::y++l).take (min 3 (As AG (c::y++l)))) (by rw [List.length_take]; omega) ?_ ?_
   ·omega
   ·intro d hd;refine Im AG (c::y++l) d ?_;exact (List.take_subset_take_left _ (Nat.min_le_right _ _)) hd
   ·intro d z hz;rw [hrun,show min 3 (y.length+1+As AG l) = (min 3 (y.length+1+As AG l) - 1)+1 by omega,List.cons_append,List.take_succ_cons] at hz
    injection hz with hz
    rw [←hz]; exact h51
  refine Ends1.esc hq (b:=[UInt8.ofNat (GS 0 ((c::y++l).take (min 3 (As AG (c::y++l)))))]) (m:=1+min 3 (As AG (c::y++l))) ?_ ?_
  ·show HQ (92::c::(y++l)) = _
   rw [Cd,if_neg (by simpa using he1),if_pos hc];unfold MK;rw [←List.cons_append,if_neg hov]
  ·show Ends1 q n ((92::(c::y++l)).drop _)
   rw [Nat.add_comm,List.drop_succ_cons,hrun]
   have e:(c::y++l).drop (min 3 (y.length+1+As AG l)) = l.drop (min 3 (y.length+1+As AG l) - (y.length+1)):=by
    rw [List.drop_append,List.drop_of_length_le (by simp; omega)];simp
   rw [e];exact Ends1.dropRun (p:=AG) (fun _ hc=>RY hq hc) _ l (by omega) h
theorem TZ {c:UInt8} (h:AQ c = true):Fe c.toNat < 16:=by
 have hall:∀ c:Fin 256,AQ (UInt8.ofNat c.val) = true→Fe (UInt8.ofNat c.val).toNat < 16:=by decide +kernel
 have:=hall ⟨c.toNat,c.toNat_lt⟩;simp at this
 simpa using this (by simpa using h)
theorem Nq:∀ (l:List UInt8) (acc:Nat),(∀ c ∈ l,AQ c = true)→∃ v,CI acc l = some v
 | [],acc,_=>⟨acc,rfl⟩
 | c::l,acc,h=>by
  unfold CI;rw [if_pos (TZ (h c (by simp)))];exact Nq l _ (fun d hd=>h d (by simp [hd]))
def Rf:List UInt8→Bool
 | b::c::d::y=>b == 92 && c == 120 && (d::y).all AQ && decide (y.length≤1)
 | _=>false
theorem hexs_ok:GW.all Rf = true:=by decide +kernel
theorem Uo (hq:q = 34∨q = 39) {x l:List UInt8} (hx:Rf x = true) (h:Ends1 q n l):Ends1 q n (x++l):=by
 match x,hx with
 | b::c::d::y,hx=>
  simp only [Rf,Bool.and_eq_true,beq_iff_eq,decide_eq_true_eq] at hx;obtain ⟨⟨⟨rfl,rfl⟩,hy⟩,hl⟩:=hx;have hrun:As AQ (d::y++l) = (y.length+1)+As AQ l:=Kw (d::y) l hy;obtain ⟨v,hv⟩:=Nq ((d::y++l).take (min 2 (As AQ (d::y++l)))) 0 (fun e he=>Im AQ (d::y++l) e ((List.take_subset_take_left _ (Nat.min_le_right _ _)) he));refine Ends1.esc hq (b:=[UInt8.ofNat v]) (m:=2+min 2 (As AQ (d::y++l))) ?_ ?_
  ·show HQ (92::120::(d::y++l)) = _
   rw [Cd,if_neg (by decide),if_neg (by decide),if_pos (by decide)];unfold Iy;rw [if_neg (by omega),hv]
  ·show Ends1 q n ((92::120::(d::y++l)).drop _)
   rw [Nat.add_comm,List.drop_succ_cons,List.drop_succ_cons,hrun]
   have e:(d::y++l).drop (min 2 (y.length+1+As AQ l)) = l.drop (min 2 (y.length+1+As AQ l) - (y.length+1)):=by
    rw [List.drop_append,List.drop_of_length_le (by simp; omega)];simp
   rw [e];exact Ends1.dropRun (p:=AQ) (fun _ hc=>Sl hq hc) _ l (by omega) h
def Rb:List UInt8→Bool
 | b::c::y=>b == 92 && (c == 117 && y.length == 4 || c == 85 && y.length == 8) && (match CI 0 y with
  | none=>false
  | some v=>decide (v≤1114111) && !FC v)
 | _=>false
theorem unis_ok:GM.all Rb = true:=by decide +kernel
theorem Uk (hq:q = 34∨q = 39) {x l:List UInt8} (hx:Rb x = true) (h:Ends1 q n l):Ends1 q n (x++l):=by
 match x,hx with
 | b::c::y,hx=>
  simp only [Rb,Bool.and_eq_true,Bool.or_eq_true,beq_iff_eq] at hx;obtain ⟨⟨rfl,hc⟩,hv⟩:=hx
  rcases hx:CI 0 y with _ | v
  ·rw [hx] at hv; cases hv
  ·rw [hx] at hv;simp at hv
   have hu:∀ d,y.length = d→Fl d (92::c::y++l) = some (FK v,d+2):=by
    intro d hd;unfold Fl;rw [if_neg (by simp; omega)]
    show (match CI 0 ((y++l).take d) with | none=>_ | some v=>_) = _
    rw [←hd,List.take_left,hx];simp only;rw [if_neg (by omega),if_pos hv.2]
   rcases hc with ⟨rfl,hl⟩ | ⟨rfl,hl⟩
   ·refine Ends1.esc hq (b:=FK v) (m:=6) ?_ ?_
    ·show HQ (92::117::(y++l)) = _
     rw [Cd,if_neg (by decide),if_neg (by decide),if_neg (by decide),if_pos (by decide)];exact hu 4 hl
    ·show Ends1 q n ((y++l).drop 4)
     rw [←hl,List.drop_left]; exact h
   ·refine Ends1.esc hq (b:=FK v) (m:=10) ?_ ?_
    ·show HQ (92::85::(y++l)) = _
     rw [Cd,if_neg (by decide),if_neg (by decide),if_neg (by decide),if_neg (by decide),if_pos (by decide)];exact hu 8 hl
    ·show Ends1 q n ((y++l).drop 8)
     rw [←hl,List.drop_left]; exact h
def Rd (x:List UInt8):Bool:=match BI x with
 | none=>false
 | some (c,k)=>k == x.length && !(c == 0 || c == 10 || c == 34 || c == 39 || c == 92)
theorem raws_ok:GQ.all Rd = true:=by decide +kernel
theorem Um (hq:q = 34∨q = 39) {x l:List UInt8} (hx:Rd x = true) (h:Ends1 q n l):Ends1 q n (x++l):=by
 unfold Rd at hx
 rcases hu:BI x with _ | ⟨c,k⟩
 ·rw [hu] at hx; cases hx
 ·rw [hu] at hx;simp at hx;obtain ⟨rfl,hc⟩:=hx;have hu2:=Gt hu (r:=l);rw [List.take_length] at hu2;refine (Ends1.same (o:=[]) (o2:=x) (l2:=l) ?_).2 h;rw [Dw hu2,if_neg (by omega),if_neg (by omega),if_neg (by omega),List.drop_left,List.take_left];simp
theorem Sr (ps:List UInt8) (hq:q = 34∨q = 39) (s:WS):∃ x,(BF ps q s).out = s.out++x∧(BF ps q s).l = s.l∧(BF ps q s).left = s.left∧∀ n l,Ends1 q n l→Ends1 q n (x++l):=by
 have tab:∀ (tab:List (List UInt8)) (ok:List UInt8→Bool) (s1:WS),0 < tab.length→s1.out = s.out→s1.l = s.l→s1.left = s.left→tab.all ok = true→(∀ x,ok x = true→∀ n l,Ends1 q n l→Ends1 q n (x++l))→
   ∃ x,(BK ps tab s1).out = s.out++x∧(BK ps tab s1).l = s.l∧(BK ps tab s1).left = s.left∧∀ n l,Ends1 q n l→Ends1 q n (x++l):=by
  intro tab ok s1 h0 e1 e2 e3 hall hok;obtain ⟨x,hx,h1,h2,h3⟩:=Dv ps tab s1 h0;exact ⟨x,by rw [h1,e1],by rw [h2,e2],by rw [h3,e3],hok x (List.all_eq_true.1 hall x hx)⟩
 unfold BF;simp only
 split
 ·refine ⟨_,rfl,rfl,rfl,fun n l h=>?_⟩;have hp:=JW ps (Ab ps s).k 95 (by decide);generalize Af ps (Ab ps s).k 95 = v at *;rw [List.singleton_append]
  have hc:∀ z,z < 128→(UInt8.ofNat z).toNat = z:=fun z hz=>by simp [Nat.mod_eq_of_lt (show z < 256 by omega)]
  split
  ·rw [Ends1.plain]
   ·exact h
   all_goals rw [hc 113 (by decide)]; omega
  ·rename_i hne
   rw [Ends1.plain]
   ·exact h
   all_goals rw [hc _ (by omega)]; omega
 ·split
  ·exact tab GP Rc _ (by decide) rfl rfl rfl sims_ok fun x hx n l h=>Ul hq hx h
  ·split
   ·exact tab GU Re _ (by decide) rfl rfl rfl octs_ok fun x hx n l h=>Un hq hx h
   ·split
    ·exact tab GW Rf _ (by decide) rfl rfl rfl hexs_ok fun x hx n l h=>Uo hq hx h
    ·split
     ·exact tab GM Rb _ (by decide) rfl rfl rfl unis_ok fun x hx n l h=>Uk hq hx h
     ·exact tab GQ Rd _ (by decide) rfl rfl rfl raws_ok fun x hx n l h=>Um hq hx h
theorem ME (ps:List UInt8) (hq:q = 34∨q = 39):∀ (m:Nat) (s:WS),∃ x,(Dr ps q m s).out = s.out++x∧(Dr ps q m s).l = s.l∧(Dr ps q m s).left = s.left∧∀ n l,Ends1 q n l→Ends1 q n (x++l)
 | 0,s=>⟨[],by simp [Dr],rfl,rfl,fun n l h=>h⟩
 | m+1,s=>by
  obtain ⟨x,e1,e2,e3,h⟩:=Sr ps hq s;obtain ⟨y,f1,f2,f3,g⟩:=ME ps hq m (BF ps q s);exact ⟨x++y,by rw [Dr,f1,e1,List.append_assoc],by rw [Dr,f2,e2],by rw [Dr,f3,e3],fun n l hl=>by rw [List.append_assoc]; exact h n _ (g n l hl)⟩
def Str1 (x:List UInt8):Prop:=∃ c y,x = c::y∧(c.toNat = 34∨c.toNat = 39)∧∀ r,Ends1 c.toNat r.length (y++r)
theorem OU (ps:List UInt8) (s:WS):∃ x,Str1 x∧(EB ps s).out = s.out++x∧(EB ps s).l = s.l∧(EB ps s).left = s.left:=by
 unfold EB;simp only;generalize hqq:(if 0 < Af ps s.k 2 then 39 else 34:Nat) = q
 have hq:q = 34∨q = 39:=by rw [←hqq]; split <;> simp
 obtain ⟨x,e1,e2,e3,h⟩:=ME (q:=q) ps hq (Af ps (AW [UInt8.ofNat q] (Ab ps s)).k 8) (Ab ps (AW [UInt8.ofNat q] (Ab ps s)))
 have hc:(UInt8.ofNat q).toNat = q:=by rcases hq with rfl | rfl <;> rfl
 refine ⟨UInt8.ofNat q::(x++[UInt8.ofNat q]),⟨_,_,rfl,by rw [hc]; exact hq,fun r=>?_⟩,?_,e2,e3⟩
 ·rw [hc,List.append_assoc];exact h _ _ (Ends1.mark hc hq)
 ·show (Dr ps q _ _).out++_ = _
  rw [e1]
  show (s.out++[_])++_++_ = _
  simp
end
section
theorem LH:∀ (f g:Nat) (l name:List UInt8),l.length≤f→l.length≤g→tnF f l name = tnF g l name
 | 0,0,_,_,_,_=>rfl
 | 0,g+1,l,name,h,_=>by
  have:l = []:=List.eq_nil_of_length_eq_zero (by omega);subst this; rfl
 | f+1,0,l,name,_,h=>by
  have:l = []:=List.eq_nil_of_length_eq_zero (by omega);subst this; rfl
 | f+1,g+1,[],name,_,_=>rfl
 | f+1,g+1,c::r,name,hf,hg=>by
  simp only [List.length_cons] at hf hg;have hc:=C6 r;rw [D9,D9]
  split
  ·rfl
  ·split
   ·exact LH f g _ _ (by omega) (by omega)
   ·split
    ·rcases r with _ | ⟨a,_ | ⟨b,r2⟩⟩
     ·rfl
     ·rfl
     ·simp only
      split
      ·have:=C6 r2;simp only [List.length_cons] at hf hg;exact LH f g _ _ (by omega) (by omega)
      ·rfl
    ·rfl
def tnT (l name:List UInt8):Option (List UInt8 × List UInt8):=tnF l.length l name
theorem NR {f:Nat} {l name:List UInt8} (h:l.length≤f):tnF f l name = tnT l name:=LH _ _ _ _ h (Nat.le_refl _)
theorem JN (c:UInt8) (r name:List UInt8):tnT (c::r) name = if c.toNat = 93 then some (name,r) else if c.toNat = 47∨tnC c = true∨EN c = true then tnT (csT r) (name++[c])
  else if c.toNat = 37 then (match r with
   | a::b::r2=>if AQ a && AQ b then tnT (csT r2) (name++[c,a,b]) else none
   | _=>none)
  else none:=by
 have hc:=C6 r
 conv=>lhs; unfold tnT
 rw [List.length_cons,D9]
 split
 ·rfl
 ·split
  ·exact NR hc
  ·split
   ·rcases r with _ | ⟨a,_ | ⟨b,r2⟩⟩
    ·rfl
    ·rfl
    ·simp only
     split
     ·have:=C6 r2;exact NR (by simp only [List.length_cons]; omega)
     ·rfl
   ·rfl
def It:List UInt8→Bool
 | []=>true
 | [c]=>c.toNat == 47 || tnC c || EN c
 | [c,d]=>(c.toNat == 47 || tnC c || EN c) && It [d]
 | c::a::b::r=>if c.toNat == 47 || tnC c || EN c then It (a::b::r) else c.toNat == 37 && AQ a && AQ b && It r
theorem QU {c:UInt8} (h:(c.toNat == 47 || tnC c || EN c) = true∨c.toNat = 37):Ch c = false∧c.toNat≠35∧c.toNat≠93:=by
 have hall:∀ c:Fin 256,((UInt8.ofNat c.val).toNat == 47 || tnC (UInt8.ofNat c.val) || EN (UInt8.ofNat c.val)) = true∨(UInt8.ofNat c.val).toNat = 37→Ch (UInt8.ofNat c.val) = false∧(UInt8.ofNat c.val).toNat≠35∧(UInt8.ofNat c.val).toNat≠93:=by decide +kernel
 have:=hall ⟨c.toNat,c.toNat_lt⟩;simp only [UInt8.ofNat_toNat] at this;exact this h
theorem NU {c:UInt8} (h:(c.toNat == 47 || tnC c || EN c) = true) (l name:List UInt8):tnT (csT (c::l)) name = tnT (csT l) (name++[c]):=by
 obtain ⟨h1,h2,h3⟩:=QU (.inl h);rw [Ke h1 h2,JN,if_neg h3,if_pos (by simpa [or_assoc] using h)]
theorem JM:∀ (p l name:List UInt8),It p = true→tnT (csT (p++l)) name = tnT (csT l) (name++p)
 | [],l,name,_=>by simp
 | [c],l,name,h=>by
  rw [List.singleton_append,NU h]
 | [c,d],l,name,h=>by
  simp only [It,Bool.and_eq_true] at h
  show tnT (csT (c::d::l)) name = _
  rw [NU h.1,NU h.2,List.append_assoc]
  try rfl
 | c::a::b::r,l,name,h=>by
  unfold It at h
  split at h
  ·rename_i hc
   rw [List.cons_append,NU hc,JM (a::b::r) l _ h,List.append_assoc]
   try rfl
  ·rename_i hc
   simp only [Bool.and_eq_true,beq_iff_eq] at h;obtain ⟨⟨⟨h37,ha⟩,hb⟩,hr⟩:=h;obtain ⟨h1,h2,h3⟩:=QU (c:=c) (.inr h37)
   show tnT (csT (c::a::b::(r++l))) name = _
   rw [Ke h1 h2,JN,if_neg h3,if_neg (by simpa [or_assoc] using hc),if_pos h37];simp only [ha,hb,Bool.and_self,if_true];rw [JM r l _ hr,List.append_assoc]
   try rfl
theorem Tp:(Cm.all fun l=>l.all It && D7 l.flatten) = true:=by decide +kernel
theorem Jj (ps:List UInt8):∀ (l:List (List UInt8)) (str:List UInt8) (s:WS),l.all It = true→∃ y,(Dc ps l str s).2.out = s.out++y∧(Dc ps l str s).2.l = s.l∧(Dc ps l str s).2.left = s.left∧(Dc ps l str s).1 = str++l.flatten∧
  ∀ r name,tnT (csT (y++r)) name = tnT (csT r) (name++l.flatten)
 | [],str,s,_=>⟨[],by simp [Dc],rfl,rfl,by simp [Dc],fun r name=>by simp⟩
 | x::l,str,s,h=>by
  simp only [List.all_cons,Bool.and_eq_true] at h;unfold Dc
  split
  ·obtain ⟨b,hb,e1,e2,e3,_⟩:=A8 ps false (AW x s);obtain ⟨y,f1,f2,f3,f4,f5⟩:=Jj ps l (str++x) (Am ps false (AW x s)) h.2;refine ⟨x++(b++y),?_,by rw [f2,e2]; try rfl,by rw [f3,e3]; try rfl,by rw [f4]; simp,fun r name=>?_⟩
   ·rw [f1,e1]; simp [AW]
   ·rw [List.append_assoc,JM x _ _ h.1,List.append_assoc,Lq hb,f5]; simp
  ·obtain ⟨y,f1,f2,f3,f4,f5⟩:=Jj ps l (str++x) (AW x s) h.2;refine ⟨x++y,?_,f2,f3,by rw [f4]; simp,fun r name=>?_⟩
   ·rw [f1]; simp [AW]
   ·rw [List.append_assoc,JM x _ _ h.1,f5]; simp
theorem P8 (ps:List UInt8) (s:WS):∃ x,(DG ps s).2.out = s.out++(91::x)∧(DG ps s).2.l = s.l∧(DG ps s).2.left = s.left∧D7 (DG ps s).1 = true∧
  ∀ r,tnT (csT (x++r)) [] = some ((DG ps s).1,r):=by
 have hm:Cm.getD (Af ps s.k 5) [] ∈ Cm:=by
  have h:Af ps s.k 5 < Cm.length:=JW ps s.k 5 (by decide);rw [List.getD_eq_getElem?_getD,List.getElem?_eq_getElem h]; exact List.getElem_mem h
 have hok:=List.all_eq_true.1 Tp _ hm;simp only [Bool.and_eq_true] at hok;unfold DG;simp only;obtain ⟨b,hb,e1,e2,e3,_⟩:=A8 ps false (AW [91] (Ab ps s));obtain ⟨y,f1,f2,f3,f4,f5⟩:=Jj ps (Cm.getD (Af ps s.k 5) []) [] (Am ps false (AW [91] (Ab ps s))) hok.1;generalize Dc ps (Cm.getD (Af ps s.k 5) []) [] (Am ps false (AW [91] (Ab ps s))) = R at *;obtain ⟨b2,hb2,g1,g2,g3,_⟩:=A8 ps false R.2;refine ⟨b++(y++(b2++[93])),?_,?_,?_,?_,fun r=>?_⟩
 ·show (Am ps false R.2).out++[93] = _
  rw [g1,f1,e1]; simp [AW,Ab]
 ·show (Am ps false R.2).l = _
  rw [g2,f2,e2]; try rfl
 ·show (Am ps false R.2).left = _
  rw [g3,f3,e3]; try rfl
 ·rw [f4]; simpa using hok.2
 ·simp only [List.append_assoc];rw [Lq hb,f5,Lq hb2,f4];rw [show csT ([93]++r) = 93::r from Ke (by decide) (by decide),JN,if_pos (by decide)]
end
end Go.Proofs.YtgdnpnipahegaaaGreatDoor
