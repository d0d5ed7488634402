/-
 Strings that a call collects itself, and their joining; over the package's reader.
-/
import Derived.Test.YtgdnpnipahegaaaGreatDoorQ9
import Derived.Test.YtgdnpnipahegaaaGreatDoorTString
import Derived.Test.YtgdnpnipahegaaaGreatDoorShelfQ
import Derived.Test.YtgdnpnipahegaaaGreatDoorQ4
namespace Go.Proofs.YtgdnpnipahegaaaGreatDoor
section
open Go.ChangeShapes Go.WideShapes Go.ChangeAt Go.RowKit
theorem Nt (xs:List (List UInt8)):Lib.join xs [] = xs.flatten:=by
 cases xs with
 | nil=>rfl
 | cons x r=>
  rw [Lib.join_cons];unfold Lib.joinTail;simp
def QX (xs:List (List UInt8)):List Value:=xs.map fun x=>.string ⟨x.toArray⟩
def OwnS (w:World) (B:Nat) (v:Value) (xs:List (List UInt8)):Prop:=w.ownsRow B 9 1 v xs.length (QX xs)
theorem OwnS.nil (w:World) (B:Nat):OwnS w B (.slice none 0 0) []:=World.ownsRow_nil _ _ _ _
theorem OwnS.below {w w':World} {B:Nat} {v:Value} {xs:List (List UInt8)} (h:OwnS w B v xs) (hb:Below w.heap.size w w'):OwnS w' B v xs:=
 World.ownsRow.kept h (row:=none) ⟨hb.os,hb.tape,hb.output,hb.size,fun k hk _=>hb.block k hk⟩ (by cases v.ownBlock <;> simp)
theorem OwnS.grown {w w':World} {B q:Nat} {v:Value} {xs:List (List UInt8)} (h:OwnS w B v xs) (hg:w.grownBy w' (some q)) (hq:q < B):OwnS w' B v xs:=
 World.ownsRow.kept h hg (.inr fun e=>by have:=(World.ownsRow.lt h _ e).1; omega)
theorem TR (w:World) (B:Nat) (v:Value) (xs:List (List UInt8)) (h:OwnS w B v xs) (hn:xs.length≤100000000) (hl:xs.flatten.length≤100000000) :
  Calls Tryz.prog 73 #[v,.string ⟨#[]⟩] w fun e w'=>e = .returned (.string ⟨xs.flatten.toArray⟩)∧Below w.heap.size w w':=by
 rcases h.2 with ⟨rfl,h0⟩ | ⟨q,cap,cur,rfl,hB,hq,hnc,hcm,hcs,htk⟩
 ·have:xs = []:=List.eq_nil_of_length_eq_zero h0;subst this;exact (Tryz.strings_Join_none none 0 ⟨#[]⟩ w).mono fun e w' ⟨he,hw⟩=>⟨he,hw ▸ Below.refl _ _⟩
 ·have hc:=World.ownsRow.cells h (g:=q) rfl
  have:=Tryz.strings_Join q 0 cap (xs.map fun x=>⟨x.toArray⟩) ⟨#[]⟩ w (fun j x hx=>by
   have:=hc j (.string x) (by
    unfold QX;rw [List.getElem?_map] at hx ⊢
    rcases hxj:xs[j]? with _ | y
    ·rw [hxj] at hx; cases hx
    ·rw [hxj] at hx
     injection hx with hx
     rw [←hx]
     rfl)
   rwa [Addr.add_lit] at this) (by
    have:=(World.ownsRow.lt h q rfl).2
    exact this) (by simp; omega) (by simp; omega) (by
    rw [show (xs.map fun x=>(⟨x.toArray⟩:ByteArray)).map (·.data.toList) = xs by rw [List.map_map]; simp [Function.comp_def]];rw [show (ByteArray.mk #[]).data.toList = [] from rfl,Nt]
    omega)
  rw [show (xs.map fun x=>(⟨x.toArray⟩:ByteArray)).map (·.data.toList) = xs by rw [List.map_map]; simp [Function.comp_def],show (ByteArray.mk #[]).data.toList = [] from rfl,Nt,List.length_map] at this;exact this
theorem Rm:(Tryz.prog.info? 9).map (fun i=>(i.zero,i.size,i.bytes)) = some (some (.string ⟨#[]⟩),1,16):=by kernel_rfl
section
variable {N:Nat} {D:List Deferred} {a:Act} {l:List (Nat × Value)} {L rest:List Oper} {Q:Exit→Act→World→Prop} {w:World} {d:Nat} {ty:TypeId} {pos:String} {af:Array Edge}
theorem QP {x:Operand} {s:ByteArray} (H:Has N D a l) (hx:ev l x = some (.string s)) (hd:Nat.blt d N = true)
  (h:∀ w' q,w'.cell? ⟨q,0,none⟩ = some (.string s)→Below w.heap.size w w'→∀ a,Has N D a ((d,.slice (some ⟨q,0,none⟩) 1 1)::l)→wpList Tryz.prog L.toArray Q rest a w'):wpList Tryz.prog L.toArray Q (⟨some d,.buildSlice 60 1 #[(0,x)],ty,pos,af,none⟩::rest) a w:=by
 obtain ⟨inf,hi1,hz,hz1,hz2⟩:∃ i,Tryz.prog.info? 9 = some i∧i.zero = some (.string ⟨#[]⟩)∧i.size = 1∧i.bytes = 16:=by
  have:=Rm
  cases hi:Tryz.prog.info? 9 with
  | none=>rw [hi] at this; cases this
  | some i=>rw [hi] at this; simp at this; exact ⟨i,rfl,this.1,this.2.1,this.2.2⟩
 have h1:=H.ev hx;have:=run_buildSlice (P:=Tryz.prog) w 60 9 1 #[(0,.string s)] #[.string s] inf (.string ⟨#[]⟩) Tryz.underlying60 hi1 hz (by rw [hz1]; decide) (by rw [hz1]; decide) (by rw [hz1]; kernel_rfl);refine Cj H hd (v:=.slice (some ⟨w.heap.size,0,none⟩) 1 1) (w':=w.alloc (.cells #[.string s] 9)) (by simp [execOp,h1,this,Result.andThen]) ?_;exact h _ _ (BW (heap_alloc_new w (.cells #[.string s] 9)) 0 _ rfl).1 ((Below.refl _ w).alloc (Nat.le_refl _) _)
set_option maxRecDepth 100000 in
theorem OD {x y:Operand} {B q c:Nat} {v:Value} {xs:List (List UInt8)} {s:List UInt8} (H:Has N D a l) (hx:ev l x = some v) (hown:OwnS w B v xs) (hy:ev l y = some (.slice (some ⟨q,0,none⟩) 1 c)) (hc:w.cell? ⟨q,0,none⟩ = some (.string ⟨s.toArray⟩)) (hB:B≤w.heap.size) (hlen:xs.length≤100000000) (hd:Nat.blt d N = true)
  (h:∀ v' w',OwnS w' B v' (xs++[s])→Below B w w'→∀ a,Has N D a ((d,v')::l)→wpList Tryz.prog L.toArray Q rest a w') :
  wpList Tryz.prog L.toArray Q (⟨some d,.call { callee:=.builtin .append,args:=#[x,y],argTypes:=#[60,60] },ty,pos,af,none⟩::rest) a w:=by
 obtain ⟨inf,hi1,hz,hz1,hz2⟩:∃ i,Tryz.prog.info? 9 = some i∧i.zero = some (.string ⟨#[]⟩)∧i.size = 1∧i.bytes = 16:=by
  have:=Rm
  cases hi:Tryz.prog.info? 9 with
  | none=>rw [hi] at this; cases this
  | some i=>rw [hi] at this; simp at this; exact ⟨i,rfl,this.1,this.2.1,this.2.2⟩
 refine wpList_append_lies w rfl x y 60 rfl B 9 inf (.string ⟨#[]⟩) 1 16 Tryz.underlying60 hi1 hz hz1 hz2 rfl (by decide) v xs.length (QX xs) (H.ev hx) hown ⟨q,0,none⟩ 1 c [.string ⟨s.toArray⟩] (H.ev hy) rfl (fun j u hj=>by
  match j,hj with
  | 0,hj=>injection hj with hj; subst hj; rw [Addr.add_lit]; exact hc) (by intro u hu; simp at hu; subst hu; rfl) (by decide) (by unfold maxLen; omega) (by omega) hB _ rfl ?_
 intro gq cap w' hown' hgrow _ _;refine h _ w' ?_ ?_ _ (H.put hd)
 ·unfold OwnS QX;rw [List.length_append,List.map_append];exact hown'
 ·exact ⟨hgrow.os,hgrow.tape,hgrow.output,hgrow.size,fun k hk=>hgrow.block k (by omega) (fun e=>by have:=(World.ownsRow.lt hown k e.symm).1; omega)⟩
end
theorem pf_join:Av Tryz.prog 73:=⟨_,Tryz.func73,by kernel_rfl,by kernel_rfl⟩
theorem Lj:Av Tryz.prog 72:=⟨_,Tryz.func72,by kernel_rfl,by kernel_rfl⟩
theorem DW.belowN {B p g:Nat} {bs:List UInt8} {vr ve vst vo vi:Value} {s:DT} {w w':World} {N M:Nat} (h:DW B p g bs vr ve vst vo vi s w) (hp:p < M) (hg:g < M) (hv:∀ k,vst.ownBlock = some k→k < M) (hM:M≤N) (hb:Below N w w'):DW B p g bs vr ve vst vo vi s w':=
 h.belowAt N (by omega) (by omega) (fun k hk=>by have:=hv k hk; omega) hb
end
section
theorem DU {bs:List UInt8} {k n:Nat} (h:k+n≤bs.length):k+n≤goT bs k n∧goT bs k n≤bs.length:=by
 have:=Je false (bs.drop (k+n));simp only [List.length_drop] at this;unfold goT;omega
structure OkT (bs:List UInt8) (k:Nat) (x:TT × Nat):Prop where
 pos:x.1.pos = k
 lt:k < x.2
 le:x.2≤bs.length
theorem Oa {bs:List UInt8} {k n:Nat} (kd at_:Nat) (h1:1≤n) (h2:k+n≤bs.length):OkT bs k (AD bs k kd n at_):=by
 have:=DU h2;exact ⟨rfl,by show k < goT bs k n; omega,this.2⟩
theorem Tr {bs:List UInt8} {k:Nat} {x:TT × Nat} (h:OkT bs k x):OkT bs k (Fy bs x)∧(Fy bs x).1.kind = x.1.kind:=by
 obtain ⟨t,k'⟩:=x;have h2:=h.lt;have h3:=h.le;simp only at h2 h3
 rcases hd:bs.drop k' with _ | ⟨c,r⟩
 ·rw [LQ hd]; exact ⟨h,rfl⟩
 ·rw [Es hd]
  have hl:k'+1≤bs.length:=by have:=congrArg List.length hd; simp at this; omega
  have:=DU hl
  split
  ·exact ⟨⟨h.pos,by show k < goT bs k' 1; omega,this.2⟩,rfl⟩
  ·exact ⟨h,rfl⟩
theorem Rh {l:List UInt8} {k n:Nat} (h:Cs l = some (k,n)):n≤l.length:=by
 have rest:∀ {kd m k n:Nat} {s:List UInt8},BX kd m s = some (k,n)→n≤m+s.length:=by
  intro kd m k n s h;unfold BX at h
  rcases hf:Ev kd s with _ | ⟨k1,n1⟩
  ·rw [hf] at h; cases h
  ·rw [hf] at h;simp only at h
   have h1:n1≤s.length:=by
    cases s with
    | nil=>cases hf; exact Nat.le_refl _
    | cons c r=>
     have:=Bp AZ r;rw [DS] at hf
     split at hf
     ·split at hf
      ·cases hf
      ·cases hf; simp; omega
     ·cases hf; simp
   rcases he:He k1 (s.drop n1) with _ | ⟨k2,n2⟩
   ·rw [he] at h; cases h
   ·rw [he] at h;simp only at h
    have h2:n2≤(s.drop n1).length:=by
     generalize s.drop n1 = x at he
     match x,he with
     | [],he=>cases he; exact Nat.zero_le _
     | [c],he=>cases he; exact Nat.zero_le _
     | c::d::x,he=>
      have a:=Bp AZ x;have b:=Bp AZ (d::x);rw [Fs] at he;simp only [List.length_cons] at b ⊢
      split at he
      ·split at he
       ·split at he
        ·cases he
        ·cases he; omega
       ·cases he; omega
      ·cases he; omega
    have h3:(Fq k2 (s.drop (n1+n2))).2≤(s.drop (n1+n2)).length:=by
     generalize s.drop (n1+n2) = x
     cases x with
     | nil=>exact Nat.zero_le _
     | cons c x=>rw [FV]; split <;> simp
    simp only [List.length_drop] at h2 h3
    split at h
    ·cases h; omega
    ·cases h
 have hex:∀ {k n:Nat} {s:List UInt8},Iw s = some (k,n)→n≤2+s.length:=by
  intro k n s h;have:=Bp AQ s;unfold Iw at h
  split at h
  ·cases h
  ·split at h
   ·cases h; omega
   ·cases h
 have oct:∀ {k n:Nat} {s:List UInt8},Jo s = some (k,n)→n≤2+s.length:=by
  intro k n s h;have:=Bp AG s;unfold Jo at h
  split at h
  ·cases h; omega
  ·cases h
 match l,h with
 | [],h=>cases h
 | [c],h=>
  rw [CP] at h
  split at h
  ·have:=rest h; simp at this ⊢; omega
  ·split at h
   ·have:=rest h; simp [As] at this ⊢; omega
   ·split at h
    ·have:=rest h; simp at this ⊢; omega
    ·cases h
 | c::d::r,h=>
  rw [CP] at h;have:=Bp AZ (d::r)
  split at h
  ·simp only at h
   split at h
   ·have:=hex h; simp; omega
   ·split at h
    ·have:=oct h; simp; omega
    ·have:=rest h; simp at this ⊢; omega
  ·split at h
   ·have:=rest h; simp only [List.length_drop] at this; simp only [List.length_cons] at *; omega
   ·split at h
    ·have:=rest h; simp at this ⊢; omega
    ·cases h
theorem Pp {l:List UInt8} {k n:Nat} (h:Cs l = some (k,n)):1≤n:=by
 have rest:∀ {kd m k n:Nat} {s:List UInt8},BX kd m s = some (k,n)→m≤n:=by
  intro kd m k n s h;unfold BX at h
  split at h
  ·cases h
  ·split at h
   ·cases h
   ·split at h
    ·cases h; omega
    ·cases h
 have dot:∀ {k n:Nat} {c:UInt8} {r:List UInt8},c.toNat = 46→BX 4 0 (c::r) = some (k,n)→1≤n:=by
  intro k n c r hc h;unfold BX at h;rw [DS,if_pos hc] at h
  split at h
  ·cases h
  ·rename_i k1 n1 h1
   split at h1
   ·cases h1
   ·cases h1
    split at h
    ·cases h
    ·split at h
     ·cases h; omega
     ·cases h
 have hx:∀ {k n:Nat} {s:List UInt8},Iw s = some (k,n)→1≤n:=by
  intro k n s h;unfold Iw at h
  split at h
  ·cases h
  ·split at h
   ·cases h; omega
   ·cases h
 have ho:∀ {k n:Nat} {s:List UInt8},Jo s = some (k,n)→1≤n:=by
  intro k n s h;unfold Jo at h
  split at h
  ·cases h; omega
  ·cases h
 cases l with
 | nil=>cases h
 | cons c r=>
  rw [CP] at h
  split at h
  ·split at h
   ·exact rest h
   ·split at h
    ·exact hx h
    ·split at h
     ·exact ho h
     ·exact rest h
  ·split at h
   ·have:=rest h; omega
   ·split at h
    ·rename_i hc; exact dot hc h
    ·cases h
theorem E9 {l:List UInt8} {x:NT} (h:EP l = some x):1≤x.size∧x.size≤l.length∧(x.neg = true→x.sep+2≤x.size)∧(x.neg = false→x.sep = 0):=by
 cases l with
 | nil=>cases h
 | cons c r=>
  have hs:=Je false r;rw [DC] at h
  split at h
  ·rcases hb:Cs (r.drop (skT false r)) with _ | ⟨k,n⟩
   ·rw [hb] at h; cases h
   ·rw [hb] at h;have h1:=Rh hb;have h2:=Pp hb;simp only [List.length_drop] at h1;cases h;exact ⟨by simp only; omega,by simp only [List.length_cons]; omega,fun _=>by simp only; omega,fun h=>by cases h⟩
  ·rcases hb:Cs (c::r) with _ | ⟨k,n⟩
   ·rw [hb] at h; cases h
   ·rw [hb] at h;have h1:=Rh hb;have h2:=Pp hb;cases h;exact ⟨h2,h1,(fun h=>by cases h),fun _=>rfl⟩
theorem Lf:∀ (f:Nat) (l name n2 r:List UInt8),tnF f l name = some (n2,r)→r.length+1≤l.length
 | 0,_,_,_,_,h=>by cases h
 | f+1,[],_,_,_,h=>by cases h
 | f+1,c::l,name,n2,r,h=>by
  rw [D9] at h
  split at h
  ·cases h; simp
  ·split at h
   ·have:=Lf f _ _ _ _ h;have:=C6 l;simp only [List.length_cons]; omega
   ·split at h
    ·match l,h with
     | [],h=>cases h
     | [a],h=>cases h
     | a::b::l2,h=>
      simp only at h
      split at h
      ·have:=Lf f _ _ _ _ h;have:=C6 l2;simp only [List.length_cons]; omega
      ·cases h
    ·cases h
theorem Kd {bs:List UInt8} {k:Nat} {c:UInt8} {r:List UInt8} (h:bs.drop k = c::r):bs.length = k+r.length+1:=by
 have:=congrArg List.length h;simp at this;omega
theorem Is {bs:List UInt8} {k:Nat} {x:TT × Nat} (h:Bh bs k = some x):OkT bs k x∧x.1.kind = 2:=by
 unfold Bh at h
 rcases hd:bs.drop k with _ | ⟨c,r⟩
 ·rw [hd] at h; cases h
 ·rw [hd] at h;have hl:=Kd hd;simp only [Option.map_eq_some_iff] at h;obtain ⟨y,hy,rfl⟩:=h
  have key:OkT bs k y∧y.1.kind = 2:=by
   split at hy
   ·unfold D8 at hy
    rcases ht:tnF (bs.length+1) (csT (bs.drop (k+1))) [] with _ | ⟨name,r2⟩
    ·rw [ht] at hy; cases hy
    ·rw [ht] at hy;have h1:=Lf _ _ _ _ _ ht;have h2:=C6 (bs.drop (k+1));simp only [List.length_drop] at h2;have h3:=DU (bs:=bs) (k:=bs.length - r2.length) (n:=0) (by omega);simp only at hy
     split at hy
     ·cases hy;exact ⟨⟨rfl,by show k < goT bs _ 0; omega,h3.2⟩,rfl⟩
     ·cases hy
   ·split at hy
    ·rename_i hi
     have:=IU false (c::r);cases hy;simp only [List.length_cons] at this;exact ⟨Oa _ _ (by omega) (by omega),rfl⟩
    ·rcases hn:EP (c::r) with _ | x
     ·rw [hn] at hy; cases hy
     ·rw [hn] at hy;have hs:=E9 hn;simp only [List.length_cons] at hs;simp only at hy
      split at hy
      ·cases hy;exact ⟨Oa _ _ (by omega) (by omega),rfl⟩
      ·cases hy
  exact ⟨(Tr key.1).1,(Tr key.1).2.trans key.2⟩
theorem JP {bs:List UInt8}:∀ (f k:Nat) (out s:List UInt8) (k':Nat),Da bs f k out = some (s,k')→k≤bs.length→k≤k'∧k'≤bs.length
 | 0,_,_,_,_,h,_=>by cases h
 | f+1,k,out,s,k',h,hk=>by
  unfold Da at h
  rcases hd:bs.drop k with _ | ⟨c,r⟩
  ·rw [hd] at h; cases h; exact ⟨Nat.le_refl _,hk⟩
  ·rw [hd] at h;have hl:=Kd hd;simp only at h
   split at h
   ·rcases hs:A7 c.toNat r [] with _ | ⟨s1,m⟩
    ·rw [hs] at h; cases h
    ·rw [hs] at h;have h1:=II hs;have hg:=DU (bs:=bs) (k:=k) (n:=r.length+1 - m) (by omega);have:=JP f _ _ _ _ h hg.2;omega
   ·cases h; exact ⟨Nat.le_refl _,hk⟩
theorem FT {bs:List UInt8} {k:Nat} {x:TT × Nat} (h:Bi bs k = some x):OkT bs k x∧x.1.kind = 3:=by
 unfold Bi at h
 rcases hd:bs.drop k with _ | ⟨c,r⟩
 ·rw [hd] at h; cases h
 ·rw [hd] at h;have hl:=Kd hd;simp only at h
  split at h
  ·rename_i hq
   rcases hs:Da bs (bs.length+1) k [] with _ | ⟨s,k'⟩
   ·rw [hs] at h; cases h
   ·rw [hs] at h;cases h;unfold Da at hs;rw [hd] at hs;simp only at hs;rw [if_pos hq] at hs
    rcases hz:A7 c.toNat r [] with _ | ⟨s1,m⟩
    ·rw [hz] at hs; cases hs
    ·rw [hz] at hs;have h1:=II hz;have hg:=DU (bs:=bs) (k:=k) (n:=r.length+1 - m) (by omega);have:=JP _ _ _ _ _ hs hg.2;exact ⟨⟨rfl,by show k < k'; omega,this.2⟩,rfl⟩
  ·split at h
   ·have:=IU true (c::r);cases h;simp only [List.length_cons] at this;exact ⟨Oa _ _ (by omega) (by omega),rfl⟩
   ·rcases hn:EP (c::r) with _ | x
    ·rw [hn] at h; cases h
    ·rw [hn] at h;have hs:=E9 hn;simp only [List.length_cons] at hs;cases h;have:=DU (bs:=bs) (k:=k) (n:=x.size) (by omega);exact ⟨⟨rfl,by show k < goT bs k _; omega,this.2⟩,rfl⟩
structure OkN (bs:List UInt8) (last:Nat) (st:List UInt8) (k:Nat) (x:TT × List UInt8 × Nat):Prop where
 pos:k≤x.1.pos
 le:x.2.2≤bs.length
 lt:x.1.kind≠1→k < x.2.2
 ge:k≤x.2.2
 kind:1≤x.1.kind∧x.1.kind≤9
 comma:last = 8∨last = 9→x.1.kind≠8∧x.1.kind≠9
theorem Qp {bs:List UInt8} {last:Nat} {st st':List UInt8} {k:Nat} {y:TT × Nat} {x:TT × List UInt8 × Nat} (hk:k≤bs.length) (h:OkT bs (goT bs k 0) y) (he:Aw st' (some y) = some x) (hd:1≤y.1.kind∧y.1.kind≤9) (hc:last = 8∨last = 9→y.1.kind≠8∧y.1.kind≠9):OkN bs last st k x:=by
 obtain ⟨t,k'⟩:=y;have hg:=DU (bs:=bs) (k:=k) (n:=0) (by omega);have h1:=h.pos;have h2:=h.lt;have h3:=h.le;cases he;simp only at h1 h2 h3 hd hc;exact ⟨by show k≤t.pos; omega,h3,fun _=>by show k < k'; omega,by show k≤k'; omega,hd,hc⟩
theorem FH {bs:List UInt8} {last:Nat} {st:List UInt8} {k:Nat} {x:TT × List UInt8 × Nat} (h:C3 bs last st k = some x) (hk:k≤bs.length):OkN bs last st k x:=by
 have hg:=DU (bs:=bs) (k:=k) (n:=0) (by omega)
 have eof:∀ {x},Aw st (some (AD bs (goT bs k 0) 1 0 0)) = some x→OkN bs last st k x:=by
  intro x he;cases he;have:=DU (bs:=bs) (k:=goT bs k 0) (n:=0) (by omega);exact ⟨hg.1,this.2,(fun h=>absurd rfl h),by show k≤goT bs _ 0; omega,⟨Nat.le_refl _,by show 1≤9; decide⟩,fun _=>⟨by show 1≠8; decide,by show 1≠9; decide⟩⟩
 have one:∀ {c:UInt8} {r:List UInt8} {kd:Nat} {st':List UInt8} {x},bs.drop (goT bs k 0) = c::r→1≤kd∧kd≤9→(last = 8∨last = 9→kd≠8∧kd≠9)→Aw st' (some (AD bs (goT bs k 0) kd 1 0)) = some x→OkN bs last st k x:=by
  intro c r kd st' x hd h1 h2 he;have:=Kd hd;exact Qp hk (Oa kd 0 (Nat.le_refl _) (by omega)) he h1 h2
 have fld:∀ {x},Aw st (Bh bs (goT bs k 0)) = some x→OkN bs last st k x:=by
  intro x he
  rcases hf:Bh bs (goT bs k 0) with _ | y
  ·rw [hf] at he; cases he
  ·rw [hf] at he;have:=Is hf;exact Qp hk this.1 he (by omega) (fun _=>by omega)
 have scl:∀ {x},Aw st (Bi bs (goT bs k 0)) = some x→OkN bs last st k x:=by
  intro x he
  rcases hf:Bi bs (goT bs k 0) with _ | y
  ·rw [hf] at he; cases he
  ·rw [hf] at he;have:=FT hf;exact Qp hk this.1 he (by omega) (fun _=>by omega)
 have top:∀ {b:Bool} {x},(b = true→¬ (last = 8∨last = 9))→Cq bs b st (goT bs k 0) = some x→OkN bs last st k x:=by
  intro b x hb he;unfold Cq at he
  split at he
  ·exact eof he
  ·rename_i c r hd
   split at he
   ·rename_i hc; exact one hd (by decide) (fun h=>absurd h (hb hc.1)) he
   ·split at he
    ·rename_i hc; exact one hd (by decide) (fun h=>absurd h (hb hc.1)) he
    ·exact fld he
 have msg:∀ {b:Bool} {x},(b = true→¬ (last = 8∨last = 9))→B4 bs b st (goT bs k 0) = some x→OkN bs last st k x:=by
  intro b x hb he;unfold B4 at he
  split at he
  ·cases he
  ·rename_i c r hd
   split at he
   ·exact one hd (by decide) (fun _=>by decide) he
   ·split at he
    ·cases he
    ·split at he
     ·rename_i hc; exact one hd (by decide) (fun h=>absurd h (hb hc.1)) he
     ·split at he
      ·rename_i hc; exact one hd (by decide) (fun h=>absurd h (hb hc.1)) he
      ·exact fld he
 have val:∀ {l b:Bool} {x},BB bs l b st (goT bs k 0) = some x→OkN bs last st k x:=by
  intro l b x he;unfold BB at he
  split at he
  ·cases he
  ·rename_i c r hd
   split at he
   ·exact one hd (by decide) (fun _=>by decide) he
   ·split at he
    ·exact one hd (by decide) (fun _=>by decide) he
    ·split at he
     ·exact one hd (by decide) (fun _=>by decide) he
     ·exact scl he
 unfold C3 at h;simp only at h
 split at h
 ·exact eof h
 ·split at h
  ·exact top (by simp) h
  ·split at h
   ·exact val h
   ·split at h
    ·exact msg (by simp) h
    ·split at h
     ·exact val h
     ·split at h
      ·split at h
       ·exact top (by simp) h
       ·split at h
        ·exact msg (by simp) h
        ·exact val h
      ·rename_i hn
       split at h
       ·exact top (fun _=>hn) h
       ·split at h
        ·exact msg (fun _=>hn) h
        ·unfold CH at h
         split at h
         ·cases h
         ·rename_i c r hd
          split at h
          ·exact one hd (by decide) (fun h=>absurd h hn) h
          ·split at h
           ·exact one hd (by decide) (fun h=>absurd h hn) h
           ·cases h
theorem Ec {bs:List UInt8} {s s':DT} (h:BN bs s = some s') (hk:s.k≤bs.length) :
  s'.peeked = false∧s'.bad = s.bad∧s'.k≤bs.length∧s.k≤s'.k∧(s'.tok.kind≠1→s.k < s'.k)∧(1≤s'.tok.kind∧s'.tok.kind≤9)∧(s.tok.kind = 8∨s.tok.kind = 9→s'.tok.kind≠8∧s'.tok.kind≠9):=by
 unfold BN at h
 rcases hn:C3 bs s.tok.kind s.st s.k with _ | ⟨t,st,k⟩
 ·rw [hn] at h; cases h
 ·rw [hn] at h;have:=FH hn hk;cases h;exact ⟨rfl,rfl,this.le,this.ge,this.lt,this.kind,this.comma⟩
theorem Io {bs:List UInt8} {s s':DT} (h:Db bs s = some s') (hk:s.k≤bs.length) :
  s'.peeked = false∧s'.bad = s.bad∧s'.k≤bs.length∧s.k≤s'.k∧(s'.tok.kind≠1→s.k < s'.k)∧(1≤s'.tok.kind∧s'.tok.kind≤7):=by
 unfold Db at h
 rcases hs:BN bs s with _ | s1
 ·rw [hs] at h; cases h
 ·rw [hs] at h;have h1:=Ec hs hk;simp only at h
  split at h
  ·rename_i hc
   have h2:=Ec h h1.2.2.1;have h3:=h2.2.2.2.2.2.2 hc;have h4:=h1.2.2.2.2.1 (by omega);exact ⟨h2.1,h2.2.1.trans h1.2.1,h2.2.2.1,by omega,fun _=>by omega,by omega⟩
  ·rename_i hc
   cases h;exact ⟨h1.1,h1.2.1,h1.2.2.1,h1.2.2.2.1,h1.2.2.2.2.1,by omega⟩
theorem CT {bs:List UInt8} {s:DT} (h:s.peeked = false):Cx bs s = Db bs s:=by unfold Cx; rw [h]; try rfl
theorem Kp {bs:List UInt8} {s:DT} (hp:s.peeked = false) (hb:s.bad = false) (hk:s.k≤bs.length):Cx bs (Fo bs s) = Cx bs s:=by
 rw [CT hp];unfold Fo;rw [hp];simp only [Bool.false_eq_true,if_false]
 rcases hf:Db bs s with _ | s'
 ·simp [Cx]
 ·have h1:=Io hf hk;obtain ⟨pk,tok,bad,st,k⟩:=s';simp only at h1;simp [Cx,h1.1,h1.2.1,hb]
theorem Ko (bs:List UInt8) (ps:List Bool) (f:Nat) (s:DT) (out:List TT):FE bs ps (f+1) s out = match Cx bs (if ps.getD out.length false then Fo bs s else s) with
  | none=>(out,false)
  | some s1=>if s1.tok.kind = 1 then (out,true) else FE bs ps f s1 (out++[s1.tok]):=rfl
theorem MZ {bs:List UInt8} (ps:List Bool):∀ (f:Nat) (s:DT) (out:List TT),s.peeked = false→s.bad = false→s.k≤bs.length→FE bs ps f s out = FE bs [] f s out
 | 0,_,_,_,_,_=>rfl
 | f+1,s,out,hp,hb,hk=>by
  have e:Cx bs (if ps.getD out.length false then Fo bs s else s) = Cx bs s:=by
   split
   ·exact Kp hp hb hk
   ·rfl
  rw [Ko,Ko,e];simp only [List.getD_nil,Bool.false_eq_true,if_false]
  rcases hr:Cx bs s with _ | s1
  ·rfl
  ·rw [CT hp] at hr;have hok:=Io hr hk;simp only
   split
   ·rfl
   ·exact MZ ps f s1 _ hok.1 (hok.2.1.trans hb) hok.2.2.1
theorem I4 (bs:List UInt8) (ps:List Bool):Gp bs ps = Gp bs []:=MZ ps _ _ _ rfl rfl (Nat.zero_le _)
end
section
open Go.ChangeShapes Go.WideShapes Go.ChangeAt Go.RowKit
theorem Kl (q:Nat):∀ (f:Nat) (l out s:List UInt8) (m:Nat),F8 q f l out = some (s,m)→m+1≤l.length∧s.length+4 * m≤out.length+4 * l.length
 | 0,_,_,_,_,h=>by cases h
 | f+1,l,out,s,m,h=>by
  unfold F8 at h
  rcases hu:BI l with _ | ⟨c,n⟩
  ·rw [hu] at h; cases h
  ·rw [hu] at h;have hn:=Dg hu;simp only at h
   split at h
   ·cases h
   ·split at h
    ·cases h; omega
    ·split at h
     ·rcases he:HQ l with _ | ⟨b,k⟩
      ·rw [he] at h; cases h
      ·rw [he] at h;have hk:=F1 he;have:=Kl q f _ _ _ _ h;simp only [List.length_append,List.length_drop] at this;omega
     ·have:=Kl q f _ _ _ _ h;simp only [List.length_append,List.length_drop,List.length_take] at this;omega
theorem OW {q:Nat} {l out s:List UInt8} {m:Nat} (h:A7 q l out = some (s,m)):m+1≤l.length∧s.length+4 * m≤out.length+4 * l.length:=Kl q _ _ _ _ _ h
def JQ (bs:List UInt8) (k:Nat):Option (TT × Nat):=match Da bs (bs.length+1) k [] with
 | none=>none
 | some (s,k')=>some (⟨3,2,false,0,k,(bs.drop k).take (k' - k),s⟩,k')
theorem RN {bs out:List UInt8} {f k:Nat} (h:bs.drop k = []):Da bs (f+1) k out = some (out,k):=by unfold Da; rw [h]
theorem Qa {bs out r:List UInt8} {f k:Nat} {c:UInt8} (h:bs.drop k = c::r) (hc:¬ (c.toNat = 34∨c.toNat = 39)):Da bs (f+1) k out = some (out,k):=by unfold Da; rw [h]; simp only; rw [if_neg hc]
theorem MW {bs out r:List UInt8} {f k:Nat} {c:UInt8} (h:bs.drop k = c::r) (hc:c.toNat = 34∨c.toNat = 39) (hs:A7 c.toNat r [] = none):Da bs (f+1) k out = none:=by unfold Da; rw [h]; simp only; rw [if_pos hc,hs]
theorem LJ {bs out r t:List UInt8} {f k m:Nat} {c:UInt8} (h:bs.drop k = c::r) (hc:c.toNat = 34∨c.toNat = 39) (hs:A7 c.toNat r [] = some (t,m)):Da bs (f+1) k out = Da bs f (goT bs k (r.length+1 - m)) (out++t):=by rw [Da,h]; simp only; rw [if_pos hc,hs]
variable {B p g:Nat} {bs:List UInt8} {vr ve vst vo vi:Value} {s:DT} {w:World}
set_option maxRecDepth 100000 in
set_option maxHeartbeats 100000000 in
theorem Eh (h:DW B p g bs vr ve vst vo vi s w) (hm:bs.length≤10000000) :
  Calls Tryz.prog 57 #[.pointer (some ⟨p,0,none⟩)] w (NB B p g bs vr ve vst vo s w (JQ bs s.k)):=by
 suffices key:∀ Z,Hid (JQ bs s.k = Z)→Calls Tryz.prog 57 #[.pointer (some ⟨p,0,none⟩)] w (NB B p g bs vr ve vst vo s w Z) from key _ (hid rfl)
 intro Z HZ;have hlp:=h.lt;have hgl:=h.gl;have hgp:g≠p:=h.gp;have HO:=hid h.ownLt
 have h9:9≤w.heap.size:=by have:=h.base; have:=h.b9; omega
 have hle:=h.le;have hlk:(bs.drop s.k).length = bs.length - s.k:=List.length_drop;have hg0:w.grownBy w (some p):=Bx (Below.refl _ _) _;refine enter1 (M:=70) Tryz.func57 rfl rfl rfl fun a H=>?_;have hi0:=h.inn;refine zr fun j1=>?_;obtain ⟨q2,hq2⟩:∃ q,q = w.heap.size:=⟨_,rfl⟩;refine Az Bj H rfl fun w2 hr2 hb2 hs2 a H=>?_;rw [←hq2] at H hr2;have hz3:=hb2.size;have hd4:=DW.below h hb2;have hg5:=Aa hg0 (Below.mono hb2 (by omega));refine za H rfl fun H=>zN (j1 ?_);refine zr fun j6=>zm H rfl fun H=>zc H rfl fun H=>zg Be H rfl fun H=>?_;have hinK7:View w2 g _ (bs.drop s.k):=DW.inn hd4;refine Ah AH H rfl (DW.c10 hd4).1 rfl fun a H=>za H rfl fun H=>zN (j6 ?_);refine zs fun j8=>?_;obtain ⟨BS,hBS⟩:∃ BS,BS = w2.heap.size:=⟨_,rfl⟩;have hBS2:=hBS;have hs0:OwnS w2 BS (.slice none 0 0) []:=OwnS.nil _ _;refine Ac (za H rfl fun H=>zN (j8 ?_));refine zK H [0,2,3,4,5] rfl fun H=>BM fun K9 hK9=>?_
 have hJ:∀ (a:Act) (k:Nat) (vi9 vs:Value) (xs:List (List UInt8)) (wk:World),Has 70 [] a [(0,.pointer (some ⟨p,0,none⟩)),(2,.pointer (some ⟨q2,0,none⟩)),(3,.nilIface),(4,vi),(5,vs)]→DW B p g bs vr ve vst vo vi9 { s with k:=k } wk∧RowAt wk q2 [.int .u8 0,.int .u8 0,.int .u8 0,.int .i64 0,.slice none 0 0,.string { data:=#[] }]∧OwnS wk BS vs xs∧w.grownBy wk (some p)∧View wk g vi (bs.drop s.k)∧BS≤wk.heap.size→Da bs (bs.length+1) s.k [] = some (xs.flatten,k)→xs.length≤bs.length∧s.k≤k∧xs.flatten.length≤4 * bs.length→K9 a wk:=by
  intro a k vi9 vs xs wk H hfacts hres hxl;refine hK9 _ _ ?_;obtain ⟨hdL,hrL,hsL,hgL,hin0,hBL⟩:=hfacts;have hlkK:(bs.drop k).length = bs.length - k:=List.length_drop;have hleK:k≤bs.length:=hdL.le;refine zs fun j10=>AE (fun w'=>w'.cell? ⟨p,9,none⟩ = some vo∧w'.cell? ⟨p,10,none⟩ = some vi9) 23 AO rfl ?_;have hbd11:Below wk.heap.size wk wk.drew:=(Below.refl _ _).drew;generalize wk.drew = wd11 at hbd11 ⊢;have hstr12:=OwnS.below hsL hbd11;have hz13:=hbd11.size;have hv14:=View.below hin0 hbd11;have hr15:=RowAt.bl hrL hbd11;have hd16:=DW.below hdL hbd11;have hg17:=Aa hgL (Below.mono hbd11 (by omega));refine zd 0 H rfl (Al H rfl) ⟨(DW.c9 hd16).1,(DW.c10 hd16).1⟩ fun H=>zd 1 H rfl (Ak H rfl) ⟨(DW.c9 hd16).1,(DW.c10 hd16).1⟩ fun H=>zd 2 H rfl (Ap EJ H rfl) ⟨(DW.c9 hd16).1,(DW.c10 hd16).1⟩ fun H=>zd 3 H rfl (Au AH H rfl (fun _ h=>h.1)) ⟨(DW.c9 hd16).1,(DW.c10 hd16).1⟩ fun H=>zd 4 H rfl (Gd Tryz.underlying22 H rfl (DW.orig hd16)) ⟨(DW.c9 hd16).1,(DW.c10 hd16).1⟩ fun H=>zd 5 H rfl (Al H rfl) ⟨(DW.c9 hd16).1,(DW.c10 hd16).1⟩ fun H=>zd 6 H rfl (Gd Tryz.underlying22 H rfl hv14) ⟨(DW.c9 hd16).1,(DW.c10 hd16).1⟩ fun H=>zd 7 H rfl (Ht (r:=((s.k:Nat):Int)) H rfl rfl (by omega) (by omega) (by omega)) ⟨(DW.c9 hd16).1,(DW.c10 hd16).1⟩ fun H=>zd 8 H rfl (Al H rfl) ⟨(DW.c9 hd16).1,(DW.c10 hd16).1⟩ fun H=>zd 9 H rfl (Al H rfl) ⟨(DW.c9 hd16).1,(DW.c10 hd16).1⟩ fun H=>zd 10 H rfl (Gd Tryz.underlying22 H rfl hv14) ⟨(DW.c9 hd16).1,(DW.c10 hd16).1⟩ fun H=>zd 11 H rfl (Al H rfl) ⟨(DW.c9 hd16).1,(DW.c10 hd16).1⟩ fun H=>zd 12 H rfl (Ak H rfl) ⟨(DW.c9 hd16).1,(DW.c10 hd16).1⟩ fun H=>zd 13 H rfl (Ap Be H rfl) ⟨(DW.c9 hd16).1,(DW.c10 hd16).1⟩ fun H=>?_;have hinK18:View wd11 g _ (bs.drop k):=DW.inn hd16;refine zd 14 H rfl (Au AH H rfl (fun _ h=>h.2)) ⟨(DW.c9 hd16).1,(DW.c10 hd16).1⟩ fun H=>zd 15 H rfl (Gd Tryz.underlying22 H rfl hinK18) ⟨(DW.c9 hd16).1,(DW.c10 hd16).1⟩ fun H=>zd 16 H rfl (Ht (r:=((k - s.k:Nat):Int)) H rfl rfl (by omega) (by omega) (by omega)) ⟨(DW.c9 hd16).1,(DW.c10 hd16).1⟩ fun H=>?_;obtain ⟨aoR,cR,hrunR,hvR⟩:=View.uptoRun (P:=Tryz.prog) hv14 Tryz.underlying22 Ag .i64 (k - s.k) (by rw [hlk]; omega);refine zd 17 H rfl (Qi H rfl rfl hrunR) ⟨(DW.c9 hd16).1,(DW.c10 hd16).1⟩ fun H=>zd 18 H rfl (Al H rfl) ⟨(DW.c9 hd16).1,(DW.c10 hd16).1⟩ fun H=>zD 19 rfl (zC pf_join H rfl (Calls.mono (TR wd11 BS _ xs hstr12 (by omega) (by omega)) ?_));rintro e w19 ⟨rfl,hb19⟩;refine zR fun H=>?_;have hstr20:=OwnS.below hstr12 hb19;have hz21:=hb19.size;have hv24:=View.below hvR hb19;have hr25:=RowAt.bl hr15 hb19;have hd26:=DW.below hd16 hb19;have hg27:=Aa hg17 (Below.mono hb19 (by omega));refine wpList_nil ⟨⟨(DW.c9 hd26).1,(DW.c10 hd26).1⟩,?_⟩;refine zd 20 H rfl (Cy (JA _ _ _ _ _ _ _) H rfl) ⟨(DW.c9 hd26).1,(DW.c10 hd26).1⟩ fun H=>zD 21 rfl (zT H rfl rfl hr25 fun {w28} hr28 hg28=>?_);have hstr29:=OwnS.grown hstr20 hg28 (by omega);have hz30:=hg28.size;have hB30:=Ae (N:=w.heap.size) hg28 (by omega) (by omega);have hv33:=View.kg hv24 hg28;have hd34:=DW.belowAt hd26 w.heap.size hlp hgl HO.out hB30;have hg35:=Aa hg27 hB30;refine wpList_nil ⟨⟨(DW.c9 hd34).1,(DW.c10 hd34).1⟩,?_⟩;refine zd 22 H rfl (An H rfl) ⟨(DW.c9 hd34).1,(DW.c10 hd34).1⟩ fun H=>Ay (by kernel_rfl) (tn (j10 ?_));refine wp_ret (?_);refine AR H rfl rfl hr28 ?_;rw [show Z = some (⟨3,2,false,0,s.k,(bs.drop s.k).take (k - s.k),xs.flatten⟩,k) from by rw [←HZ.out]; unfold JQ; rw [hres]];exact ⟨_,_,rfl,hv33,hd34,hg35⟩
 refine wp_block (wp_loop (fun a wx=>∃ (f k:Nat) (vi9 vs:Value) (xs:List (List UInt8)),Has 70 [] a [(0,.pointer (some ⟨p,0,none⟩)),(2,.pointer (some ⟨q2,0,none⟩)),(3,.nilIface),(4,vi),(5,vs)]∧(DW B p g bs vr ve vst vo vi9 { s with k:=k } wx∧RowAt wx q2 [.int .u8 0,.int .u8 0,.int .u8 0,.int .i64 0,.slice none 0 0,.string { data:=#[] }]∧OwnS wx BS vs xs∧w.grownBy wx (some p)∧View wx g vi (bs.drop s.k)∧BS≤wx.heap.size)∧Da bs f k xs.flatten = Da bs (bs.length+1) s.k []∧bs.length - k < f∧xs.length+s.k≤k∧xs.flatten.length+4 * s.k≤4 * k) (fun _ wx=>match wx.cell? ⟨p,10,none⟩ with | some v=>BU v | none=>0) ?_ ?_)
 ·exact ⟨bs.length+1,s.k,_,_,[],H.c,⟨hd4,hr2,hs0,hg5,hinK7,by omega⟩,rfl,by omega,by simp,by simp⟩
 ·rintro a wk ⟨f,k,vi9,vs,xs,H,⟨hdL,hrL,hsL,hgL,hin0,hBL⟩,hT,hf,hxk,hfl⟩;have Hs36:=H;obtain ⟨f,rfl⟩:∃ f1,f = f1+1:=⟨f - 1,by omega⟩;have H:=Hs36;have hmu:=hid (Cv hdL.inn);have hmc:=hid hdL.c10.1;have hleK:k≤bs.length:=hdL.le;have Hs37:=H
  rcases hbk:bs.drop k with _ | ⟨c,r⟩
  ·have H:=Hs37;have hlI:(([]:List UInt8)).length = 0:=rfl;have hvI:View wk g vi9 (([]:List UInt8)):=hdL.inn.eq hbk;refine zs fun j38=>zr fun j39=>zm H rfl fun H=>zc H rfl fun H=>zg Be H rfl fun H=>Ah AH H rfl (DW.c10 hdL).1 rfl fun a H=>zL Tryz.underlying22 H rfl hvI fun H=>zgf H rfl rfl fun H=>zm H rfl fun H=>zf H rfl fun H=>zf H rfl fun H=>zf H rfl fun H=>zf H rfl fun H=>zf H rfl fun H=>?_;refine zf H rfl fun H=>zf H rfl fun H=>zf H rfl fun H=>zu H rfl fun H=>zu H rfl fun H=>zu H rfl fun H=>zu H rfl fun H=>zu H rfl fun H=>zu H rfl fun H=>zu H rfl fun H=>zf H rfl fun H=>zp H rfl rfl fun H=>zN (j39 ?_);refine zj H rfl ?_;exact wp_exit (te (te (A9 (tn (hJ _ _ _ _ _ _ H.c ⟨hdL,hrL,hsL,hgL,hin0,hBL⟩ (by rw [←hT]; exact RN hbk) ⟨by omega,by omega,by omega⟩)))))
  ·have H:=Hs37;have hlI:(c::r).length = r.length+1:=rfl;have bc:=AM c
   have hkr:k+(r.length+1) = bs.length:=by have:=congrArg List.length hbk; simp at this; omega
   have hvI:View wk g vi9 (c::r):=hdL.inn.eq hbk;refine zs fun j40=>zr fun j41=>zm H rfl fun H=>zc H rfl fun H=>zg Be H rfl fun H=>Ah AH H rfl (DW.c10 hdL).1 rfl fun a H=>zL Tryz.underlying22 H rfl hvI fun H=>zgt H rfl rfl fun H=>zm H rfl fun H=>zo H rfl (zm H rfl fun H=>zo H rfl (zc H rfl fun H=>zo H rfl ?_));refine zg Be H rfl fun H=>zo H rfl (Ah AH H rfl (DW.c10 hdL).1 rfl fun a H=>zo H rfl (zI H rfl rfl hvI rfl fun H hc42=>zo H rfl (zl A5 H rfl hc42 fun H=>zo H rfl ?_)))
   by_cases q43:((c.toNat:Int)) = ((34:Int))
   ·refine zet H rfl rfl fun H=>zo H rfl (zm H rfl fun H=>zf H rfl fun H=>zf H rfl fun H=>zf H rfl fun H=>zf H rfl fun H=>zf H rfl fun H=>zf H rfl fun H=>zf H rfl fun H=>zo H rfl (zp H rfl rfl fun H=>zp H rfl rfl fun H=>zN (j41 ?_)));refine zi H rfl (wp_skip (tn (j40 ?_)));refine zK H [0,2,3,4,5] rfl fun H=>wp_block (zs fun j44=>?_)
    have hqt:c.toNat = 34∨c.toNat = 39:=by omega
    have Hs45:=H
    rcases hs0t:A7 c.toNat r [] with _ | ⟨t,m⟩
    ·have H:=Hs45;refine Ac (zm H rfl fun H=>?_);have hpk:p < wk.heap.size:=hdL.lt;have HP:=Eg { s with k:=k } wk hdL hpk c r hbk hqt hm;rw [hs0t] at HP;refine zC Lj H rfl (Calls.mono HP ?_);rintro e w46 ⟨⟨te,xe,rfl⟩,hb46⟩;refine zR fun H=>?_;have hstr47:=OwnS.below hsL hb46;have hz48:=hb46.size;have hr50:=RowAt.bl hrL hb46;have hd51:=DW.below hdL hb46;have hg52:=Aa hgL (Below.mono hb46 (by omega));refine zm H rfl fun H=>zx H rfl rfl fun H=>zx H rfl rfl fun H=>za H rfl fun H=>za H rfl fun H=>zN (j44 ?_);refine zs fun j53=>zr fun j54=>zm H rfl fun H=>Br (b:=true) H rfl (.inr ⟨_,_,rfl,rfl⟩) rfl fun a H=>zN (j54 ?_);refine zi H rfl (zr fun j55=>zB Ao H rfl fun H=>zm H rfl fun H=>zT H rfl rfl hr50 fun {w56} hr56 hg56=>?_);have hstr57:=OwnS.grown hstr47 hg56 (by omega);have hz58:=hg56.size;have hB58:=Ae (N:=w.heap.size) hg56 (by omega) (by omega);have hd60:=DW.belowAt hd51 w.heap.size hlp hgl HO.out hB58;have hg61:=Aa hg52 hB58;refine za H rfl fun H=>zN (j55 ?_);refine zK H [0,2,3,4,5,6] rfl fun H=>wp_ret (tr (br (tr (br (tr (?_))))));refine AR H rfl rfl hr56 ?_;rw [show Z = none from by rw [←HZ.out]; unfold JQ; rw [←hT]; simp only [MW hbk hqt hs0t]];exact ⟨⟨_,_,rfl⟩,⟨_,_,hd60⟩,hg61⟩
    ·have H:=Hs45;have hml:=OW hs0t;simp only [List.length_nil] at hml;have hgo:=DU (bs:=bs) (k:=k) (n:=r.length+1 - m) (by omega);refine Ac (zm H rfl fun H=>?_);have hpk:p < wk.heap.size:=hdL.lt;have HP:=Eg { s with k:=k } wk hdL hpk c r hbk hqt hm;rw [hs0t] at HP;refine zC Lj H rfl (Calls.mono HP ?_);rintro e w62 ⟨rfl,vi62,hd62,hgc62⟩;refine zR fun H=>?_;have hstr63:=OwnS.grown hsL hgc62 (by omega);have hz64:=hgc62.size;have hv65:=View.kept hin0 (World.grownBy.block hgc62 g (by omega) (fun e=>by injection e with e; exact hgp e));have hr66:=RowAt.gr hrL hgc62;have hg67:=Bg hgL hgc62;refine zm H rfl fun H=>zx H rfl rfl fun H=>zx H rfl rfl fun H=>za H rfl fun H=>za H rfl fun H=>zN (j44 ?_);refine zs fun j68=>zr fun j69=>zm H rfl fun H=>Br (b:=false) H rfl (.inl ⟨rfl,rfl⟩) rfl fun a H=>zN (j69 ?_);refine zj H rfl (wp_skip (tn (j68 ?_)));refine zK H [0,2,3,4,5,6] rfl fun H=>Ac (zm H rfl fun H=>zm H rfl fun H=>QP H rfl rfl fun w70 q70 hc70 hb70 a H=>?_);have hstr71:=OwnS.below hstr63 hb70;have hz72:=hb70.size;have hv73:=View.below hv65 hb70;have hr74:=RowAt.bl hr66 hb70;have hd75:=DW.below hd62 hb70;have hg76:=Aa hg67 (Below.mono hb70 (by omega));refine OD H rfl hstr71 rfl hc70 (by omega) (by omega) rfl fun vs77 w77 hstr77 hb77 a H=>?_;have hz77:=hb77.size;have hv78:=View.kept hv73 (hb77.block g (by omega));have hr79:=RowAt.belowN hr74 hb77 (by omega);have hd80:=DW.belowN hd75 hlp hgl HO.out (N:=BS) (by omega) hb77;have hg81:=Aa hg76 (hb77.mono (by omega));refine za H rfl fun H=>?_;have hm9:(BU _) = _:=Cv (DW.inn hd80);refine wpList_nil (bn (tn (⟨⟨f,goT bs k (r.length+1 - m),_,_,xs++[t],H.c,⟨hd80,hr79,hstr77,hg81,hv78,by omega⟩,?_,by omega,by simp only [List.length_append,List.length_cons,List.length_nil]; omega,?_⟩,?_⟩)))
     ·rw [←hT,LJ hbk hqt hs0t]; simp
     ·simp only [List.flatten_append,List.length_append,List.flatten_cons,List.flatten_nil,List.length_nil]; omega
     ·have hc9:=(DW.c10 hd80).1;have h2:=hmu.out;rw [hmc.out,hc9]
      show BU _ < BU _
      rw [h2,hm9];simp only [List.length_drop];omega
   ·refine zef H rfl rfl fun H=>zo H rfl (zm H rfl fun H=>zo H rfl (zm H rfl fun H=>zo H rfl (zc H rfl fun H=>zo H rfl (zg Be H rfl fun H=>zo H rfl (Ah AH H rfl (DW.c10 hdL).1 rfl fun a H=>zo H rfl (zI H rfl rfl hvI rfl fun H hc82=>zo H rfl ?_))))));refine zl A5 H rfl hc82 fun H=>zo H rfl ?_
    by_cases q83:((c.toNat:Int)) = ((39:Int))
    ·refine zet H rfl rfl fun H=>zo H rfl (zp H rfl rfl fun H=>zp H rfl rfl fun H=>zN (j41 ?_));refine zi H rfl (wp_skip (tn (j40 ?_)));refine wp_block (zs fun j84=>?_)
     have hqt:c.toNat = 34∨c.toNat = 39:=by omega
     have Hs85:=H
     rcases hs0t:A7 c.toNat r [] with _ | ⟨t,m⟩
     ·have H:=Hs85;refine Ac (zm H rfl fun H=>?_);have hpk:p < wk.heap.size:=hdL.lt;have HP:=Eg { s with k:=k } wk hdL hpk c r hbk hqt hm;rw [hs0t] at HP;refine zC Lj H rfl (Calls.mono HP ?_);rintro e w86 ⟨⟨te,xe,rfl⟩,hb86⟩;refine zR fun H=>?_;have hstr87:=OwnS.below hsL hb86;have hz88:=hb86.size;have hr90:=RowAt.bl hrL hb86;have hd91:=DW.below hdL hb86;have hg92:=Aa hgL (Below.mono hb86 (by omega));refine zm H rfl fun H=>zx H rfl rfl fun H=>zx H rfl rfl fun H=>za H rfl fun H=>za H rfl fun H=>zN (j84 ?_);refine zK H [0,2,3,4,5,6,7] rfl fun H=>zs fun j93=>zr fun j94=>zm H rfl fun H=>Br (b:=true) H rfl (.inr ⟨_,_,rfl,rfl⟩) rfl fun a H=>zN (j94 ?_);refine zi H rfl (zr fun j95=>zB Ao H rfl fun H=>zm H rfl fun H=>zT H rfl rfl hr90 fun {w96} hr96 hg96=>?_);have hstr97:=OwnS.grown hstr87 hg96 (by omega);have hz98:=hg96.size;have hB98:=Ae (N:=w.heap.size) hg96 (by omega) (by omega);have hd100:=DW.belowAt hd91 w.heap.size hlp hgl HO.out hB98;have hg101:=Aa hg92 hB98;refine za H rfl fun H=>zN (j95 ?_);refine wp_ret (tr (br (tr (br (tr (?_))))));refine AR H rfl rfl hr96 ?_;rw [show Z = none from by rw [←HZ.out]; unfold JQ; rw [←hT]; simp only [MW hbk hqt hs0t]];exact ⟨⟨_,_,rfl⟩,⟨_,_,hd100⟩,hg101⟩
     ·have H:=Hs85;have hml:=OW hs0t;simp only [List.length_nil] at hml;have hgo:=DU (bs:=bs) (k:=k) (n:=r.length+1 - m) (by omega);refine Ac (zm H rfl fun H=>?_);have hpk:p < wk.heap.size:=hdL.lt;have HP:=Eg { s with k:=k } wk hdL hpk c r hbk hqt hm;rw [hs0t] at HP;refine zC Lj H rfl (Calls.mono HP ?_);rintro e w102 ⟨rfl,vi102,hd102,hgc102⟩;refine zR fun H=>?_;have hstr103:=OwnS.grown hsL hgc102 (by omega);have hz104:=hgc102.size;have hv105:=View.kept hin0 (World.grownBy.block hgc102 g (by omega) (fun e=>by injection e with e; exact hgp e));have hr106:=RowAt.gr hrL hgc102;have hg107:=Bg hgL hgc102;refine zm H rfl fun H=>zx H rfl rfl fun H=>zx H rfl rfl fun H=>za H rfl fun H=>za H rfl fun H=>zN (j84 ?_);refine zK H [0,2,3,4,5,6,7] rfl fun H=>zs fun j108=>zr fun j109=>zm H rfl fun H=>Br (b:=false) H rfl (.inl ⟨rfl,rfl⟩) rfl fun a H=>zN (j109 ?_);refine zj H rfl (wp_skip (tn (j108 ?_)));refine Ac (zm H rfl fun H=>zm H rfl fun H=>QP H rfl rfl fun w110 q110 hc110 hb110 a H=>?_);have hstr111:=OwnS.below hstr103 hb110;have hz112:=hb110.size;have hv113:=View.below hv105 hb110;have hr114:=RowAt.bl hr106 hb110;have hd115:=DW.below hd102 hb110;have hg116:=Aa hg107 (Below.mono hb110 (by omega));refine OD H rfl hstr111 rfl hc110 (by omega) (by omega) rfl fun vs117 w117 hstr117 hb117 a H=>?_;have hz117:=hb117.size;have hv118:=View.kept hv113 (hb117.block g (by omega));have hr119:=RowAt.belowN hr114 hb117 (by omega);have hd120:=DW.belowN hd115 hlp hgl HO.out (N:=BS) (by omega) hb117;have hg121:=Aa hg116 (hb117.mono (by omega));refine za H rfl fun H=>?_;have hm9:(BU _) = _:=Cv (DW.inn hd120);refine wpList_nil (bn (tn (⟨⟨f,goT bs k (r.length+1 - m),_,_,xs++[t],H.c,⟨hd120,hr119,hstr117,hg121,hv118,by omega⟩,?_,by omega,by simp only [List.length_append,List.length_cons,List.length_nil]; omega,?_⟩,?_⟩)))
      ·rw [←hT,LJ hbk hqt hs0t]; simp
      ·simp only [List.flatten_append,List.length_append,List.flatten_cons,List.flatten_nil,List.length_nil]; omega
      ·have hc9:=(DW.c10 hd120).1;have h2:=hmu.out;rw [hmc.out,hc9]
       show BU _ < BU _
       rw [h2,hm9];simp only [List.length_drop];omega
    ·refine zef H rfl rfl fun H=>zo H rfl (zp H rfl rfl fun H=>zp H rfl rfl fun H=>zN (j41 ?_));refine zK H [0,2,3,4,5,35] rfl fun H=>zj H rfl ?_;exact wp_exit (te (te (A9 (tn (hJ _ _ _ _ _ _ H.c ⟨hdL,hrL,hsL,hgL,hin0,hBL⟩ (by rw [←hT]; exact Qa hbk (by omega)) ⟨by omega,by omega,by omega⟩)))))
end
end Go.Proofs.YtgdnpnipahegaaaGreatDoor
