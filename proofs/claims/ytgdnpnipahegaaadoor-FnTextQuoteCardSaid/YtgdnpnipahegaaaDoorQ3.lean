/-
 A number of JSON as the package reads it: how many bytes it has. Plain functions.
-/
import Derived.Test.YtgdnpnipahegaaaDoorQ0
import Derived.Test.YtgdnpnipahegaaaDoorQ2
namespace Go.Proofs.YtgdnpnipahegaaaDoor
section
def ED (c:UInt8):Bool:=decide (48≤c.toNat) && decide (c.toNat≤57)
def Hx:List UInt8→Nat
 | []=>0
 | c::l=>if ED c then Hx l+1 else 0
def notDel (c:UInt8):Bool:=
 c.toNat == 45 || c.toNat == 43 || c.toNat == 46 || c.toNat == 95 || (decide (97≤c.toNat) && decide (c.toNat≤122)) || (decide (65≤c.toNat) && decide (c.toNat≤90)) || ED c
def intN:List UInt8→Option Nat
 | []=>none
 | c::l=>if c.toNat = 48 then some 1 else if 49≤c.toNat∧c.toNat≤57 then some (1+Hx l) else none
def fracN:List UInt8→Nat
 | a::d::l=>if a.toNat = 46∧ED d = true then 2+Hx l else 0
 | _=>0
def expN:List UInt8→Option Nat
 | a::d::l=>if a.toNat = 101∨a.toNat = 69 then (if d.toNat = 43∨d.toNat = 45 then (if l = [] then none else some (2+Hx l)) else some (1+Hx (d::l))) else some 0
 | _=>some 0
def Hk:List UInt8→Nat
 | c::_=>if c.toNat = 45 then 1 else 0
 | []=>0
def numJ (l:List UInt8):Option Nat:=match intN (l.drop (Hk l)) with
 | none=>none
 | some i=>match expN (l.drop (Hk l+i+fracN (l.drop (Hk l+i)))) with
  | none=>none
  | some e=>let n:=Hk l+i+fracN (l.drop (Hk l+i))+e
   match l.drop n with
   | c::_=>if notDel c then none else some n
   | []=>some n
end
section
def Ew (c:UInt8):Bool:=c.toNat == 32 || c.toNat == 10 || c.toNat == 13 || c.toNat == 9
def skT:Bool→List UInt8→Nat
 | _,[]=>0
 | true,c::l=>skT (c.toNat != 10) l+1
 | false,c::l=>if Ew c then skT false l+1 else if c.toNat = 35 then skT true l+1 else 0
theorem Fb:∀ (b:Bool) (l:List UInt8),skT b l≤l.length
 | _,[]=>by simp [skT]
 | true,c::l=>by unfold skT; have:=Fb (c.toNat != 10) l; simp; omega
 | false,c::l=>by
  unfold skT
  split
  ·have:=Fb false l; simp; omega
  ·split
   ·have:=Fb true l; simp; omega
   ·exact Nat.zero_le _
theorem Dp (c:UInt8) (l:List UInt8):skT false (c::l) = if Ew c then skT false l+1 else if c.toNat = 35 then skT true l+1 else 0:=by rw [skT]
theorem FK (c:UInt8) (l:List UInt8):skT true (c::l) = skT (c.toNat != 10) l+1:=by rw [skT]
theorem Gm (b:Bool):skT b [] = 0:=by cases b <;> rfl
def letT (c:UInt8):Bool:=c.toNat == 95 || decide (97≤c.toNat) && decide (c.toNat≤122) || decide (65≤c.toNat) && decide (c.toNat≤90)
def idC (c:UInt8):Bool:=letT c || ED c
def delC (c:UInt8):Bool:=!(c.toNat == 45 || (c.toNat == 43 || (c.toNat == 46 || (c.toNat == 95 || (decide (97≤c.toNat) && decide (c.toNat≤122) || (decide (65≤c.toNat) && decide (c.toNat≤90) || decide (48≤c.toNat) && decide (c.toNat≤57)))))))
def endT:List UInt8→Bool
 | []=>true
 | c::_=>delC c
def Gb:List UInt8→Nat
 | []=>0
 | c::r=>if letT c && endT (r.drop (Au idC r)) then 1+Au idC r else 0
def Fj (neg:Bool):List UInt8→Nat
 | []=>0
 | c::r=>if neg && c.toNat == 45 then (if Gb r = 0 then 0 else 1+Gb r) else Gb (c::r)
structure NT where
 kind:Nat
 neg:Bool
 size:Nat
 sep:Nat
def nFrac (kind:Nat):List UInt8→Option (Nat × Nat)
 | []=>some (kind,0)
 | c::r=>if c.toNat = 46 then (if r = []∧kind = 4 then none else some (4,1+Au ED r)) else some (kind,0)
def isE (c:UInt8):Bool:=c.toNat == 101 || c.toNat == 69
def isF (c:UInt8):Bool:=c.toNat == 102 || c.toNat == 70
def isPM (c:UInt8):Bool:=c.toNat == 43 || c.toNat == 45
def nExp (kind:Nat):List UInt8→Option (Nat × Nat)
 | c::d::r=>if isE c then (if isPM d then (if r = [] then none else some (4,2+Au ED r)) else some (4,1+Au ED (d::r))) else some (kind,0)
 | _=>some (kind,0)
def nSuf (kind:Nat):List UInt8→Nat × Nat
 | []=>(kind,0)
 | c::_=>if isF c then (4,1) else (kind,0)
def Gv (kind n:Nat) (s:List UInt8):Option (Nat × Nat):=match nFrac kind s with
 | none=>none
 | some (k1,n1)=>match nExp k1 (s.drop n1) with
  | none=>none
  | some (k2,n2)=>if endT (s.drop (n1+n2+(nSuf k2 (s.drop (n1+n2))).2)) then some ((nSuf k2 (s.drop (n1+n2))).1,n+n1+n2+(nSuf k2 (s.drop (n1+n2))).2) else none
def nHex (r:List UInt8):Option (Nat × Nat):=if Au Aq r = 0 then none else if endT (r.drop (Au Aq r)) then some (1,2+Au Aq r) else none
def nOct (r:List UInt8):Option (Nat × Nat):=if endT (r.drop (Au Ai r)) then some (2,2+Au Ai r) else none
def numB:List UInt8→Option (Nat × Nat)
 | []=>none
 | c::r=>if c.toNat = 48 then (match r with
   | []=>Gv 0 1 []
   | d::r2=>if d.toNat = 120∨d.toNat = 88 then nHex r2 else if Ai d then nOct r2 else Gv 0 1 (d::r2))
  else if 49≤c.toNat∧c.toNat≤57 then Gv 0 (1+Au ED r) (r.drop (Au ED r))
  else if c.toNat = 46 then Gv 4 0 (c::r) else none
def numT:List UInt8→Option NT
 | []=>none
 | c::r=>if c.toNat = 45 then (match numB (r.drop (skT false r)) with
   | none=>none
   | some (k,n)=>some ⟨k,true,1+skT false r+n,skT false r⟩)
  else match numB (c::r) with
   | none=>none
   | some (k,n)=>some ⟨k,false,n,0⟩
def numS (x:NT) (l:List UInt8):List UInt8:=
 let z:=if x.kind = 4∧isF (l.getD (x.size - 1) 0) = true then x.size - 1 else x.size
 if x.neg = true∧0 < x.sep then l.getD 0 0::((l.take z).drop (x.sep+1)) else l.take z
def tenV:Nat→List UInt8→Nat
 | acc,[]=>acc
 | acc,c::l=>tenV (acc * 10+(c.toNat - 48)) l
def tnC (c:UInt8):Bool:=c.toNat == 45 || (c.toNat == 95 || (ED c || (decide (97≤c.toNat) && decide (c.toNat≤122) || decide (65≤c.toNat) && decide (c.toNat≤90))))
def urlC (c:UInt8):Bool:=c.toNat == 46 || (c.toNat == 126 || (c.toNat == 33 || (c.toNat == 36 || (c.toNat == 38 || (c.toNat == 40 || (c.toNat == 41 || (c.toNat == 42 || (c.toNat == 43 || (c.toNat == 44 || (c.toNat == 59 || c.toNat == 61))))))))))
def csT (l:List UInt8):List UInt8:=l.drop (skT false l)
def tnF:Nat→List UInt8→List UInt8→Option (List UInt8 × List UInt8)
 | 0,_,_=>none
 | _+1,[],_=>none
 | f+1,c::r,name=>if c.toNat = 93 then some (name,r) else if c.toNat = 47∨tnC c = true∨urlC c = true then tnF f (csT r) (name++[c])
  else if c.toNat = 37 then (match r with
   | a::b::r2=>if Aq a && Aq b then tnF f (csT r2) (name++[c,a,b]) else none
   | _=>none)
  else none
def Ha:List UInt8→Option (List UInt8 × List UInt8)
 | []=>none
 | c::l=>match Ha l with
  | some (p,t)=>some (c::p,t)
  | none=>if c.toNat = 47 then some ([],l) else none
def F8:Bool→List UInt8→Bool
 | b,[]=>b
 | b,c::l=>if c.toNat = 46 then b && F8 false l else F8 true l
def G4 (t:List UInt8):Bool:=F8 false t && t.all fun c=>!(c.toNat == 37 || c.toNat != 46 && urlC c)
def nameOk (name:List UInt8):Bool:=match Ha name with
 | none=>G4 name
 | some (p,t)=>!(match p with
  | []=>false
  | c::_=>c.toNat == 47) && G4 t
structure TT where
 kind:Nat
 att:Nat
 sep:Bool
 na:Nat
 pos:Nat
 raw:List UInt8
 str:List UInt8
def TT.zero:TT:=⟨0,0,false,0,0,[],[]⟩
structure DT where
 peeked:Bool
 tok:TT
 bad:Bool
 st:List UInt8
 k:Nat
def goT (bs:List UInt8) (k n:Nat):Nat:=k+n+skT false (bs.drop (k+n))
def CQ (bs:List UInt8) (k kind n att:Nat):TT × Nat:=(⟨kind,att,false,0,k,(bs.drop k).take n,[]⟩,goT bs k n)
def sepT (bs:List UInt8):TT × Nat→TT × Nat
 | (t,k)=>match bs.drop k with
  | c::_=>if c.toNat = 58 then ({ t with sep:=true },goT bs k 1) else (t,k)
  | []=>(t,k)
def typeT (bs:List UInt8) (k:Nat):Option (TT × Nat):=match tnF (bs.length+1) (csT (bs.drop (k+1))) [] with
 | none=>none
 | some (name,r)=>if nameOk name then some (⟨2,2,false,0,k,(bs.drop k).take (bs.length - r.length - k),name⟩,goT bs (bs.length - r.length) 0) else none
def Hv (bs:List UInt8) (k:Nat):Option (TT × Nat):=match bs.drop k with
 | []=>none
 | c::r=>(if c.toNat = 91 then typeT bs k else if Fj false (c::r)≠0 then some (CQ bs k 2 (Fj false (c::r)) 1)
  else match numT (c::r) with
   | none=>none
   | some x=>if x.neg = false∧x.kind = 0∧tenV 0 (numS x (c::r))≤2147483647 then some (CQ bs k 2 x.size 3) else none).map (sepT bs)
def strsT (bs:List UInt8):Nat→Nat→List UInt8→Option (List UInt8 × Nat)
 | 0,_,_=>none
 | f+1,k,out=>match bs.drop k with
  | []=>some (out,k)
  | c::r=>if c.toNat = 34∨c.toNat = 39 then (match Ak c.toNat r [] with
    | none=>none
    | some (s,m)=>strsT bs f (goT bs k (r.length+1 - m)) (out++s))
   else some (out,k)
def scalarT (bs:List UInt8) (k:Nat):Option (TT × Nat):=match bs.drop k with
 | []=>none
 | c::r=>if c.toNat = 34∨c.toNat = 39 then (match strsT bs (bs.length+1) k [] with
   | none=>none
   | some (s,k')=>some (⟨3,2,false,0,k,(bs.drop k).take (k' - k),s⟩,k'))
  else if Fj true (c::r)≠0 then some (CQ bs k 3 (Fj true (c::r)) 3)
  else match numT (c::r) with
   | none=>none
   | some x=>some (⟨3,1,false,x.kind+(if x.neg then 128 else 0),k,(bs.drop k).take x.size,numS x (c::r)⟩,goT bs k x.size)
def Gt (st:List UInt8):Nat:=match st.getLast? with
 | none=>0
 | some c=>if c.toNat = 91 then 6 else 4
def Hz (st:List UInt8):Nat:=match st.getLast? with
 | none=>0
 | some c=>if c.toNat = 91 then 93 else if c.toNat = 123 then 125 else 62
def otherT (c:Nat):Nat:=if c = 125 then 62 else 125
def Bh (st:List UInt8):Option (TT × Nat)→Option (TT × List UInt8 × Nat)
 | none=>none
 | some (t,k)=>some (t,st,k)
def Hr (bs:List UInt8) (sepOk:Bool) (st:List UInt8) (k:Nat):Option (TT × List UInt8 × Nat):=match bs.drop k with
 | []=>none
 | c::_=>if c.toNat = Hz st then Bh st.dropLast (some (CQ bs k 5 1 0)) else if c.toNat = otherT (Hz st) then none
  else if sepOk∧c.toNat = 44 then Bh st (some (CQ bs k 8 1 0)) else if sepOk∧c.toNat = 59 then Bh st (some (CQ bs k 9 1 0)) else Bh st (Hv bs k)
def Hq (bs:List UInt8) (sepOk:Bool) (st:List UInt8) (k:Nat):Option (TT × List UInt8 × Nat):=match bs.drop k with
 | []=>Bh st (some (CQ bs k 1 0 0))
 | c::_=>if sepOk∧c.toNat = 44 then Bh st (some (CQ bs k 8 1 0)) else if sepOk∧c.toNat = 59 then Bh st (some (CQ bs k 9 1 0)) else Bh st (Hv bs k)
def inList (bs:List UInt8) (st:List UInt8) (k:Nat):Option (TT × List UInt8 × Nat):=match bs.drop k with
 | []=>none
 | c::_=>if c.toNat = 93 then Bh st.dropLast (some (CQ bs k 7 1 0)) else if c.toNat = 44 then Bh st (some (CQ bs k 8 1 0)) else none
def F0 (bs:List UInt8) (list close:Bool) (st:List UInt8) (k:Nat):Option (TT × List UInt8 × Nat):=match bs.drop k with
 | []=>none
 | c::_=>if c.toNat = 123∨c.toNat = 60 then Bh (st++[c]) (some (CQ bs k 4 1 0)) else if list∧c.toNat = 91 then Bh (st++[c]) (some (CQ bs k 6 1 0))
  else if close∧c.toNat = 93 then Bh st.dropLast (some (CQ bs k 7 1 0)) else Bh st (scalarT bs k)
def nextT (bs:List UInt8) (last:Nat) (st:List UInt8) (k0:Nat):Option (TT × List UInt8 × Nat):=
 let k:=goT bs k0 0
 if last = 1 then Bh st (some (CQ bs k 1 0 0))
 else if last = 0 then Hq bs false st k
 else if last = 2 then F0 bs true false st k
 else if last = 4 then Hr bs false st k
 else if last = 6 then F0 bs false true st k
 else if last = 8∨last = 9 then (if Gt st = 0 then Hq bs false st k else if Gt st = 4 then Hr bs false st k else F0 bs false false st k)
 else (if Gt st = 0 then Hq bs true st k else if Gt st = 4 then Hr bs true st k else inList bs st k)
def stepT (bs:List UInt8) (s:DT):Option DT:=match nextT bs s.tok.kind s.st s.k with
 | none=>none
 | some (t,st,k)=>some ⟨false,t,s.bad,st,k⟩
def readF (bs:List UInt8) (s:DT):Option DT:=match stepT bs s with
 | none=>none
 | some s1=>if s1.tok.kind = 8∨s1.tok.kind = 9 then stepT bs s1 else some s1
def readT (bs:List UInt8) (s:DT):Option DT:=if s.peeked then (if s.bad then none else some { s with peeked:=false }) else readF bs s
def peekT (bs:List UInt8) (s:DT):DT:=if s.peeked then s else match readF bs s with
 | some s1=>{ s1 with peeked:=true,bad:=false }
 | none=>{ s with peeked:=true,bad:=true,tok:=TT.zero }
def runT (bs:List UInt8) (ps:List Bool):Nat→DT→List TT→List TT × Bool
 | 0,_,out=>(out,false)
 | f+1,s,out=>match readT bs (if ps.getD out.length false then peekT bs s else s) with
  | none=>(out,false)
  | some s1=>if s1.tok.kind = 1 then (out,true) else runT bs ps f s1 (out++[s1.tok])
def DT.new:DT:=⟨false,TT.zero,false,[],0⟩
def allT (bs:List UInt8) (ps:List Bool):List TT × Bool:=runT bs ps (bs.length+1) DT.new []
end
section
section
variable {P:Program} {ops:Array Oper} {rest:List Oper} {a:Act} {w:World} {Q:Exit→Act→World→Prop} {d:Option Tmp} {ty:TypeId} {pos:String} {af:Array Edge} {g:Option (Nat × Bool)}
theorem Ay {t:TypeId} {x i:Operand} (h:wpList P ops Q (⟨d,.indexAddr t x i,ty,pos,af,g⟩::rest) a w):wpList P ops Q (⟨d,.indexAddr t x i,ty,pos,af,g⟩::rest) a w:=h
theorem Db {t:TypeId} {x l:Operand} (h:wpList P ops Q (⟨d,.slice t x (some l) none none,ty,pos,af,g⟩::rest) a w):wpList P ops Q (⟨d,.slice t x (some l) none none,ty,pos,af,g⟩::rest) a w:=h
theorem Dc {s t:TypeId} {x:Operand} (h:wpList P ops Q (⟨d,.convert s t x,ty,pos,af,g⟩::rest) a w):wpList P ops Q (⟨d,.convert s t x,ty,pos,af,g⟩::rest) a w:=h
theorem Cy {xs:Array Operand} {ts:Array TypeId} (h:wpList P ops Q (⟨d,.call { callee:=.builtin .len,args:=xs,argTypes:=ts },ty,pos,af,g⟩::rest) a w) :
  wpList P ops Q (⟨d,.call { callee:=.builtin .len,args:=xs,argTypes:=ts },ty,pos,af,g⟩::rest) a w:=h
end
end
end Go.Proofs.YtgdnpnipahegaaaDoor
