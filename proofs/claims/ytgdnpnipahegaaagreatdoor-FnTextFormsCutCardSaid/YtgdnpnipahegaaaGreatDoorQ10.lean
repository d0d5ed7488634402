/-
 The reference's writer of the text form, as plain functions.
-/
import Derived.Test.YtgdnpnipahegaaaGreatDoorQ0
import Derived.Test.YtgdnpnipahegaaaGreatDoorQ6
import Derived.Test.YtgdnpnipahegaaaGreatDoorQ9
import Derived.Deep.QuietTactic
import Derived.BigQuiet
namespace Go.Proofs.YtgdnpnipahegaaaGreatDoor
section
structure TX where
 kind:Nat
 nk:Nat
 pos:Nat
 sep:Bool
 raw:List UInt8
 str:List UInt8
structure WS where
 k:Nat
 out:List UInt8
 l:List TX
 left:Nat
def EF:List (List UInt8):=[[48],[49],[57],[53,51,54,56,55,48,57,49,49],[50,49,52,55,52,56,51,54,52,55],[49,53]]
def FI:List (List UInt8):=[[97],[98,95,49],[78,97,109,101],[95,120],[116,114,117,101],[105,110,102],[110,97,110],[102],[101,53],[120,48,70],[122,57,122]]
def Gb:List (List UInt8):=[[44],[59]]
def Jp:List (List UInt8):=[[116,114,117,101],[102,97,108,115,101],[116],[102],[84,114,117,101],[105,110,102],[45,105,110,102],[73,110,102,105,110,105,116,121],[45,73,78,70,73,78,73,84,89],[110,97,110],[78,97,78],[65,95,66],[95],[120,49],[101]]
def Dk:List (List UInt8):=[[],[],[32],[10],[35,32,120,10]]
def Fi:List (List UInt8):=[[48],[49],[55],[49,48],[50,53,53],[50,49,52,55,52,56,51,54,52,55],[50,49,52,55,52,56,51,54,52,56],[52,50,57,52,57,54,55,50,57,53],[52,50,57,52,57,54,55,50,57,54],[57,50,50,51,51,55,50,48,51,54,56,53,52,55,55,53,56,48,55],[57,50,50,51,51,55,50,48,51,54,56,53,52,55,55,53,56,48,56],[49,56,52,52,54,55,52,52,48,55,51,55,48,57,53,53,49,54,49,53],[49,56,52,52,54,55,52,52,48,55,51,55,48,57,53,53,49,54,49,54],[49,50,51,52,53,54,55,56,57,48,49,50,51,52,53,54,55,56,57,48,49,50,51,52,53,54,55,56,57,48]]
def Ff:List (List UInt8):=[[48,120,48],[48,88,49],[48,120,102,102],[48,88,97,98,67,68],[48,120,102,102,102,102,102,102,102,102,102,102,102,102,102,102,102,102],[48,120,49,48,48,48,48,48,48,48,48,48,48,48,48,48,48,48,48],[48,120,48,48,48,48,48,48,48,48,48,48,48,48,48,48,48,48,48,48,48,49]]
def E8:List (List UInt8):=[[48,48],[48,49],[48,55],[48,51,55,55],[48,49,55,55,55,55,55,55,55,55,55,55,55,55,55,55,55,55,55,55,55,55,55],[48,50,48,48,48,48,48,48,48,48,48,48,48,48,48,48,48,48,48,48,48,48,48],[48,48,48,48]]
def Ek:List (List UInt8):=[[48,46,48],[49,46],[46,53],[49,46,53],[48,46,50,53],[49,50,46,55,53],[51]]
def EK:List (List UInt8):=[[],[],[101,48],[69,53],[101,43,49,48],[69,45,51]]
def E0:List (List UInt8):=[[],[102],[70]]
def GP:List (List UInt8):=[[92,97],[92,98],[92,102],[92,110],[92,114],[92,116],[92,118],[92,63],[92,92],[92,39],[92,34]]
def GU:List (List UInt8):=[[92,48],[92,51],[92,49,50],[92,49,48,49],[92,51,55,55],[92,48,48,48]]
def GW:List (List UInt8):=[[92,120,48],[92,120,52,49],[92,120,102,102],[92,120,65],[92,120,55,102]]
def GM:List (List UInt8):=[[92,117,48,48,52,49],[92,117,48,48,101,57],[92,117,50,48,97,99],[92,117,102,102,102,100],[92,85,48,48,48,49,102,54,48,48],[92,85,48,48,49,48,70,70,70,70],[92,85,48,48,48,48,48,48,48,48]]
def GQ:List (List UInt8):=[[195,169],[226,130,172],[240,159,152,128],[9],[35],[123]]
def D4:List (List UInt8):=[[32],[10],[9,32],[13,10],[32,35,32,97,32,114,101,109,97,114,107,58,32,123,32,91,32,34,10],[35,10,32,10]]
def Fu:List (List UInt8):=[[],[32],[],[10,32,32],[9],[32,35,32,120,10]]
def Cm:List (List (List UInt8)):=[[[97],[46],[98]],[[116,121,112,101,46,101,120,97,109,112,108,101,46,99,111,109],[47],[120],[46],[89]],[[113]],[[117,126,49,36,38,43],[47],[112],[47],[110,45,49],[46],[50]],[[104,37,50,70,120],[47],[110]]]
section
variable (ps:List UInt8)
def Af (k n:Nat):Nat:=match ps.drop k with
 | []=>0
 | c::_=>c.toNat % n
def I6 (k:Nat):Nat:=if k < ps.length then k+1 else k
def Ab (s:WS):WS:={ s with k:=I6 ps s.k }
def AW (x:List UInt8) (s:WS):WS:={ s with out:=s.out++x }
def BK (tab:List (List UInt8)) (s:WS):WS:={ s with k:=I6 ps s.k,out:=s.out++tab.getD (Af ps s.k tab.length) [] }
def Am (some:Bool) (s:WS):WS:=if some then BK ps D4 s else BK ps Fu s
def Cu (kind from_:Nat) (s:WS):WS:={ s with l:=s.l++[⟨kind,0,from_,false,s.out.drop from_,[]⟩] }
def Gn (s:WS):WS:={ s with l:=s.l.dropLast++(match s.l.getLast? with
 | none=>[]
 | some t=>[{ t with sep:=true }]) }
def Dc:List (List UInt8)→List UInt8→WS→List UInt8 × WS
 | [],str,s=>(str,s)
 | x::l,str,s=>Dc l (str++x) (if x = [46]∨x = [47] then Am ps false (AW x s) else AW x s)
def DG (s:WS):List UInt8 × WS:=
 let r:=Dc ps (Cm.getD (Af ps s.k 5) []) [] (Am ps false (AW [91] (Ab ps s)))
 (r.1,AW [93] (Am ps false r.2))
def Oy (kind nk from_:Nat) (str:List UInt8) (s:WS):WS:={ s with l:=s.l++[⟨kind,nk,from_,false,s.out.drop from_,str⟩] }
def DK (s:WS):WS:=
 let n:=Af ps s.k 6
 let s1:=Ab ps s
 if n = 4 then (let s2:=BK ps EF s1; Oy 2 3 s.out.length (s2.out.drop s.out.length) s2)
 else if n = 5 then (let r:=DG ps s1; Oy 2 2 s.out.length r.1 r.2)
 else let s2:=BK ps FI s1; Oy 2 1 s.out.length (s2.out.drop s.out.length) s2
def BH (s:WS):WS:=
 let s1:=if Af ps s.k 3 = 2 then BK ps Dk (AW [45] (Ab ps s)) else Ab ps s
 let n:=Af ps s1.k 4
 let s2:=Ab ps s1
 if n = 0 then BK ps Fi s2 else if n = 1 then BK ps Ff s2 else if n = 2 then BK ps E8 s2
 else BK ps E0 (BK ps EK (BK ps Ek s2))
def BF (q:Nat) (s:WS):WS:=
 let n:=Af ps s.k 6
 let s1:=Ab ps s
 if n = 0 then (let c:=32+Af ps s1.k 95; AW [UInt8.ofNat (if c = q∨c = 92 then 113 else c)] (Ab ps s1))
 else if n = 1 then BK ps GP s1 else if n = 2 then BK ps GU s1 else if n = 3 then BK ps GW s1 else if n = 4 then BK ps GM s1 else BK ps GQ s1
def Dr (q:Nat):Nat→WS→WS
 | 0,s=>s
 | n+1,s=>Dr q n (BF ps q s)
def EB (s:WS):WS:=
 let q:=if 0 < Af ps s.k 2 then 39 else 34
 let s1:=AW [UInt8.ofNat q] (Ab ps s)
 AW [UInt8.ofNat q] (Dr ps q (Af ps s1.k 8) (Ab ps s1))
def Gu:Nat→WS→WS
 | 0,s=>s
 | n+1,s=>Gu n (if 1 < n+1 then Am ps false (EB ps s) else EB ps s)
def Bn (s:WS):WS:=
 let n:=Af ps s.k 5
 let s1:=Ab ps s
 Cu 3 s.out.length (if n = 0∨n = 1 then BH ps s1 else if n = 2 then BK ps Jp s1 else Gu ps (1+Af ps s1.k 3) (Ab ps s1))
def Cb (inner:WS→WS) (s:WS):WS:=
 let a:=0 < Af ps s.k 2
 let s1:=AW [if a then 60 else 123] (Ab ps s)
 let s2:=AW [if a then 62 else 125] (inner (Am ps false (Cu 4 (s1.out.length - 1) s1)))
 Cu 5 (s2.out.length - 1) s2
def listL (inner:WS→WS) (deep:Nat):Nat→WS→WS
 | 0,s=>s
 | n+1,s=>if s.left = 0 then s else
  let s1:WS:={ s with left:=s.left - 1 }
  let s2:=if deep < 8 then (if Af ps s1.k 3 = 2 then Cb ps inner (Ab ps s1) else Bn ps (Ab ps s1)) else Bn ps s1
  let s3:=Am ps false s2
  listL inner deep n (if 1 < n+1∧0 < s3.left then Am ps false (AW [44] s3) else s3)
def Hf (inner:WS→WS) (deep:Nat) (s:WS):WS:=
 let s1:=AW [91] s
 let s2:=Am ps false (Cu 6 (s1.out.length - 1) s1)
 let s3:=AW [93] (listL ps inner deep (Af ps s2.k 5) (Ab ps s2))
 Cu 7 (s3.out.length - 1) s3
def En (inner:WS→WS) (deep:Nat) (s:WS):WS:=
 let s1:=Am ps false (DK ps s)
 let kind:=if 8 < deep then 0 else Af ps s1.k 6
 let s2:=Ab ps s1
 let s3:=if kind < 4 then Am ps false (AW [58] (Gn s2)) else if 0 < Af ps s2.k 2 then Am ps false (AW [58] (Gn (Ab ps s2))) else Ab ps s2
 let s4:=Am ps false (if kind = 4 then Cb ps inner s3 else if kind = 5 then Hf ps inner deep s3 else Bn ps s3)
 if 0 < Af ps s4.k 3 then Am ps false (BK ps Gb (Ab ps s4)) else Am ps true (Ab ps s4)
def fieldsL (inner:WS→WS) (deep:Nat):Nat→WS→WS
 | 0,s=>s
 | f+1,s=>if s.left = 0∨ps.length≤s.k then s else if Af ps s.k 5 = 0 then Ab ps s
  else fieldsL inner deep f (En ps inner deep { Ab ps s with left:=s.left - 1 })
def fieldsW:Nat→Nat→WS→WS
 | 0,_,s=>s
 | d+1,deep,s=>fieldsL ps (fieldsW d (deep+1)) deep s.left s
def BL:WS:=fieldsW ps 10 0 (Am ps false ⟨0,[],[],300⟩)
end
end
section
open Go.ChangeShapes Go.WideShapes Go.ChangeAt Go.RowKit
def CG (t:TX):List Value:=[.int .i64 (t.kind:Int),.int .i64 (t.nk:Int),.int .i64 (t.pos:Int),.bool t.sep,.string ⟨t.raw.toArray⟩,.string ⟨t.str.toArray⟩]
def OwnQ (w:World) (B:Nat) (v:Value) (l:List TX):Prop:=w.ownsRow B 27 6 v l.length (l.flatMap CG)
theorem OwnQ.slice {w:World} {B:Nat} {v:Value} {l:List TX} (h:OwnQ w B v l):∃ ao c,v = .slice ao l.length c:=DR h
theorem OwnQ.below {w w':World} {B:Nat} {v:Value} {l:List TX} (h:OwnQ w B v l) (hb:Below w.heap.size w w'):OwnQ w' B v l:=
 World.ownsRow.kept h (row:=none) ⟨hb.os,hb.tape,hb.output,hb.size,fun k hk _=>hb.block k hk⟩ (by cases v.ownBlock <;> simp)
structure TW (B p g:Nat) (ps:List UInt8) (vp vo vl:Value) (s:WS) (w:World):Prop where
 row:RowAt w p [vp,.int .i64 (s.k:Int),vo,vl,.int .i64 (s.left:Int)]
 out:OwnB w B 5 vo s.out
 l:OwnQ w B vl s.l
 v:View w g vp ps
 hp:B≤p
 hg:g < B
 no:vo.ownBlock≠some p
 nl:vl.ownBlock≠some p
 ol:∀ k,vo.ownBlock = some k→vl.ownBlock≠some k
structure WStep (p:Nat) (vo vl:Value) (w:World) (vo' vl':Value) (w':World):Prop where
 os:w'.os = w.os
 tape:w'.tape = w.tape
 output:w'.output = w.output
 size:w.heap.size≤w'.heap.size
 block:∀ k,k < w.heap.size→k≠p→vo.ownBlock≠some k→vl.ownBlock≠some k→w'.heap[k]? = w.heap[k]?
 lo:∀ k,vo'.ownBlock = some k→vo.ownBlock = some k∨w.heap.size≤k
 ll:∀ k,vl'.ownBlock = some k→vl.ownBlock = some k∨w.heap.size≤k
section
variable {B p g:Nat} {ps:List UInt8} {vp vo vl:Value} {s:WS} {w:World}
theorem WStep.of_grown {w':World} (h:w.grownBy w' (some p)):WStep p vo vl w vo vl w':=
 ⟨h.os,h.tape,h.output,h.size,fun k hk h1 _ _=>h.block k hk (fun e=>h1 (by injection e)),fun _ h=>.inl h,fun _ h=>.inl h⟩
theorem WStep.of_below {w':World} (h:Below w.heap.size w w'):WStep p vo vl w vo vl w':=WStep.of_grown (Bx h _)
theorem WStep.refl (p:Nat) (vo vl:Value) (w:World):WStep p vo vl w vo vl w:=WStep.of_below (Below.refl _ _)
theorem WStep.trans {vo1 vl1 vo2 vl2:Value} {w1 w2:World} (h:WStep p vo vl w vo1 vl1 w1) (k:WStep p vo1 vl1 w1 vo2 vl2 w2):WStep p vo vl w vo2 vl2 w2:=by
 have hs:=h.size;refine ⟨k.os.trans h.os,k.tape.trans h.tape,k.output.trans h.output,Nat.le_trans h.size k.size,fun j hj h1 h2 h3=>?_,fun j hj=>?_,fun j hj=>?_⟩
 ·rw [k.block j (by omega) h1 (fun e=>by rcases h.lo j e with e | e; exact h2 e; omega) (fun e=>by rcases h.ll j e with e | e; exact h3 e; omega)];exact h.block j hj h1 h2 h3
 ·rcases k.lo j hj with e | e
  ·exact h.lo j e
  ·exact .inr (by omega)
 ·rcases k.ll j hj with e | e
  ·exact h.ll j e
  ·exact .inr (by omega)
theorem TW.lt (h:TW B p g ps vp vo vl s w):p < w.heap.size:=World.block_lt_of_cell? w _ (h.row 0 _ rfl).1
theorem TW.base (h:TW B p g ps vp vo vl s w):B≤w.heap.size:=by have:=h.lt; have:=h.hp; omega
theorem TW.gp (h:TW B p g ps vp vo vl s w):g≠p:=by have:=h.hg; have:=h.hp; omega
theorem TW.gl (h:TW B p g ps vp vo vl s w):g < w.heap.size:=by have:=h.hg; have:=h.base; omega
theorem TW.outLt (h:TW B p g ps vp vo vl s w):∀ k,vo.ownBlock = some k→B≤k∧k < w.heap.size:=fun k hk=>World.ownsRow.lt h.out k hk
theorem TW.lLt (h:TW B p g ps vp vo vl s w):∀ k,vl.ownBlock = some k→B≤k∧k < w.heap.size:=fun k hk=>World.ownsRow.lt h.l k hk
theorem WStep.low {vo' vl':Value} {w':World} (k:WStep p vo vl w vo' vl' w') (h:TW B p g ps vp vo vl s w):Below B w w':=
 ⟨k.os,k.tape,k.output,k.size,fun j hj=>k.block j (by have:=h.base; omega) (by have:=h.hp; omega) (fun e=>by have:=(h.outLt j e).1; omega) (fun e=>by have:=(h.lLt j e).1; omega)⟩
theorem TW.kept {w':World} (h:TW B p g ps vp vo vl s w) (hp:w'.heap[p]? = w.heap[p]?) (hg:w'.heap[g]? = w.heap[g]?) (ho:OwnB w' B 5 vo s.out) (hl:OwnQ w' B vl s.l):TW B p g ps vp vo vl s w':=
 { h with row:=h.row.kept hp,out:=ho,l:=hl,v:=h.v.kept hg }
theorem TW.below {w':World} (h:TW B p g ps vp vo vl s w) (hb:Below w.heap.size w w'):TW B p g ps vp vo vl s w':=
 h.kept (hb.block p h.lt) (hb.block g h.gl) (World.ownsRow.kept h.out (row:=none) ⟨hb.os,hb.tape,hb.output,hb.size,fun k hk _=>hb.block k hk⟩ (by cases vo.ownBlock <;> simp)) (h.l.below hb)
theorem TW.grownOther {q:Nat} {w':World} (h:TW B p g ps vp vo vl s w) (hg:w.grownBy w' (some q)) (h1:p≠q) (h2:g≠q) (h3:vo.ownBlock≠some q) (h4:vl.ownBlock≠some q):TW B p g ps vp vo vl s w':=
 h.kept (hg.block p h.lt (fun e=>by injection e with e; exact h1 e)) (hg.block g h.gl (fun e=>by injection e with e; exact h2 e)) (World.ownsRow.kept h.out hg (.inr h3)) (World.ownsRow.kept h.l hg (.inr h4))
theorem TW.fresh {q:Nat} (h:TW B p g ps vp vo vl s w) (hq:w.heap.size≤q):vo.ownBlock≠some q∧vl.ownBlock≠some q:=⟨fun e=>by have:=(h.outLt _ e).2; omega,fun e=>by have:=(h.lLt _ e).2; omega⟩
theorem TW.drew (h:TW B p g ps vp vo vl s w):TW B p g ps vp vo vl s w.drew:=h.below (Below.refl _ _).drew
theorem TW.drewN (h:TW B p g ps vp vo vl s w) (n:Nat):TW B p g ps vp vo vl s (w.drewN n):=h.below ⟨rfl,rfl,rfl,Nat.le_refl _,fun _ _=>rfl⟩
theorem TW.reset {w':World} {s':WS} (h:TW B p g ps vp vo vl s w) (hg:w.grownBy w' (some p)) (hrow:RowAt w' p [vp,.int .i64 (s'.k:Int),vo,vl,.int .i64 (s'.left:Int)]) (ho:s'.out = s.out) (hl:s'.l = s.l):TW B p g ps vp vo vl s' w':=
 { h with row:=hrow,out:=by rw [ho]; exact World.ownsRow.kept h.out hg (.inr h.no),l:=by rw [hl]; exact World.ownsRow.kept h.l hg (.inr h.nl),v:=h.v.kept (hg.block g h.gl (fun e=>by injection e with e; exact h.gp e)) }
theorem TW.pick (h:TW B p g ps vp vo vl s w) (k:Nat):TW B p g ps vp vo vl { s with k:=k } (w.setCell ⟨p,1,none⟩ (.int .i64 (k:Int))):=
 h.reset (AF w p 1 _) (h.row.set 1 (by simp) _) rfl rfl
theorem TW.spend (h:TW B p g ps vp vo vl s w) (k:Nat):TW B p g ps vp vo vl { s with left:=k } (w.setCell ⟨p,4,none⟩ (.int .i64 (k:Int))):=
 h.reset (AF w p 4 _) (h.row.set 4 (by simp) _) rfl rfl
theorem TW.put {w':World} {v':Value} {bs:List UInt8} (h:TW B p g ps vp vo vl s w) (ha:Appd w B 5 vo v' bs w') :
  TW B p g ps vp v' vl { s with out:=bs } (w'.setCell ⟨p,2,none⟩ v')∧WStep p vo vl w v' vl (w'.setCell ⟨p,2,none⟩ v'):=by
 have hlt:=h.lt;have hpb:w'.heap[p]? = w.heap[p]?:=ha.grown.block p hlt (fun e=>h.no e.symm);have hgb:w'.heap[g]? = w.heap[g]?:=ha.grown.block g h.gl (fun e=>by have:=(h.outLt g e.symm).1; have:=h.hg; omega)
 have hnp:v'.ownBlock≠some p:=by
  rcases ha.lies with e | e
  ·rw [e]; exact h.no
  ·rw [e]; intro e2; simp at e2; omega
 have hl:OwnQ w' B vl s.l:=World.ownsRow.kept h.l ha.grown (by
  cases hk:vl.ownBlock with
  | none=>exact .inl rfl
  | some k=>exact .inr (fun e=>h.ol k e.symm hk))
 have hsz:=ha.grown.size
 refine ⟨{
  row:=(h.row.kept hpb).set 2 (by simp) v'
  out:=World.ownsRow.kept ha.own (AF w' p 2 _) (.inr hnp)
  l:=World.ownsRow.kept hl (AF w' p 2 _) (.inr h.nl)
  v:=(h.v.kept hgb).kept (Below.heap_setCell w' _ _ g (by simpa using h.gp))
  hp:=h.hp
  hg:=h.hg
  no:=hnp
  nl:=h.nl
  ol:=by
   intro k hk
   rcases ha.lies with e | e
   ·exact h.ol k (by rw [←e]; exact hk)
   ·rw [e] at hk
    injection hk with hk
    intro e2;have:=(h.lLt k e2).2
    omega },?_⟩
 refine ⟨ha.grown.os,ha.grown.tape,ha.grown.output,by simpa [World.setCell] using hsz,fun k hk h1 h2 _=>?_,fun k hk=>?_,fun k hk=>.inl hk⟩
 ·exact (Below.heap_setCell w' ⟨p,2,none⟩ v' k (fun e=>h1 (by simp [e]))).trans (ha.grown.block k hk (fun e=>h2 e.symm))
 ·rcases ha.lies with e | e
  ·exact .inl (by rw [←e]; exact hk)
  ·rw [e] at hk; injection hk with hk; exact .inr (by omega)
structure Appq (w:World) (B:Nat) (v v':Value) (l:List TX) (w':World):Prop where
 own:OwnQ w' B v' l
 grown:w.grownBy w' v.ownBlock
 lies:v'.ownBlock = v.ownBlock∨v'.ownBlock = some w.heap.size
theorem TW.add {w':World} {v':Value} {ls:List TX} (h:TW B p g ps vp vo vl s w) (ha:Appq w B vl v' ls w') :
  TW B p g ps vp vo v' { s with l:=ls } (w'.setCell ⟨p,3,none⟩ v')∧WStep p vo vl w vo v' (w'.setCell ⟨p,3,none⟩ v'):=by
 have hlt:=h.lt;have hpb:w'.heap[p]? = w.heap[p]?:=ha.grown.block p hlt (fun e=>h.nl e.symm);have hgb:w'.heap[g]? = w.heap[g]?:=ha.grown.block g h.gl (fun e=>by have:=(h.lLt g e.symm).1; have:=h.hg; omega)
 have hnp:v'.ownBlock≠some p:=by
  rcases ha.lies with e | e
  ·rw [e]; exact h.nl
  ·rw [e]; intro e2; simp at e2; omega
 have ho:OwnB w' B 5 vo s.out:=World.ownsRow.kept h.out ha.grown (by
  cases hk:vo.ownBlock with
  | none=>exact .inl rfl
  | some k=>exact .inr (fun e=>h.ol k hk e.symm))
 have hsz:=ha.grown.size
 refine ⟨{
  row:=(h.row.kept hpb).set 3 (by simp) v'
  out:=World.ownsRow.kept ho (AF w' p 3 _) (.inr h.no)
  l:=World.ownsRow.kept ha.own (AF w' p 3 _) (.inr hnp)
  v:=(h.v.kept hgb).kept (Below.heap_setCell w' _ _ g (by simpa using h.gp))
  hp:=h.hp
  hg:=h.hg
  no:=h.no
  nl:=hnp
  ol:=by
   intro k hk e2
   rcases ha.lies with e | e
   ·exact h.ol k hk (by rw [←e]; exact e2)
   ·rw [e] at e2
    injection e2 with e2
    have:=(h.outLt k hk).2
    omega },?_⟩
 refine ⟨ha.grown.os,ha.grown.tape,ha.grown.output,by simpa [World.setCell] using hsz,fun k hk h1 _ h2=>?_,fun k hk=>.inl hk,fun k hk=>?_⟩
 ·exact (Below.heap_setCell w' ⟨p,3,none⟩ v' k (fun e=>h1 (by simp [e]))).trans (ha.grown.block k hk (fun e=>h2 e.symm))
 ·rcases ha.lies with e | e
  ·exact .inl (by rw [←e]; exact hk)
  ·rw [e] at hk; injection hk with hk; exact .inr (by omega)
end
end
section
open Go.ChangeShapes Go.WideShapes Go.ChangeAt Go.RowKit
def PickedT (B p g:Nat) (ps:List UInt8) (vp vo vl:Value) (s:WS) (n:Nat) (w:World) (e:Ending) (w':World):Prop:=
 e = .returned (.int .i64 (Af ps s.k n:Int))∧TW B p g ps vp vo vl { s with k:=I6 ps s.k } w'∧w.grownBy w' (some p)
set_option maxRecDepth 100000 in
set_option maxHeartbeats 4000000 in
theorem BJ (B p g:Nat) (ps:List UInt8) (vp vo vl:Value) (s:WS) (n:Nat) (w:World) (h:TW B p g ps vp vo vl s w) (hn:0 < n) (hn2:n≤1000) (hps:ps.length≤2147483647) (hk:s.k≤ps.length) :
  Calls Tryz.prog 16 #[.pointer (some ⟨p,0,none⟩),.int .i64 (n:Int)] w (PickedT B p g ps vp vo vl s n w):=by
 obtain ⟨ao,cap,rfl,hlc,hcm,hn0,off,hao,hcell⟩:=h.v;obtain ⟨c0,f0⟩:=h.row 0 _ rfl;obtain ⟨c1,f1⟩:=h.row 1 _ rfl;have HH:=hid h
 by_cases hlt:s.k < ps.length
 ·have HV:Hid (Af ps s.k n = ps[s.k].toNat % n):=hid (by unfold Af; rw [List.drop_eq_getElem_cons hlt]);have HK:Hid (I6 ps s.k = s.k+1):=hid (by unfold I6; rw [if_pos hlt])
  have hge:¬ ((ps.length:Int)≤(s.k:Int)):=by omega
  have cc:=hcell s.k hlt;have bd:=AM ps[s.k]
  have hw1:IntKind.i64.wrap ((s.k:Int)+1) = ((s.k+1:Nat):Int):=by rw [EU _ (by omega) (by omega)]; omega
  obtain rfl:=hao (by intro e; rw [e] at hlt; simp at hlt);generalize ps[s.k] = x at *;clear h hao hcell hn0
  go_enter Tryz.func16,Tryz.ntmps16
  go_wp2_with fail
  go_quiet (fail)
  go_wp2_with fail
  have HW:Hid (TW B p g ps (.slice (some ⟨g,off,none⟩) ps.length cap) vo vl { s with k:=s.k+1 } ((w.drewN nq).setCell ⟨p,1,none⟩ (.int .i64 ((s.k:Int)+1)))):=hid (by have:=(HH.out.drewN nq).pick (s.k+1); exact this);have HG:Hid (w.grownBy ((w.drewN nq).setCell ⟨p,1,none⟩ (.int .i64 ((s.k:Int)+1))) (some p)):=hid (Cw (w0:=w) (w:=w.drewN nq) ⟨rfl,rfl,rfl,Nat.le_refl _,fun _ _ _=>rfl⟩ 1 _);have hcW:((w.drewN nq).setCell ⟨p,1,none⟩ (.int .i64 ((s.k:Int)+1))).cell? ⟨g,off+s.k,none⟩ = some (.int .u8 (x.toNat:Int)):=BR HG.out cc HH.out.gp;generalize (w.drewN nq).setCell ⟨p,1,none⟩ (.int .i64 ((s.k:Int)+1)) = W at *;obtain ⟨d0,_⟩:=HW.out.row 0 _ rfl;obtain ⟨d1,_⟩:=HW.out.row 1 _ rfl
  have hw2:IntKind.i64.wrap (((s.k+1:Nat):Int) - 1) = (s.k:Int):=by rw [EU _ (by omega) (by omega)]; omega
  have hw3:IntKind.i64.wrap (x.toNat:Int) = (x.toNat:Int):=EU _ (by omega) (by omega);clear c0 c1 cc f0 f1
  go_quiet (fail)
  go_wp2_with fail
  go_ret
  exact ⟨by rw [HV.out]; first | rfl | (congr 2; omega),by rw [HK.out]; exact HW.out.drewN _,HG.out.os,HG.out.tape,HG.out.output,HG.out.size,fun k h1 h2=>HG.out.block k h1 h2⟩
 ·have HV:Hid (Af ps s.k n = 0):=hid (by unfold Af; rw [List.drop_eq_nil_of_le (by omega)]);have HK:Hid (I6 ps s.k = s.k):=hid (by unfold I6; rw [if_neg hlt])
  have hge:(ps.length:Int)≤(s.k:Int):=by omega
  clear h hao hcell hn0
  go_enter Tryz.func16,Tryz.ntmps16
  go_wp2_with fail
  go_quiet (fail)
  go_wp2_with fail
  go_ret
  exact ⟨by rw [HV.out]; try rfl,by rw [HK.out]; exact HH.out.drewN _,⟨rfl,rfl,rfl,Nat.le_refl _,fun _ _ _=>rfl⟩⟩
end
section
open Go.ChangeShapes Go.WideShapes Go.ChangeAt Go.RowKit
theorem DX {fn:Func} {N:Nat} {a:Act} {l:List (Nat × Value)} {R:Ending→World→Prop} {w:World} (hres:fn.results = #[]) (H:Has N [] a l) (h:R (.returned (.tuple #[])) w):bodyPost Tryz.prog fn R .normal a w:=
 bodyPost_end (results_none hres _ _ _) H.defers h
theorem fld_w0:Bw Tryz.prog 39 0 0:=fun p w=>by simp [go_sem,Instr.fieldAt]
theorem fld_w1:Bw Tryz.prog 39 1 1:=fun p w=>by simp [go_sem,Instr.fieldAt]
theorem AY:Bw Tryz.prog 39 2 2:=fun p w=>by simp [go_sem,Instr.fieldAt]
theorem Em:Bw Tryz.prog 39 3 3:=fun p w=>by simp [go_sem,Instr.fieldAt]
theorem Jw:Bw Tryz.prog 39 4 4:=fun p w=>by simp [go_sem,Instr.fieldAt]
theorem Hb:Ds Tryz.prog 23:=fun w=>by simp [isAgg,Sem.run_bind,go_sem]
theorem D1:Ds Tryz.prog 9:=fun w=>by simp [isAgg,Sem.run_bind,go_sem]
theorem Bq:(Tryz.prog.info? 22).map (·.size) = some 1:=by kernel_rfl
theorem B7:Av Tryz.prog 16:=⟨_,Tryz.func16,by kernel_rfl,by kernel_rfl⟩
theorem OwnB.slice3A {w:World} {B:Nat} {e:TypeId} {v:Value} {bs:List UInt8} (h:OwnB w B e v bs):∃ ao c,v = .slice ao bs.length c:=DR h
section
variable {B p g:Nat} {ps:List UInt8} {vp vo vl:Value} {s:WS} {w:World}
theorem WStep.notOwn {q:Nat} {vo' vl':Value} {w':World} (h:WStep p vo vl w vo' vl' w') (hv:vo.ownBlock≠some q∧vl.ownBlock≠some q) (hq:q < w.heap.size):vo'.ownBlock≠some q∧vl'.ownBlock≠some q:=
 ⟨fun e=>by rcases h.lo q e with e | e; exact hv.1 e; omega,fun e=>by rcases h.ll q e with e | e; exact hv.2 e; omega⟩
theorem TW.appd {v':Value} {bs:List UInt8} {w':World} (h:TW B p g ps vp vo vl s w) (ha:Appd w B 5 vo v' bs w'):w'.cell? ⟨p,2,none⟩ = some vo∧w'.frozen? ⟨p,2,none⟩ = false:=by
 have hpb:w'.heap[p]? = w.heap[p]?:=ha.grown.block p h.lt (fun e=>h.no e.symm);exact (h.row.kept hpb) 2 _ rfl
theorem TW.outV (h:TW B p g ps vp vo vl s w):∃ g2,View w g2 vo s.out:=by obtain ⟨g1,hv,_⟩:=h.out.view; exact ⟨g1,hv⟩
def TabAt (w:World) (q:Nat) (tab:List (List UInt8)):Prop:=RowAt w q (tab.map fun x=>Value.string ⟨x.toArray⟩)
theorem Bl (ps:List UInt8) (k:Nat) {n:Nat} (hn:0 < n):Af ps k n < n:=by
 unfold Af
 split
 ·exact hn
 ·exact Nat.mod_lt _ hn
theorem TabAt.get {q:Nat} {tab:List (List UInt8)} {i:Nat} (h:TabAt w q tab) (hi:i < tab.length):w.cell? ⟨q,i,none⟩ = some (.string ⟨(tab.getD i []).toArray⟩):=by
 have:=(h i (.string ⟨(tab.getD i []).toArray⟩) (by rw [List.getElem?_map,List.getElem?_eq_getElem hi]; simp [List.getD_eq_getElem?_getD,List.getElem?_eq_getElem hi])).1;exact this
end
section
variable {N:Nat} {D:List Deferred} {a:Act} {l:List (Nat × Value)} {L rest:List Oper} {Q:Exit→Act→World→Prop} {w:World} {d:Nat} {ty:TypeId} {pos:String} {af:Array Edge}
theorem Ih {x y:Operand} {B:Nat} {v:Value} {bs ys:List UInt8} (H:Has N D a l) (hx:ev l x = some v) (hown:OwnB w B 5 v bs) (hy:ev l y = some (.string ⟨ys.toArray⟩)) (hB:B≤w.heap.size) (hlen:bs.length+ys.length≤140737488355328) (hd:Nat.blt d N = true)
  (h:∀ v' w',Appd w B 5 v v' (bs++ys) w'→∀ a,Has N D a ((d,v')::l)→wpList Tryz.prog L.toArray Q rest a w') :
  wpList Tryz.prog L.toArray Q (⟨some d,.call { callee:=.builtin .append,args:=#[x,y],argTypes:=#[22,9] },ty,pos,af,none⟩::rest) a w:=
 JF w rfl x y 22 9 rfl B 5 Tryz.underlying22 Tryz.underlying9 Ag v bs (H.ev hx) hown ys (H.ev hy) hB hlen fun v' w' ha=>h v' w' ha _ (H.put hd)
variable {P:Program} {S:World→Prop} {dd:Option Tmp} {gd:Option (Nat × Bool)}
theorem S8 {t e:TypeId} {x:Operand} {ao:Option Addr} {n c:Nat} (ht:P.underlying t = some (.slice e)) (H:Has N D a l) (hx:ev l x = some (.slice ao n c)):∀ w,S w→(execOp a.eval ⟨dd,.call { callee:=.builtin .len,args:=#[x],argTypes:=#[t] },ty,pos,af,gd⟩).run P w = .ok (.value (.int .i64 (n:Int))) w:=fun w _=>by
 have h1:=H.ev hx;simp [execOp,resolve,invoke,builtin,h1,Builtin.len_,run_underlying ht,goInt]
theorem PF:(Tryz.prog.info? 9).map (fun i=>(i.zero,i.size,i.bytes)) = some (some (.string ⟨#[]⟩),1,16):=by kernel_rfl
theorem Pb {x i:Operand} {q n len c:Nat} (H:Has N D a l) (hx:ev l x = some (.slice (some ⟨q,0,none⟩) len c)) (hi:ev l i = some (.int .i64 (n:Int))) (h1:n < len):∀ w,S w→(execOp a.eval ⟨dd,.indexAddr 60 x i,ty,pos,af,gd⟩).run Tryz.prog w = .ok (.value (.pointer (some ⟨q,n,none⟩))) w:=fun w _=>by
 obtain ⟨inf,hi1,hz,hz1,hz2⟩:=info_parts PF;have e1:=H.ev hx;have e2:=H.ev hi;simp [execOp,e1,e2,Instr.indexAt,asIntOf,run_underlying Tryz.underlying60,h1,sizeOf,typeInfo,hi1,hz1,Addr.add_lit]
theorem A6 {n:Nat} {pl:List (Nat × Operand)} {ps:List (Nat × Value)} {tab:List (List UInt8)} (H:Has N D a l) (hp:evp l pl = some ps) (hn:0 < n) (hn2:n≤100)
  (hfill:Instr.fill (fun i=>some (i * 1,1)) ((Array.range (n * 1)).map ((Value.string ⟨#[]⟩).cells[· % (Value.string ⟨#[]⟩).cells.size]!)) ps = some (tab.map fun x=>Value.string ⟨x.toArray⟩).toArray) (hd:Nat.blt d N = true)
  (h:∀ w',TabAt w' w.heap.size tab→Below w.heap.size w w'→w'.heap.size = w.heap.size+1→∀ a,Has N D a ((d,.slice (some ⟨w.heap.size,0,none⟩) n n)::l)→wpList Tryz.prog L.toArray Q rest a w'):wpList Tryz.prog L.toArray Q (⟨some d,.buildSlice 60 n pl.toArray,ty,pos,af,none⟩::rest) a w:=by
 obtain ⟨inf,hi1,hz,hz1,hz2⟩:=info_parts PF;have h1:=H.evp hp;have:=run_buildSlice (P:=Tryz.prog) w 60 9 n ps.toArray (tab.map fun x=>Value.string ⟨x.toArray⟩).toArray inf (.string ⟨#[]⟩) Tryz.underlying60 hi1 hz (by rw [hz1]; simp; omega) (by rw [hz1]; omega) (by rw [hz1]; simpa using hfill);refine Cj H hd (v:=.slice (some ⟨w.heap.size,0,none⟩) n n) (w':=w.alloc (.cells (tab.map fun x=>Value.string ⟨x.toArray⟩).toArray 9)) (by simp [execOp,h1,this,Result.andThen]) ?_;exact h _ (BW (heap_alloc_new w _)) ((Below.refl _ w).alloc (Nat.le_refl _) _) (BV w _)
end
end
section
open Go.ChangeShapes Go.WideShapes Go.ChangeAt Go.RowKit
def Kh (B p g:Nat) (ps:List UInt8) (vp vo vl:Value) (s':WS) (w:World) (e:Ending) (w':World):Prop:=e = .returned (.tuple #[])∧∃ vo' vl',TW B p g ps vp vo' vl' s' w'∧WStep p vo vl w vo' vl' w'
set_option maxRecDepth 100000 in
set_option maxHeartbeats 100000000 in
theorem BD {B p g q:Nat} {ps:List UInt8} {vp vo vl:Value} {s:WS} {w:World} (tab:List (List UInt8)) (h:TW B p g ps vp vo vl s w) (hps:ps.length≤2147483647) (hk:s.k≤ps.length) (htn:0 < tab.length) (ht2:tab.length≤100) (ht:TabAt w q tab) (hqp:q≠p) (hov:vo.ownBlock≠some q∧vl.ownBlock≠some q)
  (hol:s.out.length≤100000000) (htl:∀ i,(tab.getD i []).length≤1000) :
  Calls Tryz.prog 15 #[.pointer (some ⟨p,0,none⟩),.slice (some ⟨q,0,none⟩) tab.length tab.length] w (Kh B p g ps vp vo vl (BK ps tab s) w):=by
 have hql:q < w.heap.size:=World.block_lt_of_cell? w _ (ht.get htn);have hs0:=WStep.refl p vo vl w;have htl':=htl (Af ps s.k tab.length);refine enter2 (M:=19) Tryz.func15 rfl rfl rfl fun a H=>AE (fun w'=>TabAt w' q tab) 16 AO rfl ?_;have hbd1:Below w.heap.size w w.drew:=(Below.refl _ _).drew;generalize w.drew = wd1 at hbd1 ⊢;have hz2:=hbd1.size;have hr3:=RowAt.bl ht hbd1;have hd4:=TW.below h hbd1;have hs5:=WStep.trans hs0 (WStep.of_below hbd1);refine zd 0 H rfl (Al H rfl) hr3 fun H=>zd 1 H rfl (Al H rfl) hr3 fun H=>zd 2 H rfl (Ak H rfl) hr3 fun H=>zd 3 H rfl (Ap AY H rfl) hr3 fun H=>zd 5 H rfl (Al H rfl) hr3 fun H=>zd 6 H rfl (Al H rfl) hr3 fun H=>zd 7 H rfl (Al H rfl) hr3 fun H=>zd 8 H rfl (S8 Tryz.underlying60 H rfl) hr3 fun H=>Gm 4 9 (by kernel_rfl) rfl rfl rfl rfl ?_ ?_
 ·refine Ah AH H rfl (hd4.row 2 _ rfl).1 rfl fun a H=>wpList_nil ⟨hr3,?_⟩;refine zD 9 rfl (zC B7 H rfl (Calls.mono (BJ B p g ps vp vo vl s tab.length _ hd4 htn (by omega) hps hk) ?_));rintro e w6 ⟨rfl,hd6,hg6⟩;refine zR fun H=>?_;have hds6:WStep p vo vl wd1 vo vl w6:=WStep.of_grown hg6;have hz7:=hds6.size;have hr8:=RowAt.kept hr3 (WStep.block hds6 _ (by omega) (by omega) hov.1 hov.2);have hov9:=WStep.notOwn hds6 hov (by omega);have hs10:=WStep.trans hs5 hds6;refine wpList_nil ⟨hr8,?_⟩;refine zd 10 H rfl (Pb H rfl rfl (Bl ps s.k htn)) hr8 fun H=>zd 11 H rfl (Au D1 H rfl (fun _ h=>h.get (Bl ps s.k htn))) hr8 fun H=>zD 12 rfl (Ih (ys:=(tab.getD (Af ps s.k tab.length) [])) H rfl hd6.out rfl hd6.base (by show s.out.length+_≤_; omega) rfl fun v11 w11 ha11 a H=>?_);have htA12:=RowAt.kept hr8 (ha11.grown.block _ (by omega) (fun e=>hov9.1 e.symm));refine wpList_nil ⟨htA12,?_⟩;refine zd 13 H rfl (Ak H rfl) htA12 fun H=>zd 14 H rfl (Ap AY H rfl) htA12 fun H=>zD 15 rfl ?_;have hput13:=TW.put hd6 ha11;obtain ⟨ao13,c13,hv13⟩:=(ha11).own.slice3A;refine Aj (v:=v11) Bq H rfl rfl (by rw [hv13]; try rfl) (TW.appd hd6 ha11).1 (TW.appd hd6 ha11).2 (by rw [hv13]; try rfl) ?_;obtain ⟨hd13,hds13⟩:=hput13;generalize w11.setCell ⟨p,2,none⟩ v11 = wn13 at hd13 hds13 ⊢;have hz14:=hds13.size;have hr15:=RowAt.kept hr8 (WStep.block hds13 _ (by omega) (by omega) hov9.1 hov9.2);have hs17:=WStep.trans hs10 hds13;refine wpList_nil ⟨hr15,?_⟩;refine Ay (by kernel_rfl) (DX (by rfl) H ?_);exact ⟨rfl,_,_,hd13,hs17⟩
 ·refine zC B7 H rfl (Calls.mono (BJ B p g ps vp vo vl s tab.length _ hd4 htn (by omega) hps hk) ?_);rintro e w18 ⟨rfl,hd18,hg18⟩;refine zR fun H=>?_;have hds18:WStep p vo vl wd1 vo vl w18:=WStep.of_grown hg18;have hz19:=hds18.size;have hr20:=RowAt.kept hr3 (WStep.block hds18 _ (by omega) (by omega) hov.1 hov.2);have hov21:=WStep.notOwn hds18 hov (by omega);have hs22:=WStep.trans hs5 hds18;refine wpList_nil ⟨hr20,?_⟩;refine zd 10 H rfl (Pb H rfl rfl (Bl ps s.k htn)) hr20 fun H=>zd 11 H rfl (Au D1 H rfl (fun _ h=>h.get (Bl ps s.k htn))) hr20 fun H=>zD 4 rfl (Ah AH H rfl (hd18.row 2 _ rfl).1 rfl fun a H=>wpList_nil ⟨hr20,?_⟩);refine zD 12 rfl (Ih (ys:=(tab.getD (Af ps s.k tab.length) [])) H rfl hd18.out rfl hd18.base (by show s.out.length+_≤_; omega) rfl fun v23 w23 ha23 a H=>?_);have htA24:=RowAt.kept hr20 (ha23.grown.block _ (by omega) (fun e=>hov21.1 e.symm));refine wpList_nil ⟨htA24,?_⟩;refine zd 13 H rfl (Ak H rfl) htA24 fun H=>zd 14 H rfl (Ap AY H rfl) htA24 fun H=>zD 15 rfl ?_;have hput25:=TW.put hd18 ha23;obtain ⟨ao25,c25,hv25⟩:=(ha23).own.slice3A;refine Aj (v:=v23) Bq H rfl rfl (by rw [hv25]; try rfl) (TW.appd hd18 ha23).1 (TW.appd hd18 ha23).2 (by rw [hv25]; try rfl) ?_;obtain ⟨hd25,hds25⟩:=hput25;generalize w23.setCell ⟨p,2,none⟩ v23 = wn25 at hd25 hds25 ⊢;have hz26:=hds25.size;have hr27:=RowAt.kept hr20 (WStep.block hds25 _ (by omega) (by omega) hov21.1 hov21.2);have hs29:=WStep.trans hs22 hds25;refine wpList_nil ⟨hr27,?_⟩;refine Ay (by kernel_rfl) (DX (by rfl) H ?_);exact ⟨rfl,_,_,hd25,hs29⟩
end
section
open Go.ChangeShapes Go.WideShapes Go.ChangeAt Go.RowKit
structure Grow (ps:List UInt8) (c:Nat) (s s':WS):Prop where
 k:s.k≤ps.length→s'.k≤ps.length
 len:s'.out.length≤s.out.length+c
 left:s'.left = s.left
theorem Pt (ps:List UInt8) {k:Nat} (h:k≤ps.length):I6 ps k≤ps.length:=by unfold I6; split <;> omega
theorem Ar {tab:List (List UInt8)} {m:Nat} (h:∀ x ∈ tab,x.length≤m) (i:Nat):(tab.getD i []).length≤m:=by
 rw [List.getD_eq_getElem?_getD]
 cases hi:tab[i]? with
 | none=>exact Nat.zero_le _
 | some x=>exact h x (List.mem_of_getElem? hi)
theorem Grow.pick (ps:List UInt8) (s:WS):Grow ps 0 s { s with k:=I6 ps s.k }:=⟨Pt ps,Nat.le_refl _,rfl⟩
theorem Grow.one (ps:List UInt8) (tab:List (List UInt8)) (s:WS) {m:Nat} (h:∀ i,(tab.getD i []).length≤m):Grow ps m s (BK ps tab s):=⟨Pt ps,by have:=h (Af ps s.k tab.length); unfold BK; simp only [List.length_append]; omega,rfl⟩
theorem Grow.put (ps:List UInt8) (x:List UInt8) (s:WS):Grow ps x.length s (AW x s):=⟨id,by simp [AW],rfl⟩
theorem Grow.blanks (ps:List UInt8) (b:Bool) (s:WS):Grow ps 40 s (Am ps b s):=by
 cases b
 ·exact Grow.one ps Fu s (Ar (by decide))
 ·exact Grow.one ps D4 s (Ar (by decide))
theorem Grow.trans {ps:List UInt8} {c d:Nat} {s s1 s2:WS} (h:Grow ps c s s1) (k:Grow ps d s1 s2):Grow ps (c+d) s s2:=⟨fun e=>k.k (h.k e),by have:=h.len; have:=k.len; omega,k.left.trans h.left⟩
theorem Grow.weak {ps:List UInt8} {c d:Nat} {s s1:WS} (h:Grow ps c s s1) (k:c≤d):Grow ps d s s1:=⟨h.k,by have:=h.len; omega,h.left⟩
theorem nmG {B p g:Nat} {ps:List UInt8} {vp vo vl:Value} {s s1:WS} {w:World} {c:Nat} (h:Grow ps c s s1) (hk:s.k≤ps.length) (ht:TW B p g ps vp vo vl s1 w):∃ s2:WS,s1 = s2∧TW B p g ps vp vo vl s2 w∧s2.k≤ps.length∧s2.out.length≤s.out.length+c:=⟨s1,rfl,ht,h.k hk,h.len⟩
theorem endR {fn:Func} {N:Nat} {a:Act} {l:List (Nat × Value)} {R:Ending→World→Prop} {w:World} (hres:fn.results = #[]) (H:Has N [] a l) (h:R (.returned (.tuple #[])) w):bodyPost Tryz.prog fn R .ret a w:=
 bodyPost_ret (results_none hres _ _ _) H.defers h
theorem B8:Av Tryz.prog 15:=⟨_,Tryz.func15,by kernel_rfl,by kernel_rfl⟩
theorem Cn:Av Tryz.prog 10:=⟨_,Tryz.func10,by kernel_rfl,by kernel_rfl⟩
section
variable {N:Nat} {D:List Deferred} {a:Act} {l:List (Nat × Value)} {L rest:List Oper} {Q:Exit→Act→World→Prop} {w:World} {d:Nat} {ty:TypeId} {pos:String} {af:Array Edge}
theorem DF {x:Operand} {c:Int} (H:Has N D a l) (hx:ev l x = some (.int .u8 c)) (hd:Nat.blt d N = true)
  (h:∀ w',RowAt w' w.heap.size [.int .u8 c]→Below w.heap.size w w'→w'.heap.size = w.heap.size+1→∀ a,Has N D a ((d,.slice (some ⟨w.heap.size,0,none⟩) 1 1)::l)→wpList Tryz.prog L.toArray Q rest a w'):wpList Tryz.prog L.toArray Q (⟨some d,.buildSlice 22 1 #[(0,x)],ty,pos,af,none⟩::rest) a w:=
 Cj H hd (w':=w.alloc (.cells #[.int .u8 c] 5)) (v:=.slice (some ⟨w.heap.size,0,none⟩) 1 1) (Tc Tryz.underlying22 Ag H hx) (h _ (BW (heap_alloc_new w _)) ((Below.refl _ w).alloc (Nat.le_refl _) _) (BV w _))
theorem Ck {x y:Operand} {B q:Nat} {v:Value} {bs:List UInt8} (c:UInt8) (H:Has N D a l) (hx:ev l x = some v) (hown:OwnB w B 5 v bs) (hy:ev l y = some (.slice (some ⟨q,0,none⟩) 1 1)) (hc:RowAt w q [.int .u8 (c.toNat:Int)]) (hB:B≤w.heap.size) (hlen:bs.length+1≤140737488355328) (hd:Nat.blt d N = true)
  (h:∀ v' w',Appd w B 5 v v' (bs++[c]) w'→∀ a,Has N D a ((d,v')::l)→wpList Tryz.prog L.toArray Q rest a w') :
  wpList Tryz.prog L.toArray Q (⟨some d,.call { callee:=.builtin .append,args:=#[x,y],argTypes:=#[22,22] },ty,pos,af,none⟩::rest) a w:=
 Gs w rfl x y 22 rfl B 5 Tryz.underlying22 Ag v bs (H.ev hx) hown ⟨q,0,none⟩ 1 c (H.ev hy) (hc 0 _ rfl).1 hB hlen fun v' w' ha=>h v' w' ha _ (H.put hd)
end
theorem Dt (x:List UInt8) (s:WS):(AW x s).out.length = s.out.length+x.length:=by simp [AW]
end
section
open Go.ChangeShapes Go.WideShapes Go.ChangeAt Go.RowKit
variable {B p g:Nat} {ps:List UInt8} {vp vo vl:Value} {s:WS} {w:World}
set_option maxRecDepth 100000 in
set_option maxHeartbeats 100000000 in
theorem PX (h:TW B p g ps vp vo vl s w) (hps:ps.length≤2147483647) (hk:s.k≤ps.length) (hol:s.out.length≤99000000) :
  Calls Tryz.prog 10 #[.pointer (some ⟨p,0,none⟩),.bool true] w (Kh B p g ps vp vo vl (Am ps true s) w):=by
 have hs0:=WStep.refl p vo vl w;have hlp:=h.lt;have hgl:=h.gl;refine enter2 (M:=11) Tryz.func10 rfl rfl rfl fun a H=>BM fun K1 hK1=>BM fun K2 hK2=>Ac (zm H rfl fun H=>zN (hK2 _ _ ?_));refine zi H rfl (zr fun j3=>zm H rfl fun H=>?_);obtain ⟨q4,hq4⟩:∃ q,q = w.heap.size:=⟨_,rfl⟩;refine A6 (tab:=D4) H rfl (by decide) (by decide) (by kernel_rfl) rfl fun w4 hr4 hb4 hs4 a H=>?_;rw [←hq4] at H hr4;have hz5:=hb4.size;have hd6:=TW.below h hb4;have hs7:=WStep.trans hs0 (WStep.of_below hb4);have hov8:=TW.fresh (q:=q4) h (by omega);refine zC B8 H rfl (Calls.mono (BD D4 hd6 hps hk (by decide) (by decide) hr4 (by omega) hov8 (by omega) (Ar (by decide))) ?_);rintro e w9 ⟨rfl,vo9,vl9,hd9,hds9⟩;refine zR fun H=>?_;have hz10:=hds9.size;have hs11:=WStep.trans hs7 hds9;obtain ⟨s12,hses12,hd9,hks12,hos12⟩:=nmG (Grow.one ps D4 s (Ar (m:=40) (by decide))) hk hd9;refine zN (j3 ?_);refine wp_ret (tr (endR (by rfl) H ?_));refine ⟨rfl,_,_,?_,hs11⟩;rw [show Am ps true s = s12 from by subst hses12; rfl];exact hd9
set_option maxRecDepth 100000 in
set_option maxHeartbeats 100000000 in
theorem PY (h:TW B p g ps vp vo vl s w) (hps:ps.length≤2147483647) (hk:s.k≤ps.length) (hol:s.out.length≤99000000) :
  Calls Tryz.prog 10 #[.pointer (some ⟨p,0,none⟩),.bool false] w (Kh B p g ps vp vo vl (Am ps false s) w):=by
 have hs0:=WStep.refl p vo vl w;have hlp:=h.lt;have hgl:=h.gl;refine enter2 (M:=11) Tryz.func10 rfl rfl rfl fun a H=>BM fun K1 hK1=>BM fun K2 hK2=>Ac (zm H rfl fun H=>zN (hK2 _ _ ?_));refine zj H rfl (wp_skip (tn (hK1 _ _ ?_)));refine Ac (zm H rfl fun H=>?_);obtain ⟨q3,hq3⟩:∃ q,q = w.heap.size:=⟨_,rfl⟩;refine A6 (tab:=Fu) H rfl (by decide) (by decide) (by kernel_rfl) rfl fun w3 hr3 hb3 hs3 a H=>?_;rw [←hq3] at H hr3;have hz4:=hb3.size;have hd5:=TW.below h hb3;have hs6:=WStep.trans hs0 (WStep.of_below hb3);have hov7:=TW.fresh (q:=q3) h (by omega);refine zC B8 H rfl (Calls.mono (BD Fu hd5 hps hk (by decide) (by decide) hr3 (by omega) hov7 (by omega) (Ar (by decide))) ?_);rintro e w8 ⟨rfl,vo8,vl8,hd8,hds8⟩;refine zR fun H=>?_;have hz9:=hds8.size;have hs10:=WStep.trans hs6 hds8;obtain ⟨s11,hses11,hd8,hks11,hos11⟩:=nmG (Grow.one ps Fu s (Ar (m:=40) (by decide))) hk hd8;refine wpList_nil (DX (by rfl) H ?_);refine ⟨rfl,_,_,?_,hs10⟩;rw [show Am ps false s = s11 from by subst hses11; rfl];exact hd8
theorem B0 (b:Bool) (h:TW B p g ps vp vo vl s w) (hps:ps.length≤2147483647) (hk:s.k≤ps.length) (hol:s.out.length≤99000000) :
  Calls Tryz.prog 10 #[.pointer (some ⟨p,0,none⟩),.bool b] w (Kh B p g ps vp vo vl (Am ps b s) w):=by
 cases b
 ·exact PY h hps hk hol
 ·exact PX h hps hk hol
end
end Go.Proofs.YtgdnpnipahegaaaGreatDoor
