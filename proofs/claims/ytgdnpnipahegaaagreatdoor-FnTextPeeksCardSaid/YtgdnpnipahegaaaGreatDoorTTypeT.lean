/-
 The package's reader of the text form, walked: a type's name in brackets.
-/
import Derived.Test.YtgdnpnipahegaaaGreatDoorQ9
import Derived.Test.YtgdnpnipahegaaaGreatDoorQ24
namespace Go.Proofs.YtgdnpnipahegaaaGreatDoor
open Go.ChangeShapes Go.WideShapes Go.ChangeAt Go.RowKit
theorem KK:∀ (l p t:List UInt8),DO l = some (p,t)→∃ c,c.toNat = 47∧l = p++c::t
 | [],p,t,h=>by cases h
 | c::l,p,t,h=>by
  unfold DO at h
  rcases hs:DO l with _ | ⟨p',t'⟩
  ·rw [hs] at h;simp only at h
   by_cases hc:c.toNat = 47
   ·rw [if_pos hc] at h
    injection h with h
    injection h with h1 h2
    subst h1 h2;exact ⟨c,hc,rfl⟩
   ·rw [if_neg hc] at h; cases h
  ·rw [hs] at h;simp only at h
   injection h with h
   injection h with h1 h2
   obtain ⟨d,hd,hl⟩:=KK l p' t' hs;subst h1 h2;exact ⟨d,hd,by rw [hl]; rfl⟩
theorem O2 {l:List UInt8} (h:DO l = none):GO l = -1:=by unfold GO; rw [h]
theorem O1 {l p t:List UInt8} (h:DO l = some (p,t)):GO l = (p.length:Int):=by unfold GO; rw [h]
theorem Pw {l:List UInt8} (h:DO l = none):D7 l = EY l:=by unfold D7; rw [h]
theorem Pv {l t:List UInt8} (h:DO l = some ([],t)):D7 l = EY t:=by unfold D7; rw [h]; simp
theorem KT {l p t:List UInt8} {c:UInt8} (h:DO l = some (c::p,t)):D7 l = (!(c.toNat == 47) && EY t):=by unfold D7; rw [h]
section
variable {N:Nat} {D:List Deferred} {a:Act} {l:List (Nat × Value)} {P:Program} {L rest:List Oper} {Q:Exit→Act→World→Prop} {w:World} {d:Nat} {ty:TypeId} {pos:String} {af:Array Edge}
theorem OwnB.below {w':World} {B:Nat} {e:TypeId} {v:Value} {bs:List UInt8} (h:OwnB w B e v bs) (hb:Below w.heap.size w w'):OwnB w' B e v bs:=
 World.ownsRow.kept h (row:=none) ⟨hb.os,hb.tape,hb.output,hb.size,fun k hk _=>hb.block k hk⟩ (by cases v.ownBlock <;> simp)
theorem JC {t e:TypeId} {x y:Operand} {B g:Nat} {v u:Value} {bs ys:List UInt8} {w0:World} (ht:P.underlying t = some (.slice e)) (hinfo:(P.info? e).map (fun i=>(i.zero,i.size,i.bytes)) = some (some (.int .u8 0),1,1))
  (H:Has N D a l) (hx:ev l x = some v) (hown:OwnB w B e v bs) (hb:Below B w0 w) (hB:B≤w0.heap.size) (hy:ev l y = some u) (hv:View w g u ys) (hlen:bs.length+ys.length≤140737488355328) (hd:Nat.blt d N = true)
  (h:∀ v' w',OwnB w' B e v' (bs++ys)→Below B w0 w'→∀ a,Has N D a ((d,v')::l)→wpList P L.toArray Q rest a w') :
  wpList P L.toArray Q (⟨some d,.call { callee:=.builtin .append,args:=#[x,y],argTypes:=#[t,t] },ty,pos,af,none⟩::rest) a w:=
 F6 w rfl x y t rfl B e ht hinfo v bs (H.ev hx) hown hb hB g u ys (H.ev hy) hv hlen fun v' w' h1 h2 _=>h v' w' h1 h2 _ (H.put hd)
theorem OG {e:TypeId} (w:World) (bs:List UInt8) (hm:bs.length≤maxLen):View (w.alloc (.cells (byteCells bs).toArray e)) w.heap.size (.slice (some ⟨w.heap.size,0,none⟩) bs.length bs.length) bs:=by
 refine ⟨_,_,rfl,Nat.le_refl _,hm,(fun e=>by cases e),0,fun _=>rfl,fun j hj=>?_⟩;have:=(BW (heap_alloc_new w (.cells (byteCells bs).toArray e)) j (.int .u8 (bs[j].toNat:Int)) (by simp [byteCells,List.getElem?_eq_getElem hj])).1;rwa [Nat.zero_add]
theorem Lu {t e:TypeId} {x:Operand} {c:UInt8} (ht:P.underlying t = some (.slice e)) (hinfo:(P.info? e).map (fun i=>(i.zero,i.size,i.bytes)) = some (some (.int .u8 0),1,1)) (H:Has N D a l) (hx:ev l x = some (.int .u8 (c.toNat:Int))) (hd:Nat.blt d N = true)
  (h:∀ g1 u w',View w' g1 u [c]→Below w.heap.size w w'→∀ a,Has N D a ((d,u)::l)→wpList P L.toArray Q rest a w'):wpList P L.toArray Q (⟨some d,.buildSlice t 1 #[(0,x)],ty,pos,af,none⟩::rest) a w:=
 Cj H hd (Tc ht hinfo H hx) (h _ _ _ (OG w [c] (by simp [maxLen])) ((Below.refl _ w).alloc (Nat.le_refl _) _))
theorem SG {t e:TypeId} {x y z:Operand} {b c f:UInt8} (ht:P.underlying t = some (.slice e)) (hinfo:(P.info? e).map (fun i=>(i.zero,i.size,i.bytes)) = some (some (.int .u8 0),1,1)) (H:Has N D a l) (hx:ev l x = some (.int .u8 (b.toNat:Int))) (hy:ev l y = some (.int .u8 (c.toNat:Int))) (hz:ev l z = some (.int .u8 (f.toNat:Int))) (hd:Nat.blt d N = true)
  (h:∀ g1 u w',View w' g1 u [b,c,f]→Below w.heap.size w w'→∀ a,Has N D a ((d,u)::l)→wpList P L.toArray Q rest a w'):wpList P L.toArray Q (⟨some d,.buildSlice t 3 #[(0,x),(1,y),(2,z)],ty,pos,af,none⟩::rest) a w:=
 Cj H hd (r_bs3 ht hinfo H hx hy hz) (h _ _ _ (OG w [b,c,f] (by simp [maxLen])) ((Below.refl _ w).alloc (Nat.le_refl _) _))
theorem OB {t e:TypeId} {x i:Operand} {k:IntKind} {n m cp q:Nat} (ht:P.underlying t = some (.slice e)) (hz:(P.info? e).map (·.size) = some 1) (H:Has N D a l) (hx:ev l x = some (.slice (some ⟨q,0,none⟩) m cp)) (hi:ev l i = some (.int k (n:Int))) (hn:n < m) (hd:Nat.blt d N = true)
  (h:∀ a,Has N D a ((d,.pointer (some ⟨q,n,none⟩))::l)→wpList P L.toArray Q rest a w):wpList P L.toArray Q (⟨some d,.indexAddr t x i,ty,pos,af,none⟩::rest) a w:=
 Cj H hd (by
  have h1:=H.ev hx;have h2:=H.ev hi
  cases hq:P.info? e with
  | none=>simp [hq] at hz
  | some inf=>
   have hs:inf.size = 1:=by simpa [hq] using hz
   simp [execOp,h1,h2,Instr.indexAt,asIntOf,run_underlying ht,sizeOf,typeInfo,hq,hs,Addr.add_lit,Result.andThen,if_pos hn]) h
end
variable {B p g:Nat} {bs:List UInt8} {vr ve vst vo vi:Value} {s:DT} {w:World}
def UB (B p g:Nat) (bs:List UInt8) (vr ve vst vo vi:Value) (s:DT) (w:World) (o:Option (TT × Nat)) (e:Ending) (w':World):Prop:=match o with
 | none=>(∃ t x,e = .returned (.tuple #[Ni,.iface t x]))∧DW B p g bs vr ve vst vo vi s w'∧Below w.heap.size w w'
 | some (t,k)=>∃ vt vi',e = .returned (.tuple #[EO vt t,.nilIface])∧View w' g vt t.raw∧DW B p g bs vr ve vst vo vi' { s with k:=k } w'∧w.grownBy w' (some p)
theorem pf_tnc:Av Tryz.prog 62:=⟨_,Tryz.func62,by kernel_rfl,by kernel_rfl⟩
theorem Qk:Av Tryz.prog 63:=⟨_,Tryz.func63,by kernel_rfl,by kernel_rfl⟩
theorem Tn:Av Tryz.prog 64:=⟨_,Tryz.func64,by kernel_rfl,by kernel_rfl⟩
theorem Ee:Av Tryz.prog 65:=⟨_,Tryz.func65,by kernel_rfl,by kernel_rfl⟩
theorem Ra:Av Tryz.prog 66:=⟨_,Tryz.func66,by kernel_rfl,by kernel_rfl⟩
theorem Pd:Av Tryz.prog 67:=⟨_,Tryz.func67,by kernel_rfl,by kernel_rfl⟩
theorem MB (v:Value) (l:List UInt8) (g:Nat) (w:World) (hv:View w g v l) (hm:l.length≤100000000) :
  Calls Tryz.prog 48 #[v,.int .i64 0] w fun e w'=>∃ v',e = .returned v'∧View w g v' (csT l)∧w = w':=by
 refine (HY v l 0 g w hv (Nat.zero_le _) hm).mono ?_;rintro e w' ⟨v',rfl,hv',rfl⟩;exact ⟨v',rfl,by simpa [csT] using hv',rfl⟩
set_option maxRecDepth 100000 in
theorem I9 (v:Value) (l:List UInt8) (g:Nat) (w:World) (hv:View w g v l) (hm:l.length≤100000000) :
  Calls Tryz.prog 66 #[v,.int .u8 47] w fun e w'=>e = .returned (.int .i64 (GO l))∧w = w':=by
 obtain ⟨ao,cp,rfl⟩:=hv.slice;have HC:=hid (Oc _ l g w hv hm);clear hv
 go_enter Tryz.func66,Tryz.ntmps66
 go_wp2_with (first | (go_at_call 75; refine (Calls.mono HC.out ?_); rintro e w' ⟨rfl,rfl⟩) | fail)
 go_ret
 exact ⟨rfl,rfl⟩
theorem M8 (t:List UInt8):GR false t = (BO 0 t).all (fun m=>decide (0 < m)):=by
 have:=Ji t 0
 simpa using this
theorem Pf {t:List UInt8} {j:Nat} (h:(BO 0 t)[j]? = some 0):EY t = false:=by
 have h1:GR false t = false:=by
  rw [M8,List.all_eq_false];obtain ⟨hj,he⟩:=List.getElem?_eq_some_iff.1 h;exact ⟨_,List.getElem_mem hj,by rw [he]; simp⟩
 unfold EY;rw [h1];rfl
theorem M7 {t:List UInt8} (h:∀ (j n:Nat),j < (BO 0 t).length→(BO 0 t)[j]? = some n→n≠0):GR false t = true:=by
 rw [M8,List.all_eq_true];intro x hx;obtain ⟨j,hj,he⟩:=List.getElem_of_mem hx;have:=h j x hj (by rw [List.getElem?_eq_getElem hj,he]);simp;omega
theorem J6:∀ (l:List UInt8) (n:Nat),(BO n l).length≤l.length+1
 | [],n=>by simp [BO]
 | c::l,n=>by
  unfold BO
  split
  ·have:=J6 l 0;simp;omega
  ·have:=J6 l (n+1);simp;omega
def okC (c:UInt8):Bool:=!(c.toNat == 37 || c.toNat != 46 && EN c)
theorem Ln {t:List UInt8} {j:Nat} {c:UInt8} (h:t[j]? = some c) (hc:okC c = false):EY t = false:=by
 have h1:(t.all fun c=>!(c.toNat == 37 || c.toNat != 46 && EN c)) = false:=by
  rw [List.all_eq_false];obtain ⟨hj,he⟩:=List.getElem?_eq_some_iff.1 h;exact ⟨_,List.getElem_mem hj,by rw [he]; unfold okC at hc; rw [hc]; simp⟩
 unfold EY;rw [h1,Bool.and_false]
theorem LC {t:List UInt8} (h:GR false t = true) (h2:∀ (j:Nat) (c:UInt8),j < t.length→t[j]? = some c→okC c = true):EY t = true:=by
 unfold EY;rw [h,Bool.true_and,List.all_eq_true];intro x hx;obtain ⟨j,hj,he⟩:=List.getElem_of_mem hx;exact h2 j x hj (by rw [List.getElem?_eq_getElem hj,he])
theorem Tu {c:UInt8} (h:c.toNat = 37):okC c = false:=by unfold okC; rw [h]; rfl
theorem Tt {c:UInt8} (h:c.toNat = 46):okC c = true:=by unfold okC; rw [h]; rfl
theorem Lm {c:UInt8} (h1:c.toNat≠37) (h2:c.toNat≠46):okC c = !(EN c):=by
 unfold okC;rw [show (c.toNat == 37) = false by simpa using h1,show (c.toNat != 46) = true by simpa using h2];rfl
structure TNW (wA wk:World) (vn:Value) (name:List UInt8):Prop where
 below:Below wA.heap.size wA wk
 own:OwnB wk wA.heap.size 5 vn name
theorem TNW.grow {wA wk w':World} {vn:Value} {name:List UInt8} (h:TNW wA wk vn name) (hb:Below wk.heap.size wk w'):TNW wA w' vn name:=⟨h.below.trans (hb.mono h.below.size),h.own.below hb⟩
theorem TNW.base {wA wk:World} {vn:Value} {name:List UInt8} (h:TNW wA wk vn name):wA.heap.size≤wk.heap.size:=h.below.size
theorem tnF_hit {f:Nat} {c:UInt8} {r name:List UInt8} (h:c.toNat = 93):tnF (f+1) (c::r) name = some (name,r):=by rw [D9,if_pos h]
theorem LI {f:Nat} {c:UInt8} {r name:List UInt8} (h0:c.toNat≠93) (h:c.toNat = 47∨tnC c = true∨EN c = true):tnF (f+1) (c::r) name = tnF f (csT r) (name++[c]):=by rw [D9,if_neg h0,if_pos h]
theorem tnF_hex {f:Nat} {c a b:UInt8} {r name:List UInt8} (h:c.toNat = 37) (h0:¬ (c.toNat = 47∨tnC c = true∨EN c = true)) (ha:AQ a = true) (hb:AQ b = true):tnF (f+1) (c::a::b::r) name = tnF f (csT r) (name++[c,a,b]):=by
 rw [D9,if_neg (by omega),if_neg h0,if_pos h];simp only;rw [if_pos (by rw [ha,hb]; rfl)]
theorem OQ {f:Nat} {c:UInt8} {r name:List UInt8} (h:c.toNat = 37) (h0:¬ (c.toNat = 47∨tnC c = true∨EN c = true)) (hr:r.length < 2):tnF (f+1) (c::r) name = none:=by
 rw [D9,if_neg (by omega),if_neg h0,if_pos h]
 rcases r with _ | ⟨a,_ | ⟨b,r⟩⟩
 ·rfl
 ·rfl
 ·simp at hr;omega
theorem MT {f:Nat} {c a b:UInt8} {r name:List UInt8} (h:c.toNat = 37) (h0:¬ (c.toNat = 47∨tnC c = true∨EN c = true)) (hab:AQ a = false∨AQ b = false):tnF (f+1) (c::a::b::r) name = none:=by
 rw [D9,if_neg (by omega),if_neg h0,if_pos h];simp only;rw [if_neg]
 rcases hab with h | h <;> simp [h]
theorem tnF_bad {f:Nat} {c:UInt8} {r name:List UInt8} (h1:c.toNat≠93) (h0:¬ (c.toNat = 47∨tnC c = true∨EN c = true)) (h2:c.toNat≠37):tnF (f+1) (c::r) name = none:=by rw [D9,if_neg h1,if_neg h0,if_neg h2]
theorem not3 {c:UInt8} (h1:c.toNat≠47) (h2:tnC c = false) (h3:EN c = false):¬ (c.toNat = 47∨tnC c = true∨EN c = true):=by simp [h1,h2,h3]
theorem Ei {bs:List UInt8} {k:Nat} (h:tnF (bs.length+1) (csT (bs.drop (k+1))) [] = none):D8 bs k = none:=by unfold D8; rw [h]
theorem EX {bs:List UInt8} {k:Nat} {name r:List UInt8} (h:tnF (bs.length+1) (csT (bs.drop (k+1))) [] = some (name,r)) (hn:D7 name = false):D8 bs k = none:=by unfold D8; rw [h]; simp [hn]
theorem LB {bs:List UInt8} {k:Nat} {name r:List UInt8} (h:tnF (bs.length+1) (csT (bs.drop (k+1))) [] = some (name,r)) (hn:D7 name = true):D8 bs k = some (⟨2,2,false,0,k,(bs.drop k).take (bs.length - r.length - k),name⟩,goT bs (bs.length - r.length) 0):=by unfold D8; rw [h]; simp [hn]
theorem PS (bs:List UInt8) (k:Nat):∃ j,k≤j∧csT (bs.drop k) = bs.drop j:=⟨k+skT false (bs.drop k),by omega,by unfold csT; rw [List.drop_drop]⟩
theorem Jd {bs r:List UInt8} {c:UInt8} {j:Nat} (h:c::r = bs.drop j):r = bs.drop (j+1):=by
 rw [←List.drop_drop,←h];rfl
theorem NW {bs r:List UInt8} {j:Nat} (h:r = bs.drop j):∃ i,j≤i∧csT r = bs.drop i:=by
 obtain ⟨i,hi,he⟩:=PS bs j;exact ⟨i,hi,by rw [h,he]⟩
theorem SX {bs S:List UInt8} {j:Nat} (h:S = bs.drop j):S = bs.drop (bs.length - S.length):=by
 by_cases hj:j≤bs.length
 ·have h1:S.length = bs.length - j:=by rw [h]; simp
  rw [show bs.length - S.length = j by omega];exact h
 ·have h0:S = []:=by rw [h]; exact List.drop_of_length_le (by omega)
  rw [h0];simp
section
variable {N:Nat} {D:List Deferred} {a:Act} {l:List (Nat × Value)} {P:Program} {S:World→Prop} {ty:TypeId} {pos:String} {af:Array Edge} {dd:Option Tmp} {gd:Option (Nat × Bool)}
theorem Qf {s t e:TypeId} {B:Nat} {v:Value} {bs:List UInt8} {w:World} (hs:P.underlying s = some (.slice e)) (he:P.underlying e = some (.int .u8)) (ht:P.underlying t = some .string) (hown:OwnB w B e v bs):(convert s t v).run P w = .ok (.string ⟨bs.toArray⟩) w:=by
 have h2:=hown.2
 rcases h2 with ⟨rfl,h0⟩ | ⟨g,cap,cur,rfl,_⟩
 ·have:bs = []:=List.eq_nil_of_length_eq_zero h0;subst this;rw [run_convert_bytes_string w s t e none 0 0 hs he ht];simp [Conv.bytesToString];rfl
 ·exact run_convert_bytes_back w s t e _ cap bs hs he ht hown.cells.2
theorem Pa {s t e:TypeId} {x:Operand} {B:Nat} {v:Value} {bs:List UInt8} (hs:P.underlying s = some (.slice e)) (he:P.underlying e = some (.int .u8)) (ht:P.underlying t = some .string) (H:Has N D a l) (hx:ev l x = some v) (hown:∀ w,S w→OwnB w B e v bs) :
  ∀ w,S w→(execOp a.eval ⟨dd,.convert s t x,ty,pos,af,gd⟩).run P w = .ok (.value (.string ⟨bs.toArray⟩)) w:=fun w hw=>by
 have h1:=H.ev hx;have h2:=Qf (P:=P) hs he ht (hown w hw);simp [execOp,h1,h2,Result.andThen]
theorem Q2 {t:TypeId} {x lo hi:Operand} {v v':Value} {k k':IntKind} {m n:Int} (H:Has N D a l) (hx:ev l x = some v) (hl:ev l lo = some (.int k m)) (hh:ev l hi = some (.int k' n)) (hr:∀ W,(Instr.sliceAt t v (some (.int k m)) (some (.int k' n)) none).run P W = .ok v' W) :
  ∀ w,S w→(execOp a.eval ⟨dd,.slice t x (some lo) (some hi) none,ty,pos,af,gd⟩).run P w = .ok (.value v') w:=fun w _=>by
 have h1:=H.ev hx;have h2:=H.ev hl;have h3:=H.ev hh;simp [execOp,h1,h2,h3,hr w,Result.andThen]
theorem View.both {w:World} {g:Nat} {v:Value} {bs:List UInt8} (hv:View w g v bs) {t e:TypeId} (ht:P.underlying t = some (.slice e)) (hinfo:(P.info? e).map (fun i=>(i.zero,i.size,i.bytes)) = some (some (.int .u8 0),1,1))
  (k k':IntKind) (m n:Nat) (hn:m≤n) (hm:n≤bs.length):∃ ao c,(∀ W,(Instr.sliceAt t v (some (.int k (m:Int))) (some (.int k' (n:Int))) none).run P W = .ok (.slice ao (n - m) c) W)∧View w g (.slice ao (n - m) c) ((bs.drop m).take (n - m)):=by
 obtain ⟨ao,cap,rfl,h3,h4,hn0,off,h5,h6⟩:=hv;obtain ⟨inf,hi1,hz,hz1,hz2⟩:=info_parts hinfo
 have hlen:((bs.drop m).take (n - m)).length = n - m:=by simp; omega
 have hs:P.underlying t = some (.slice (P.elem t)):=by simp [Program.elem,ht]
 have he:P.elem t = e:=by simp [Program.elem,ht]
 have hrun:∀ W,(Instr.sliceAt t (.slice ao bs.length cap) (some (.int k (m:Int))) (some (.int k' (n:Int))) none).run P W = .ok (sliced ao m n cap 1) W:=fun W=>by
  have hsz:(sizeOf (P.elem t)).run P W = .ok 1 W:=by simp [sizeOf,typeInfo,he,hi1,hz1]
  rw [run_sliceAt_slice W t _ _ _ _ hs,run_slice_lh W t ao bs.length cap hs k k' (m:Int) (n:Int) (by omega) (by omega) (by omega),hsz];simp [Result.andThen]
 refine ⟨_,_,hrun,_,_,by rw [hlen] <;> rfl,by omega,by omega,by intro he; cases ao with
   | none=>have:=hn0 rfl; omega
   | some ad=>split at he <;> simp at he,off+m,?_,?_⟩
 ·intro hne
  have:n - m≠0:=by intro e; apply hne; exact List.eq_nil_of_length_eq_zero (by omega)
  have hbs:bs≠[]:=by intro e; subst e; simp at hm; omega
  rw [if_neg (by omega),h5 hbs];simp [Addr.add_lit]
 ·intro i hi;rw [hlen] at hi
  have e1:off+m+i = off+(m+i):=by omega
  rw [e1,h6 (m+i) (by omega)];simp
end
end Go.Proofs.YtgdnpnipahegaaaGreatDoor
