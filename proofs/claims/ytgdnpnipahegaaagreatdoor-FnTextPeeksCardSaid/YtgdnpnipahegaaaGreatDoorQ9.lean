/-
 The package's reader of the text form, walked: a literal that is a name.
-/
import Derived.Test.YtgdnpnipahegaaaGreatDoorTSwitch
import Derived.Test.YtgdnpnipahegaaaGreatDoorTIdent
import Derived.Test.YtgdnpnipahegaaaGreatDoorQ6
import Derived.FnLit
import Derived.Test.YtgdnpnipahegaaaGreatDoorQ1
namespace Go.Proofs.YtgdnpnipahegaaaGreatDoor
open Go.ChangeShapes Go.WideShapes Go.ChangeAt Go.RowKit
section
variable {B p g:Nat} {bs:List UInt8} {vr ve vst vo vi:Value} {s:DT} {w:World}
def zTok:List Value:=[.int .u8 0,.int .u8 0,.int .u8 0,.int .i64 0,.slice none 0 0,.string { data:=#[] }]
def set6 (w:World) (q:Nat) (a b c d e f:Value):World:=(((((w.setCell ⟨q,0,none⟩ a).setCell ⟨q,1,none⟩ b).setCell ⟨q,2,none⟩ c).setCell ⟨q,3,none⟩ d).setCell ⟨q,4,none⟩ e).setCell ⟨q,5,none⟩ f
theorem O3 {w:World} {q:Nat} {x0 x1 x2 x3 x4 x5:Value} (h:RowAt w q [x0,x1,x2,x3,x4,x5]) (a b c d e f:Value):RowAt (set6 w q a b c d e f) q [a,b,c,d,e,f]:=by
 have:=(((((h.set 0 (by simp) a).set 1 (by simp) b).set 2 (by simp) c).set 3 (by simp) d).set 4 (by simp) e).set 5 (by simp) f;exact this
theorem LP {w w1:World} {q:Nat} (h:Below w.heap.size w w1) (hq:w.heap.size≤q) (a b c d e f:Value):Below w.heap.size w (set6 w1 q a b c d e f):=
 (((((h.setCell (p:=⟨q,0,none⟩) hq a).setCell (p:=⟨q,1,none⟩) hq b).setCell (p:=⟨q,2,none⟩) hq c).setCell (p:=⟨q,3,none⟩) hq d).setCell (p:=⟨q,4,none⟩) hq e).setCell (p:=⟨q,5,none⟩) hq f
theorem set6_at {w w1:World} {N q:Nat} (h:Below N w w1) (hq:N≤q) (a b c d e f:Value):Below N w (set6 w1 q a b c d e f):=
 (((((h.setCell (p:=⟨q,0,none⟩) hq a).setCell (p:=⟨q,1,none⟩) hq b).setCell (p:=⟨q,2,none⟩) hq c).setCell (p:=⟨q,3,none⟩) hq d).setCell (p:=⟨q,4,none⟩) hq e).setCell (p:=⟨q,5,none⟩) hq f
def TokRes (B p g:Nat) (bs:List UInt8) (vr ve vst vo vi:Value) (s:DT) (w:World) (o:Option (TT × Nat)) (e:Ending) (w':World):Prop:=match o with
 | none=>e = .returned (.tuple #[Ni,.bool false])∧DW B p g bs vr ve vst vo vi s w'∧Below w.heap.size w w'
 | some (t,k)=>∃ vt vi',e = .returned (.tuple #[EO vt t,.bool true])∧View w' g vt t.raw∧DW B p g bs vr ve vst vo vi' { s with k:=k } w'∧w.grownBy w' (some p)
def Mi (bs:List UInt8) (k:Nat):Option (TT × Nat):=if Bb true (bs.drop k)≠0 then some (AD bs k 3 (Bb true (bs.drop k)) 3) else none
set_option maxRecDepth 100000 in
set_option maxHeartbeats 4000000 in
theorem Ha (h:DW B p g bs vr ve vst vo vi s w) (hm:bs.length≤90000000) :
  Calls Tryz.prog 58 #[.pointer (some ⟨p,0,none⟩)] w (TokRes B p g bs vr ve vst vo vi s w (Mi bs s.k)):=by
 have hlp:=h.lt;have HG:=hid h.gl;have HO:=hid h.ownLt;have HH:=hid h;obtain ⟨w1,hw1⟩:∃ w1,w1 = w.alloc (.cells #[.int .u8 0,.int .u8 0,.int .u8 0,.int .i64 0,.slice none 0 0,.string { data:=#[] }] 50):=⟨_,rfl⟩
 have hb1:Below w.heap.size w w1:=by rw [hw1]; exact (Below.refl _ w).alloc (Nat.le_refl _) _
 have hr:RowAt w1 w.heap.size zTok:=by rw [hw1]; exact BW (heap_alloc_new w _)
 have hsz1:w1.heap.size = w.heap.size+1:=by rw [hw1,BV]
 have hd1:=h.below hb1;have HD1:=hid hd1;have R0:=hid hr;have HB1:=hid hb1;obtain ⟨c10,f10⟩:=hd1.c10;have HP:=hid (Ir true vi (bs.drop s.k) g w1 hd1.inn (by simp; omega));have HLE:=hid (IU true (bs.drop s.k));have hW:=hid hw1;clear hw1 h hb1 hr hd1;have HL:Hid (Mi bs s.k = if Bb true (bs.drop s.k)≠0 then some (AD bs s.k 3 (Bb true (bs.drop s.k)) 3) else none):=hid rfl;generalize Bb true (bs.drop s.k) = n at *
 by_cases hn:n = 0
 ·have e1:((n:Int) == 0) = true:=by simp; omega
  have HF:Hid (Mi bs s.k = none):=hid (by rw [HL.out,if_neg (by simpa using hn)]);clear hn;obtain ⟨a0,d0⟩:=R0.out 0 _ rfl;obtain ⟨a1,d1⟩:=R0.out 1 _ rfl;obtain ⟨a2,d2⟩:=R0.out 2 _ rfl;obtain ⟨a3,d3⟩:=R0.out 3 _ rfl;obtain ⟨a4,d4⟩:=R0.out 4 _ rfl;obtain ⟨a5,d5⟩:=R0.out 5 _ rfl
  go_enter Tryz.func58,Tryz.ntmps58
  go_upto_region 1 with fail
  rw [←hW.out];clear hW
  go_wp2_with (first
   | (go_at_call 52; refine (Calls.mono HP.out ?_); rintro e w' ⟨rfl,rfl⟩)
   | fail)
  refine bodyPost_ret_by (Ea (by rfl) _ _ w.heap.size _ _ (by rfl) (O3 R0.out _ _ _ _ _ _) Tryz.underlying50 (by rfl) (by kernel_rfl)) (by rfl) ?_;rw [HF.out];exact ⟨rfl,HH.out.below (LP HB1.out (Nat.le_refl _) _ _ _ _ _ _),LP HB1.out (Nat.le_refl _) _ _ _ _ _ _⟩
 ·have e1:((n:Int) == 0) = false:=by simp; omega
  have hle:=HLE.out;simp only [List.length_drop] at hle;have HF:Hid (Mi bs s.k = some (AD bs s.k 3 n 3)):=hid (by rw [HL.out,if_pos hn]);have HCT:=hid (D3 s 3 3 n w1 HD1.out (by have:=HH.out.le; omega) (by omega));clear hn hle
  go_enter Tryz.func58,Tryz.ntmps58
  go_upto_region 1 with fail
  rw [←hW.out];clear hW
  go_wp2_with (first
   | (go_at_call 52; refine (Calls.mono HP.out ?_); rintro e w' ⟨rfl,rfl⟩)
   | (go_at_call 40; refine (Calls.mono HCT.out ?_); rintro e w2 ⟨vt,vi',rfl,hvt,hd2,hg2⟩; obtain ⟨ao3,n3,cp3,rfl⟩:=View.slice3 hvt; have HVT:=hid hvt; have HD2:=hid hd2; have HG2:=hid hg2; have r2:=R0.out.kept (hg2.block _ (by rw [hsz1]; omega) (by intro e; injection e with e; omega)); have R2:=hid r2; obtain ⟨a0,d0⟩:=r2 0 _ rfl; obtain ⟨a1,d1⟩:=r2 1 _ rfl; obtain ⟨a2,d2⟩:=r2 2 _ rfl; obtain ⟨a3,d3⟩:=r2 3 _ rfl; obtain ⟨a4,d4⟩:=r2 4 _ rfl; obtain ⟨a5,d5⟩:=r2 5 _ rfl; clear r2 hd2 hg2 hvt; unfold EO AA IY)
   | fail)
  have hbF:Below w.heap.size w2 (set6 w2 w.heap.size (.int .u8 3) (.int .u8 3) (.int .u8 0) (.int .i64 (s.k:Int)) (.slice ao3 n3 cp3) (.string { data:=#[] })):=set6_at (Below.refl _ _) (Nat.le_refl _) _ _ _ _ _ _;refine bodyPost_ret_by (Ea (by rfl) _ _ w.heap.size _ _ (by rfl) (O3 R2.out _ _ _ _ _ _) Tryz.underlying50 (by rfl) (by kernel_rfl)) (by rfl) ?_;rw [HF.out];exact ⟨.slice ao3 n3 cp3,vi',rfl,HVT.out.kept (hbF.block g HG.out),HD2.out.belowAt w.heap.size hlp HG.out HO.out hbF,Aa (EI HB1.out HG2.out) hbF⟩
end
section
section
variable {N:Nat} {D:List Deferred} {a:Act} {l:List (Nat × Value)} {P:Program} {L rest:List Oper} {Q:Exit→Act→World→Prop} {w:World} {d:Nat} {ty:TypeId} {pos:String} {af:Array Edge}
theorem Az {t:TypeId} {cs:Array Value} (hr:H8 P t cs) (H:Has N D a l) (hd:Nat.blt d N = true)
  (h:∀ w',RowAt w' w.heap.size cs.toList→Below w.heap.size w w'→w'.heap.size = w.heap.size+1→∀ a,Has N D a ((d,.pointer (some ⟨w.heap.size,0,none⟩))::l)→wpList P L.toArray Q rest a w'):wpList P L.toArray Q (⟨some d,.alloc t,ty,pos,af,none⟩::rest) a w:=
 NL hr H hd (h _ (BW (heap_alloc_new w _)) ((Below.refl _ w).alloc (Nat.le_refl _) _) (BV w _))
theorem AV {t:TypeId} {x:Operand} {q:Nat} {cs:List Value} {ds:TypeDesc} (hu:P.underlying t = some ds) (hds:ds.isRow = true) (hi:(P.info? t).map (·.size) = some cs.length) (H:Has N D a l) (hx:ev l x = some (.pointer (some ⟨q,0,none⟩))) (hr:RowAt w q cs) (hd:Nat.blt d N = true)
  (h:∀ a,Has N D a ((d,.agg cs.toArray)::l)→wpList P L.toArray Q rest a w):wpList P L.toArray Q (⟨some d,.load t x,ty,pos,af,none⟩::rest) a w:=
 wpList_load_mid rfl t x rfl q 0 (H.ev hx) cs ds (fun j v hj=>by rw [Nat.zero_add]; exact (hr j v hj).1) hu hds hi (h _ (H.put hd))
theorem N1 {t:TypeId} {b o:Nat} {v u:Value} (hi:(P.info? t).map (·.size) = some 1) (hv:v.cells = #[v]) (hc:w.cell? ⟨b,o,none⟩ = some u) (hf:w.frozen? ⟨b,o,none⟩ = false) (h1:v.oneCell' = true) :
  (Instr.storeAt t (.pointer (some ⟨b,o,none⟩)) v).run P w = .ok () (w.setCell ⟨b,o,none⟩ v):=by
 have:=run_storeCells_cells (P:=P) b o [v] 0 w (fun j hj=>by
  obtain rfl:j = 0:=by simpa using hj
  simp [hc]) (fun j hj=>by
  obtain rfl:j = 0:=by simpa using hj
  simpa using hf) (fun x hx=>by
  obtain rfl:x = v:=by simpa using hx
  exact h1)
 cases hq:P.info? t with
 | none=>simp [hq] at hi
 | some i=>
  have hs:i.size = 1:=by simpa [hq] using hi
  simp only [Nat.add_zero,World.setCells] at this;simp [Instr.storeAt,Instr.sureAddr,Sem.run_bind,storeVar,sizeOf,typeInfo,hq,hv,hs,this,Result.andThen]
theorem Aj {t:TypeId} {x y:Operand} {b o:Nat} {v u:Value} (hi:(P.info? t).map (·.size) = some 1) (H:Has N D a l) (hx:ev l x = some (.pointer (some ⟨b,o,none⟩))) (hy:ev l y = some v) (hv:v.cells = #[v]) (hc:w.cell? ⟨b,o,none⟩ = some u) (hf:w.frozen? ⟨b,o,none⟩ = false) (h1:v.oneCell' = true)
  (h:wpList P L.toArray Q rest a (w.setCell ⟨b,o,none⟩ v)):wpList P L.toArray Q (⟨none,.store t x y,ty,pos,af,none⟩::rest) a w:=by
 refine wpList_plain rfl fun K hK=>?_;have e1:=H.ev hx;have e2:=H.ev hy;unfold Oper.wp;simp only [execOp,e1,e2];rw [Sem.run_bind,N1 hi hv hc hf h1];exact hK _ _ h
theorem AU {t:TypeId} {x:Operand} {v:Value} {ds:TypeDesc} (hu:P.underlying t = some ds) (hds:(match ds with | .interface _=>false | _=>true) = true) (H:Has N D a l) (hx:ev l x = some v) (hd:Nat.blt d N = true)
  (h:∀ a,Has N D a ((d,.iface t v)::l)→wpList P L.toArray Q rest a w):wpList P L.toArray Q (⟨some d,.makeInterface t x,ty,pos,af,none⟩::rest) a w:=
 Cj H hd (by
  have h1:=H.ev hx;simp only [execOp,h1]
  cases ds <;> simp_all [Instr.makeInterface,run_underlying hu,Sem.run_bind,Result.andThen]) h
end
theorem View.uptoRun {P:Program} {w:World} {g:Nat} {v:Value} {bs:List UInt8} (hv:View w g v bs) {t e:TypeId} (ht:P.underlying t = some (.slice e)) (hinfo:(P.info? e).map (fun i=>(i.zero,i.size,i.bytes)) = some (some (.int .u8 0),1,1))
  (k':IntKind) (n:Nat) (hm:n≤bs.length):∃ ao c,(∀ W,(Instr.sliceAt t v none (some (.int k' (n:Int))) none).run P W = .ok (.slice ao n c) W)∧View w g (.slice ao n c) (bs.take n):=by
 obtain ⟨ao,cap,rfl,h3,h4,hn0,off,h5,h6⟩:=hv;obtain ⟨inf,hi1,hz,hz1,hz2⟩:=info_parts hinfo
 have hlen:(bs.take n).length = n:=by simp; omega
 have hs:P.underlying t = some (.slice (P.elem t)):=by simp [Program.elem,ht]
 have he:P.elem t = e:=by simp [Program.elem,ht]
 have hc:(n:Int)≤(cap:Int):=by omega
 have hrun:∀ W,(Instr.sliceAt t (.slice ao bs.length cap) none (some (.int k' (n:Int))) none).run P W = .ok (sliced ao 0 n cap 1) W:=fun W=>by
  have hsz:(sizeOf (P.elem t)).run P W = .ok 1 W:=by simp [sizeOf,typeInfo,he,hi1,hz1]
  rw [run_sliceAt_slice W t _ _ _ _ hs,run_slice_h W t ao bs.length cap hs k' (n:Int) (by omega) hc,hsz];simp [Result.andThen]
 refine ⟨_,_,hrun,_,_,by rw [hlen] <;> rfl,by omega,by omega,by intro he; cases ao with
   | none=>have:=hn0 rfl; omega
   | some ad=>split at he <;> simp at he,off,?_,?_⟩
 ·intro hne
  have hbs:bs≠[]:=by intro e; subst e; simp at hne
  rw [h5 hbs]
  split <;> simp [Addr.add_lit]
 ·intro i hi;rw [hlen] at hi;rw [h6 i (by omega)];simp
theorem Oo:Bw Tryz.prog 80 0 0:=fun p w=>by simp [go_sem,Instr.fieldAt]
theorem Mw:Bw Tryz.prog 80 1 1:=fun p w=>by simp [go_sem,Instr.fieldAt]
theorem Fh:Bw Tryz.prog 80 2 2:=fun p w=>by simp [go_sem,Instr.fieldAt]
theorem FU (a b c d:Value):(Tryz.prog.info? 80).map (·.size) = some [a,b,c,d].toArray.size:=by kernel_rfl
theorem J1 (cs:List Value) (h:cs.length = 4):(Tryz.prog.info? 80).map (·.size) = some cs.length:=by rw [h]; kernel_rfl
theorem DQ:Av Tryz.prog 39:=⟨_,Tryz.func39,by kernel_rfl,by kernel_rfl⟩
theorem Br {N:Nat} {D:List Deferred} {a:Act} {l:List (Nat × Value)} {L rest:List Oper} {Q:Exit→Act→World→Prop} {w:World} {d:Nat} {ty:TypeId} {pos:String} {af:Array Edge} {x:Operand} {v:Value} {b:Bool} (H:Has N D a l) (hx:ev l x = some v) (hb:(v = .nilIface∧b = false)∨(∃ te xe,v = .iface te xe∧b = true)) (hd:Nat.blt d N = true)
  (h:∀ a,Has N D a ((d,.bool b)::l)→wpList Tryz.prog L.toArray Q rest a w):wpList Tryz.prog L.toArray Q (⟨some d,.binOp .neq 52 x (.const .nilIface) 52,ty,pos,af,none⟩::rest) a w:=
 Cj H hd (by
  have h1:=H.ev hx
  rcases hb with ⟨rfl,rfl⟩ | ⟨te,xe,rfl,rfl⟩ <;> (simp only [execOp,h1]; simp [go_sem])) h
theorem AO:Tryz.prog.follows .mixedOrders = true:=by kernel_rfl
theorem Be:Bw Tryz.prog 59 5 10:=fun p w=>by simp [go_sem,Instr.fieldAt]
theorem EJ:Bw Tryz.prog 59 4 9:=fun p w=>by simp [go_sem,Instr.fieldAt]
theorem AH:Ds Tryz.prog 22:=fun w=>by simp [isAgg,Sem.run_bind,go_sem]
theorem Cg:Ds Tryz.prog 52:=fun w=>by simp [isAgg,Sem.run_bind,go_sem]
theorem Ca:Ds Tryz.prog 3:=fun w=>by simp [isAgg,Sem.run_bind,go_sem]
theorem Hx:Ds Tryz.prog 4:=fun w=>by simp [isAgg,Sem.run_bind,go_sem]
theorem Bj:H8 Tryz.prog 50 #[.int .u8 0,.int .u8 0,.int .u8 0,.int .i64 0,.slice none 0 0,.string { data:=#[] }]:=fun w=>by
 simp [go_sem,Instr.alloc,newVar,newRow]
theorem Ao:Tryz.prog.built 50 [] = some #[.int .u8 0,.int .u8 0,.int .u8 0,.int .i64 0,.slice none 0 0,.string { data:=#[] }]:=by kernel_rfl
theorem JA (k at_ pos:Int) (ao:Option Addr) (n c:Nat) (s:ByteArray):Tryz.prog.built 50 [(0,.int .u8 k),(1,.int .u8 at_),(3,.int .i64 pos),(4,.slice ao n c),(5,.string s)] = some #[.int .u8 k,.int .u8 at_,.int .u8 0,.int .i64 pos,.slice ao n c,.string s]:=by kernel_rfl
theorem H5 (k at_ pos na:Int) (ao:Option Addr) (n c:Nat) (s:ByteArray):Tryz.prog.built 50 [(0,.int .u8 k),(1,.int .u8 at_),(3,.int .i64 pos),(4,.slice ao n c),(5,.string s),(2,.int .u8 na)] = some #[.int .u8 k,.int .u8 at_,.int .u8 na,.int .i64 pos,.slice ao n c,.string s]:=by kernel_rfl
theorem AP (cs:List Value) (h:cs.length = 6):(Tryz.prog.info? 50).map (·.size) = some cs.length:=by rw [h]; kernel_rfl
theorem MS (a b c d e f:Value):(Tryz.prog.info? 50).map (·.size) = some [a,b,c,d,e,f].toArray.size:=by kernel_rfl
theorem S2:(Tryz.prog.info? 22).map (·.size) = some 1:=by kernel_rfl
theorem Ae {N q:Nat} {w1 w2:World} (hg:w1.grownBy w2 (some q)) (hq:N≤q) (hs:N≤w1.heap.size):Below N w1 w2:=
 ⟨hg.os,hg.tape,hg.output,hg.size,fun k hk=>hg.block k (by omega) (fun e=>by injection e with e; omega)⟩
theorem Bg {p:Option Nat} {w0 w1 w2:World} (h:w0.grownBy w1 p) (k:w1.grownBy w2 p):w0.grownBy w2 p:=
 ⟨k.os.trans h.os,k.tape.trans h.tape,k.output.trans h.output,Nat.le_trans h.size k.size,fun j hj hne=>(k.block j (by have:=h.size; omega) hne).trans (h.block j hj hne)⟩
theorem BR {q:Nat} {w w':World} {ad:Addr} {v:Value} (hg:w.grownBy w' (some q)) (hc:w.cell? ad = some v) (hne:ad.block≠q):w'.cell? ad = some v:=
 (World.cell?_of_block (hg.block ad.block (World.block_lt_of_cell? w ad hc) (fun e=>by injection e with e; exact hne e))).trans hc
theorem RowAt.grown {w w':World} {q k:Nat} {cs:List Value} (h:RowAt w q cs) (hg:w.grownBy w' (some k)) (hq:q < w.heap.size) (hne:q≠k):RowAt w' q cs:=h.kept (hg.block q hq (fun e=>by injection e with e; exact hne e))
theorem RowAt.belowN {w w':World} {q N:Nat} {cs:List Value} (h:RowAt w q cs) (hb:Below N w w') (hq:q < N):RowAt w' q cs:=h.kept (hb.block q hq)
theorem View.grown {w w':World} {g k:Nat} {v:Value} {l:List UInt8} (h:View w g v l) (hg:w.grownBy w' (some k)) (hl:g < w.heap.size) (hne:g≠k):View w' g v l:=h.kept (hg.block g hl (fun e=>by injection e with e; exact hne e))
theorem Bt {B q:Nat} {w0 w1 w2:World} (h:Below B w0 w1) (hg:w1.grownBy w2 (some q)) (hq:B≤q) (hB:B≤w1.heap.size):Below B w0 w2:=
 ⟨hg.os.trans h.os,hg.tape.trans h.tape,hg.output.trans h.output,Nat.le_trans h.size hg.size,fun k hk=>(hg.block k (by omega) (fun e=>by injection e with e; omega)).trans (h.block k hk)⟩
theorem ret2 {N:Nat} {a:Act} {l:List (Nat × Value)} {w:World} {fn:Func} {t u:Tmp} {q:Nat} {c0 c1 c2 c3 c4 c5 e:Value} {R:Ending→World→Prop} (hres:fn.results = #[.cell t 50,.tmp u])
  (H:Has N [] a l) (h1:Bf l t = some (.pointer (some ⟨q,0,none⟩))) (h2:Bf l u = some e) (hr:RowAt w q [c0,c1,c2,c3,c4,c5]) (hR:R (.returned (.tuple #[.agg #[c0,c1,c2,c3,c4,c5],e])) w):bodyPost Tryz.prog fn R .ret a w:=by
 have e1:=H.get t _ h1;have e2:=H.get u _ h2
 have h3:a.tmps.getD u undef = e:=by simp [e2]
 have:=Ea (P:=Tryz.prog) (u:=u) hres a.tmps w q [c0,c1,c2,c3,c4,c5] _ (by simp [e1]) hr Tryz.underlying50 (by rfl) (by kernel_rfl);rw [h3] at this;exact bodyPost_ret_by this H.defers hR
def Rt (B p g:Nat) (bs:List UInt8) (vr ve vst vo vi:Value) (s:DT) (w:World) (o:Option (TT × Nat)) (e:Ending) (w':World):Prop:=match o with
 | none=>e = .returned (.tuple #[Ni,.bool false])∧DW B p g bs vr ve vst vo vi s w'∧w.grownBy w' (some p)
 | some (t,k)=>∃ vt vi',e = .returned (.tuple #[EO vt t,.bool true])∧View w' g vt t.raw∧DW B p g bs vr ve vst vo vi' { s with k:=k } w'∧w.grownBy w' (some p)
def NB (B p g:Nat) (bs:List UInt8) (vr ve vst vo:Value) (s:DT) (w:World) (o:Option (TT × Nat)) (e:Ending) (w':World):Prop:=match o with
 | none=>(∃ t x,e = .returned (.tuple #[Ni,.iface t x]))∧(∃ vi' k,DW B p g bs vr ve vst vo vi' { s with k:=k } w')∧w.grownBy w' (some p)
 | some (t,k)=>∃ vt vi',e = .returned (.tuple #[EO vt t,.nilIface])∧View w' g vt t.raw∧DW B p g bs vr ve vst vo vi' { s with k:=k } w'∧w.grownBy w' (some p)
end
section
theorem Has.enter3 {M:Nat} (v u x:Value) (hM:Nat.blt 2 M = true):Has M [] { tmps:=#[v,u,x]++Array.replicate (M - (#[v,u,x]:Array Value).size) undef,defers:=[] } [(0,v),(1,u),(2,x)] where
 size:=by
  have:2 < M:=by simpa [Nat.blt_eq] using hM
  simp; omega
 defers:=rfl
 get:=by
  have h:∀ k y,Bf [(0,v),(1,u),(2,x)] k = some y→(#[v,u,x]:Array Value)[k]? = some y:=by
   intro k y hk
   match k,hk with
   | 0,hk=>exact hk
   | 1,hk=>exact hk
   | 2,hk=>exact hk
   | k+3,hk=>cases hk
  intro k y hk;have h1:=h k y hk;have hlt:k < (#[v,u,x]:Array Value).size:=(Array.getElem?_eq_some_iff.1 h1).1;rw [Array.getElem?_append_left hlt];exact h1
theorem Rp {P:Program} {f:FuncId} {fn:Func} {c:Code} {M:Nat} {R:Ending→World→Prop} {w:World} {u:FrameMode} {v x y:Value} (hf:P.funcs[f]? = some fn) (hb:fn.body = some c) (hn:fn.ntmps = M) (hM:Nat.blt 2 M = true) (h:∀ a,Has M [] a [(0,v),(1,x),(2,y)]→c.wp P (bodyPost P fn R) a w):CallsD P f #[v,x,y] u w fun e u' w'=>u' = u∧R e w':=
 callsD_of_wp hf hb (by rw [hn]; exact h _ (Has.enter3 v x y hM))
theorem Rq {P:Program} {f:FuncId} {fn:Func} {c:Code} {M:Nat} {R:Ending→World→Prop} {w:World} {u:FrameMode} {v:Value} (hf:P.funcs[f]? = some fn) (hb:fn.body = some c) (hn:fn.ntmps = M) (hM:Nat.blt 0 M = true) (h:∀ a,Has M [] a [(0,v)]→c.wp P (bodyPost P fn R) a w):CallsD P f #[v] u w fun e u' w'=>u' = u∧R e w':=
 callsD_of_wp hf hb (by rw [hn]; exact h _ (Has.enter1 v hM))
theorem Ou {P:Program} {f:FuncId} {fn:Func} {c:Code} {M:Nat} {R:Ending→World→Prop} {w:World} {v:Value} (hf:P.funcs[f]? = some fn) (hb:fn.body = some c) (hn:fn.ntmps = M) (hM:Nat.blt 0 M = true) (h:∀ a,Has M [] a [(0,v)]→c.wp P (bodyPostD P fn R) a w):Calls P f #[v] w R:=
 calls_of_wp_defers hf hb (by rw [hn]; exact h _ (Has.enter1 v hM))
section
variable {N:Nat} {D:List Deferred} {a:Act} {l:List (Nat × Value)} {P:Program} {L rest:List Oper} {Q:Exit→Act→World→Prop} {w:World} {d:Nat} {ty:TypeId} {pos:String} {af:Array Edge}
theorem Lv {t:TypeId} {x:Operand} {v:Value} (hv:v.cells = #[v]) (H:Has N D a l) (hx:ev l x = some v) (hd:Nat.blt d N = true)
  (h:∀ w',RowAt w' w.heap.size [v]→Below w.heap.size w w'→w'.heap.size = w.heap.size+1→∀ a,Has N D a ((d,.pointer (some ⟨w.heap.size,0,none⟩))::l)→wpList P L.toArray Q rest a w'):wpList P L.toArray Q (⟨some d,.box t x,ty,pos,af,none⟩::rest) a w:=
 Cj H hd (w':=w.alloc (.cells #[v] t)) (v:=.pointer (some ⟨w.heap.size,0,none⟩)) (by have h1:=H.ev hx; simp [execOp,h1,Instr.box,newVar,newRow,hv,Result.andThen]) (h _ (BW (heap_alloc_new w _)) ((Below.refl _ w).alloc (Nat.le_refl _) _) (BV w _))
theorem Jb {fn:Fn} {cap:List Operand} {vs:List Value} (H:Has N D a l) (hc:evs l cap = some vs) (hd:Nat.blt d N = true)
  (h:∀ a,Has N D a ((d,.func fn #[] vs.toArray)::l)→wpList P L.toArray Q rest a w):wpList P L.toArray Q (⟨some d,.makeFunc fn #[] cap.toArray,ty,pos,af,none⟩::rest) a w:=
 Cj H hd (by have h1:=H.evs hc; simp [execOp,Instr.makeFunc,h1]) h
end
section
variable {N:Nat} {D:List Deferred} {a:Act} {l:List (Nat × Value)} {L rest:List Oper} {Q:Exit→Act→World→Prop} {w:World} {d:Nat} {ty:TypeId} {pos:String} {af:Array Edge}
theorem Ld {x:Operand} {v:Value} {b:Bool} (H:Has N D a l) (hx:ev l x = some v) (hb:(v = .nilIface∧b = true)∨(∃ te xe,v = .iface te xe∧b = false)) (hd:Nat.blt d N = true)
  (h:∀ a,Has N D a ((d,.bool b)::l)→wpList Tryz.prog L.toArray Q rest a w):wpList Tryz.prog L.toArray Q (⟨some d,.binOp .eql 52 x (.const .nilIface) 52,ty,pos,af,none⟩::rest) a w:=
 Cj H hd (by
  have h1:=H.ev hx
  rcases hb with ⟨rfl,rfl⟩ | ⟨te,xe,rfl,rfl⟩ <;> (simp only [execOp,h1]; simp [go_sem])) h
end
theorem Ba:Ds Tryz.prog 43:=fun w=>by simp [isAgg,Sem.run_bind,go_sem]
theorem Sv:H8 Tryz.prog 52 #[.nilIface]:=fun w=>by simp [go_sem,Instr.alloc,newVar,newRow]
theorem EM:(Tryz.prog.info? 52).map (·.size) = some 1:=by kernel_rfl
theorem u8_size:(Tryz.prog.info? 5).map (·.size) = some 1:=by kernel_rfl
theorem Ud:Bw Tryz.prog 50 1 1:=fun p w=>by simp [go_sem,Instr.fieldAt]
theorem KC:Bw Tryz.prog 50 0 0:=fun p w=>by simp [go_sem,Instr.fieldAt]
theorem Hg:Bw Tryz.prog 59 0 0:=fun p w=>by simp [go_sem,Instr.fieldAt]
theorem Dn:Bw Tryz.prog 59 1 1:=fun p w=>by simp [go_sem,Instr.fieldAt]
theorem GD:Bw Tryz.prog 59 2 7:=fun p w=>by simp [go_sem,Instr.fieldAt]
theorem KN {fn:Func} {t u:Tmp} (h:fn.results = #[.cell t 50,.cell u 52]) (tmps:Array Value) (w:World) (q k:Nat) (c0 c1 c2 c3 c4 c5 v:Value)
  (hp:tmps.getD t undef = .pointer (some ⟨q,0,none⟩)) (hu:tmps.getD u undef = .pointer (some ⟨k,0,none⟩)) (hc:RowAt w q [c0,c1,c2,c3,c4,c5]) (hv:w.cell? ⟨k,0,none⟩ = some v) :
  (results fn tmps).run Tryz.prog w = .ok (.tuple #[.agg #[c0,c1,c2,c3,c4,c5],v]) w:=by
 have h1:=Gc (P:=Tryz.prog) w q 0 50 [c0,c1,c2,c3,c4,c5] _ (fun j u hu=>by rw [Nat.zero_add]; exact (hc j u hu).1) Tryz.underlying50 (by rfl) (by kernel_rfl)
 have h2:(loadVar 52 ⟨k,0,none⟩).run Tryz.prog w = .ok v w:=by
  have h3:=Cg w;simp [loadVar,Sem.run_bind,h3,hv,Result.andThen]
 have hp':tmps[t]?.getD undef = .pointer (some ⟨q,0,none⟩):=by simpa using hp
 have hu':tmps[u]?.getD undef = .pointer (some ⟨k,0,none⟩):=by simpa using hu
 simp [results,h,hp',hu',asAddr,h1,h2,Result.andThen]
theorem pf_try:Av Tryz.prog 50:=⟨_,Tryz.func50,by kernel_rfl,by kernel_rfl⟩
end
section
theorem RowAt.gr {w w':World} {q k:Nat} {cs:List Value} (h:RowAt w q cs) (hg:w.grownBy w' (some k)) (hq:q < w.heap.size:=by omega) (hne:q≠k:=by omega):RowAt w' q cs:=h.grown hg hq hne
theorem RowAt.bl {w w':World} {q:Nat} {cs:List Value} (h:RowAt w q cs) (hb:Below w.heap.size w w') (hq:q < w.heap.size:=by omega):RowAt w' q cs:=h.below hq hb
theorem View.kg {w w':World} {g q:Nat} {v:Value} {l:List UInt8} (h:View w g v l) (hg:w.grownBy w' (some q)) (h1:g < w.heap.size:=by omega) (h2:g≠q:=by omega):View w' g v l:=h.grown hg h1 h2
theorem DStep.tR {p q:Nat} {v1 v2:Value} {w w1 w2:World} (h:DStep p v1 w v2 w1) (hg:w1.grownBy w2 (some q)) (hq:w.heap.size≤q:=by omega):DStep p v1 w v2 w2:=
 ⟨hg.os.trans h.os,hg.tape.trans h.tape,hg.output.trans h.output,Nat.le_trans h.size hg.size,fun k hk h1 h2=>(hg.block k (Nat.lt_of_lt_of_le hk h.size) (fun e=>by injection e with e; omega)).trans (h.block k hk h1 h2),h.lies⟩
theorem DStep.tB {p:Nat} {v1 v2:Value} {w w1 w2:World} (h:DStep p v1 w v2 w1) (hb:Below w1.heap.size w1 w2):DStep p v1 w v2 w2:=DStep.trans h (DStep.of_below hb)
theorem DStep.tG {p:Nat} {v1 v2:Value} {w w1 w2:World} (h:DStep p v1 w v2 w1) (hg:w1.grownBy w2 (some p)):DStep p v1 w v2 w2:=DStep.trans h (DStep.of_grown hg)
section
variable {B p g:Nat} {bs:List UInt8} {vr ve vst vo vi:Value} {s:DT} {w:World}
theorem DW.gO {q:Nat} {w':World} (h:DW B p g bs vr ve vst vo vi s w) (hg:w.grownBy w' (some q)) (h3:vst.ownBlock≠some q) (h1:p≠q:=by omega) (h2:g≠q:=by omega) (h4:9≤q:=by omega):DW B p g bs vr ve vst vo vi s w':=
 h.kept hg.size (hg.block p h.lt (fun e=>by injection e with e; exact h1 e)) (hg.block g h.gl (fun e=>by injection e with e; exact h2 e)) (World.ownsRow.kept h.own hg (.inr h3)) (fun k hk h9=>hg.block k hk (fun e=>by injection e with e; omega))
end
section
variable {N:Nat} {D:List Deferred} {a:Act} {l:List (Nat × Value)} {L rest:List Oper} {Q:Exit→Act→World→Prop} {w:World} {d:Nat} {ty:TypeId} {pos:String} {af:Array Edge}
theorem zT {x y:Operand} {q:Nat} {c0 c1 c2 c3 c4 c5:Value} {cs:List Value} (H:Has N D a l) (hx:ev l x = some (.pointer (some ⟨q,0,none⟩))) (hy:ev l y = some (.agg [c0,c1,c2,c3,c4,c5].toArray)) (hr:RowAt w q cs)
  (h:∀ {w'},RowAt w' q [c0,c1,c2,c3,c4,c5]→w.grownBy w' (some q)→wpList Tryz.prog L.toArray Q rest a w') (hl:[c0,c1,c2,c3,c4,c5].length = cs.length:=by rfl) (h1:([c0,c1,c2,c3,c4,c5]:List Value).toArray.all (·.oneCell') = true:=by simp [Value.oneCell']):wpList Tryz.prog L.toArray Q (⟨none,.store 50 x y,ty,pos,af,none⟩::rest) a w:=
 AJ H hx hy hr hl (MS _ _ _ _ _ _) h1 fun _ hr hg=>h hr hg
theorem zI {x i:Operand} {g:Nat} {v:Value} {bs:List UInt8} {k:IntKind} {n:Int} {c:UInt8} (H:Has N D a l) (hx:ev l x = some v) (hi:evN N d l i = some (.int k n)) (hv:View w g v bs) (hc:bs[n.toNat]? = some c)
  (h:∀ {a ad},Has N D a ((d,.pointer (some ad))::l)→w.cell? ad = some (.int .u8 (c.toNat:Int))→wpList Tryz.prog L.toArray Q rest a w) (h0:0≤n:=by decide):wpList Tryz.prog L.toArray Q (⟨some d,.indexAddr 22 x i,ty,pos,af,none⟩::rest) a w:=
 SC Tryz.underlying22 Ag H hx (D6 hi) hv h0 hc (DV hi) fun _ _ H hc=>h H hc
theorem zR {w':World} {P:Program} {v:Value} (h:∀ {a},Has N D a ((d,v)::l)→wpList P L.toArray Q rest a w'):∃ x,Ending.returned v = .returned x∧∀ a,Has N D a ((d,x)::l)→wpList P L.toArray Q rest a w':=⟨v,rfl,fun _ H=>h H⟩
theorem AR {fn:Func} {t u:Tmp} {q:Nat} {c0 c1 c2 c3 c4 c5 e:Value} {R:Ending→World→Prop} (H:Has N [] a l) (h1:Bf l t = some (.pointer (some ⟨q,0,none⟩))) (h2:Bf l u = some e) (hr:RowAt w q [c0,c1,c2,c3,c4,c5]) (hR:R (.returned (.tuple #[.agg #[c0,c1,c2,c3,c4,c5],e])) w) (hres:fn.results = #[.cell t 50,.tmp u]:=by rfl):bodyPost Tryz.prog fn R .ret a w:=ret2 hres H h1 h2 hr hR
end
end
end Go.Proofs.YtgdnpnipahegaaaGreatDoor
