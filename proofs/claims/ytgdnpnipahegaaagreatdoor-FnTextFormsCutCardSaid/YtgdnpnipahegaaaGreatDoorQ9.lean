/-
 The package's reader of the text form, walked: a literal that is a name.
-/
import Derived.Test.YtgdnpnipahegaaaGreatDoorTSwitch
import Derived.Test.YtgdnpnipahegaaaGreatDoorTIdent
import Derived.Test.YtgdnpnipahegaaaGreatDoorQ6
import Derived.FnLit
import Derived.Test.YtgdnpnipahegaaaGreatDoorQ1
import Derived.Test.YtgdnpnipahegaaaGreatDoorQ0
import Derived.Deep.QuietTactic
import Derived.BigQuiet
namespace Go.Proofs.YtgdnpnipahegaaaGreatDoor
section
open Go.ChangeShapes Go.WideShapes Go.ChangeAt Go.RowKit
variable {B p g:Nat} {bs:List UInt8} {vr ve vst vo vi:Value} {s:DT} {w:World}
def zTok:List Value:=[.int .u8 0,.int .u8 0,.int .u8 0,.int .i64 0,.slice none 0 0,.string { data:=#[] }]
def set6 (w:World) (q:Nat) (a b c d e f:Value):World:=(((((w.setCell ⟨q,0,none⟩ a).setCell ⟨q,1,none⟩ b).setCell ⟨q,2,none⟩ c).setCell ⟨q,3,none⟩ d).setCell ⟨q,4,none⟩ e).setCell ⟨q,5,none⟩ f
theorem N3 {w:World} {q:Nat} {x0 x1 x2 x3 x4 x5:Value} (h:RowAt w q [x0,x1,x2,x3,x4,x5]) (a b c d e f:Value):RowAt (set6 w q a b c d e f) q [a,b,c,d,e,f]:=by
 have:=(((((h.set 0 (by simp) a).set 1 (by simp) b).set 2 (by simp) c).set 3 (by simp) d).set 4 (by simp) e).set 5 (by simp) f;exact this
theorem KZ {w w1:World} {q:Nat} (h:Below w.heap.size w w1) (hq:w.heap.size≤q) (a b c d e f:Value):Below w.heap.size w (set6 w1 q a b c d e f):=
 (((((h.setCell (p:=⟨q,0,none⟩) hq a).setCell (p:=⟨q,1,none⟩) hq b).setCell (p:=⟨q,2,none⟩) hq c).setCell (p:=⟨q,3,none⟩) hq d).setCell (p:=⟨q,4,none⟩) hq e).setCell (p:=⟨q,5,none⟩) hq f
theorem set6_at {w w1:World} {N q:Nat} (h:Below N w w1) (hq:N≤q) (a b c d e f:Value):Below N w (set6 w1 q a b c d e f):=
 (((((h.setCell (p:=⟨q,0,none⟩) hq a).setCell (p:=⟨q,1,none⟩) hq b).setCell (p:=⟨q,2,none⟩) hq c).setCell (p:=⟨q,3,none⟩) hq d).setCell (p:=⟨q,4,none⟩) hq e).setCell (p:=⟨q,5,none⟩) hq f
def TokRes (B p g:Nat) (bs:List UInt8) (vr ve vst vo vi:Value) (s:DT) (w:World) (o:Option (TT × Nat)) (e:Ending) (w':World):Prop:=match o with
 | none=>e = .returned (.tuple #[Mp,.bool false])∧DW B p g bs vr ve vst vo vi s w'∧Below w.heap.size w w'
 | some (t,k)=>∃ vt vi',e = .returned (.tuple #[EL vt t,.bool true])∧View w' g vt t.raw∧DW B p g bs vr ve vst vo vi' { s with k:=k } w'∧w.grownBy w' (some p)
def Lu (bs:List UInt8) (k:Nat):Option (TT × Nat):=if A8 true (bs.drop k)≠0 then some (Ax bs k 3 (A8 true (bs.drop k)) 3) else none
set_option maxRecDepth 100000 in
set_option maxHeartbeats 4000000 in
theorem GP (h:DW B p g bs vr ve vst vo vi s w) (hm:bs.length≤90000000) :
  Calls Tryz.prog 58 #[.pointer (some ⟨p,0,none⟩)] w (TokRes B p g bs vr ve vst vo vi s w (Lu bs s.k)):=by
 have hlp:=h.lt;have HG:=hid h.gl;have HO:=hid h.ownLt;have HH:=hid h;obtain ⟨w1,hw1⟩:∃ w1,w1 = w.alloc (.cells #[.int .u8 0,.int .u8 0,.int .u8 0,.int .i64 0,.slice none 0 0,.string { data:=#[] }] 50):=⟨_,rfl⟩
 have hb1:Below w.heap.size w w1:=by rw [hw1]; exact (Below.refl _ w).alloc (Nat.le_refl _) _
 have hr:RowAt w1 w.heap.size zTok:=by rw [hw1]; exact BW (heap_alloc_new w _)
 have hsz1:w1.heap.size = w.heap.size+1:=by rw [hw1,BP]
 have hd1:=h.below hb1;have HD1:=hid hd1;have R0:=hid hr;have HB1:=hid hb1;obtain ⟨c10,f10⟩:=hd1.c10;have HP:=hid (Hz true vi (bs.drop s.k) g w1 hd1.inn (by simp; omega));have HLE:=hid (Io true (bs.drop s.k));have hW:=hid hw1;clear hw1 h hb1 hr hd1;have HL:Hid (Lu bs s.k = if A8 true (bs.drop s.k)≠0 then some (Ax bs s.k 3 (A8 true (bs.drop s.k)) 3) else none):=hid rfl;generalize A8 true (bs.drop s.k) = n at *
 by_cases hn:n = 0
 ·have e1:((n:Int) == 0) = true:=by simp; omega
  have HF:Hid (Lu bs s.k = none):=hid (by rw [HL.out,if_neg (by simpa using hn)]);clear hn;obtain ⟨a0,d0⟩:=R0.out 0 _ rfl;obtain ⟨a1,d1⟩:=R0.out 1 _ rfl;obtain ⟨a2,d2⟩:=R0.out 2 _ rfl;obtain ⟨a3,d3⟩:=R0.out 3 _ rfl;obtain ⟨a4,d4⟩:=R0.out 4 _ rfl;obtain ⟨a5,d5⟩:=R0.out 5 _ rfl
  go_enter Tryz.func58,Tryz.ntmps58
  go_upto_region 1 with fail
  rw [←hW.out];clear hW
  go_wp2_with (first
   | (go_at_call 52; refine (Calls.mono HP.out ?_); rintro e w' ⟨rfl,rfl⟩)
   | fail)
  refine bodyPost_ret_by (D7 (by rfl) _ _ w.heap.size _ _ (by rfl) (N3 R0.out _ _ _ _ _ _) Tryz.underlying50 (by rfl) (by kernel_rfl)) (by rfl) ?_;rw [HF.out];exact ⟨rfl,HH.out.below (KZ HB1.out (Nat.le_refl _) _ _ _ _ _ _),KZ HB1.out (Nat.le_refl _) _ _ _ _ _ _⟩
 ·have e1:((n:Int) == 0) = false:=by simp; omega
  have hle:=HLE.out;simp only [List.length_drop] at hle;have HF:Hid (Lu bs s.k = some (Ax bs s.k 3 n 3)):=hid (by rw [HL.out,if_pos hn]);have HCT:=hid (DZ s 3 3 n w1 HD1.out (by have:=HH.out.le; omega) (by omega));clear hn hle
  go_enter Tryz.func58,Tryz.ntmps58
  go_upto_region 1 with fail
  rw [←hW.out];clear hW
  go_wp2_with (first
   | (go_at_call 52; refine (Calls.mono HP.out ?_); rintro e w' ⟨rfl,rfl⟩)
   | (go_at_call 40; refine (Calls.mono HCT.out ?_); rintro e w2 ⟨vt,vi',rfl,hvt,hd2,hg2⟩; obtain ⟨ao3,n3,cp3,rfl⟩:=View.slice3 hvt; have HVT:=hid hvt; have HD2:=hid hd2; have HG2:=hid hg2; have r2:=R0.out.kept (hg2.block _ (by rw [hsz1]; omega) (by intro e; injection e with e; omega)); have R2:=hid r2; obtain ⟨a0,d0⟩:=r2 0 _ rfl; obtain ⟨a1,d1⟩:=r2 1 _ rfl; obtain ⟨a2,d2⟩:=r2 2 _ rfl; obtain ⟨a3,d3⟩:=r2 3 _ rfl; obtain ⟨a4,d4⟩:=r2 4 _ rfl; obtain ⟨a5,d5⟩:=r2 5 _ rfl; clear r2 hd2 hg2 hvt; unfold EL Au Ir)
   | fail)
  have hbF:Below w.heap.size w2 (set6 w2 w.heap.size (.int .u8 3) (.int .u8 3) (.int .u8 0) (.int .i64 (s.k:Int)) (.slice ao3 n3 cp3) (.string { data:=#[] })):=set6_at (Below.refl _ _) (Nat.le_refl _) _ _ _ _ _ _;refine bodyPost_ret_by (D7 (by rfl) _ _ w.heap.size _ _ (by rfl) (N3 R2.out _ _ _ _ _ _) Tryz.underlying50 (by rfl) (by kernel_rfl)) (by rfl) ?_;rw [HF.out];exact ⟨.slice ao3 n3 cp3,vi',rfl,HVT.out.kept (hbF.block g HG.out),HD2.out.belowAt w.heap.size hlp HG.out HO.out hbF,Aa (EE HB1.out HG2.out) hbF⟩
end
section
open Go.ChangeShapes Go.WideShapes Go.ChangeAt Go.RowKit
section
variable {N:Nat} {D:List Deferred} {a:Act} {l:List (Nat × Value)} {P:Program} {L rest:List Oper} {Q:Exit→Act→World→Prop} {w:World} {d:Nat} {ty:TypeId} {pos:String} {af:Array Edge}
theorem Aw {t:TypeId} {cs:Array Value} (hr:Hj P t cs) (H:Has N D a l) (hd:Nat.blt d N = true)
  (h:∀ w',RowAt w' w.heap.size cs.toList→Below w.heap.size w w'→w'.heap.size = w.heap.size+1→∀ a,Has N D a ((d,.pointer (some ⟨w.heap.size,0,none⟩))::l)→wpList P L.toArray Q rest a w'):wpList P L.toArray Q (⟨some d,.alloc t,ty,pos,af,none⟩::rest) a w:=
 MQ hr H hd (h _ (BW (heap_alloc_new w _)) ((Below.refl _ w).alloc (Nat.le_refl _) _) (BP w _))
theorem AR {t:TypeId} {x:Operand} {q:Nat} {cs:List Value} {ds:TypeDesc} (hu:P.underlying t = some ds) (hds:ds.isRow = true) (hi:(P.info? t).map (·.size) = some cs.length) (H:Has N D a l) (hx:ev l x = some (.pointer (some ⟨q,0,none⟩))) (hr:RowAt w q cs) (hd:Nat.blt d N = true)
  (h:∀ a,Has N D a ((d,.agg cs.toArray)::l)→wpList P L.toArray Q rest a w):wpList P L.toArray Q (⟨some d,.load t x,ty,pos,af,none⟩::rest) a w:=
 wpList_load_mid rfl t x rfl q 0 (H.ev hx) cs ds (fun j v hj=>by rw [Nat.zero_add]; exact (hr j v hj).1) hu hds hi (h _ (H.put hd))
theorem M3 {t:TypeId} {b o:Nat} {v u:Value} (hi:(P.info? t).map (·.size) = some 1) (hv:v.cells = #[v]) (hc:w.cell? ⟨b,o,none⟩ = some u) (hf:w.frozen? ⟨b,o,none⟩ = false) (h1:v.oneCell' = true) :
  (Instr.storeAt t (.pointer (some ⟨b,o,none⟩)) v).run P w = .ok () (w.setCell ⟨b,o,none⟩ v):=by
 have:=run_storeCells_cells (P:=P) b o [v] 0 w (fun j hj=>by
  obtain rfl:j = 0:=by simpa using hj
  simp [hc]) (fun j hj=>by
  obtain rfl:j = 0:=by simpa using hj
  simpa using hf) (fun x hx=>by
  obtain rfl:x = v:=by simpa using hx
  exact h1)
 cases hq:P.info? t with
 | none=>simp [hq] at hi
 | some i=>
  have hs:i.size = 1:=by simpa [hq] using hi
  simp only [Nat.add_zero,World.setCells] at this;simp [Instr.storeAt,Instr.sureAddr,Sem.run_bind,storeVar,sizeOf,typeInfo,hq,hv,hs,this,Result.andThen]
theorem Aj {t:TypeId} {x y:Operand} {b o:Nat} {v u:Value} (hi:(P.info? t).map (·.size) = some 1) (H:Has N D a l) (hx:ev l x = some (.pointer (some ⟨b,o,none⟩))) (hy:ev l y = some v) (hv:v.cells = #[v]) (hc:w.cell? ⟨b,o,none⟩ = some u) (hf:w.frozen? ⟨b,o,none⟩ = false) (h1:v.oneCell' = true)
  (h:wpList P L.toArray Q rest a (w.setCell ⟨b,o,none⟩ v)):wpList P L.toArray Q (⟨none,.store t x y,ty,pos,af,none⟩::rest) a w:=by
 refine wpList_plain rfl fun K hK=>?_;have e1:=H.ev hx;have e2:=H.ev hy;unfold Oper.wp;simp only [execOp,e1,e2];rw [Sem.run_bind,M3 hi hv hc hf h1];exact hK _ _ h
theorem CK {t:TypeId} {x:Operand} {v:Value} {ds:TypeDesc} (hu:P.underlying t = some ds) (hds:(match ds with | .interface _=>false | _=>true) = true) (H:Has N D a l) (hx:ev l x = some v) (hd:Nat.blt d N = true)
  (h:∀ a,Has N D a ((d,.iface t v)::l)→wpList P L.toArray Q rest a w):wpList P L.toArray Q (⟨some d,.makeInterface t x,ty,pos,af,none⟩::rest) a w:=
 Cz H hd (by
  have h1:=H.ev hx;simp only [execOp,h1]
  cases ds <;> simp_all [Instr.makeInterface,run_underlying hu,Sem.run_bind,Result.andThen]) h
end
theorem View.uptoRun {P:Program} {w:World} {g:Nat} {v:Value} {bs:List UInt8} (hv:View w g v bs) {t e:TypeId} (ht:P.underlying t = some (.slice e)) (hinfo:(P.info? e).map (fun i=>(i.zero,i.size,i.bytes)) = some (some (.int .u8 0),1,1))
  (k':IntKind) (n:Nat) (hm:n≤bs.length):∃ ao c,(∀ W,(Instr.sliceAt t v none (some (.int k' (n:Int))) none).run P W = .ok (.slice ao n c) W)∧View w g (.slice ao n c) (bs.take n):=by
 obtain ⟨ao,cap,rfl,h3,h4,hn0,off,h5,h6⟩:=hv;obtain ⟨inf,hi1,hz,hz1,hz2⟩:=info_parts hinfo
 have hlen:(bs.take n).length = n:=by simp; omega
 have hs:P.underlying t = some (.slice (P.elem t)):=by simp [Program.elem,ht]
 have he:P.elem t = e:=by simp [Program.elem,ht]
 have hc:(n:Int)≤(cap:Int):=by omega
 have hrun:∀ W,(Instr.sliceAt t (.slice ao bs.length cap) none (some (.int k' (n:Int))) none).run P W = .ok (sliced ao 0 n cap 1) W:=fun W=>by
  have hsz:(sizeOf (P.elem t)).run P W = .ok 1 W:=by simp [sizeOf,typeInfo,he,hi1,hz1]
  rw [run_sliceAt_slice W t _ _ _ _ hs,run_slice_h W t ao bs.length cap hs k' (n:Int) (by omega) hc,hsz];simp [Result.andThen]
 refine ⟨_,_,hrun,_,_,by rw [hlen] <;> rfl,by omega,by omega,by intro he; cases ao with
   | none=>have:=hn0 rfl; omega
   | some ad=>split at he <;> simp at he,off,?_,?_⟩
 ·intro hne
  have hbs:bs≠[]:=by intro e; subst e; simp at hne
  rw [h5 hbs]
  split <;> simp [Addr.add_lit]
 ·intro i hi;rw [hlen] at hi;rw [h6 i (by omega)];simp
theorem Nn:B9 Tryz.prog 80 0 0:=fun p w=>by simp [go_sem,Instr.fieldAt]
theorem LH:B9 Tryz.prog 80 1 1:=fun p w=>by simp [go_sem,Instr.fieldAt]
theorem Fa:B9 Tryz.prog 80 2 2:=fun p w=>by simp [go_sem,Instr.fieldAt]
theorem FD (a b c d:Value):(Tryz.prog.info? 80).map (·.size) = some [a,b,c,d].toArray.size:=by kernel_rfl
theorem Ju (cs:List Value) (h:cs.length = 4):(Tryz.prog.info? 80).map (·.size) = some cs.length:=by rw [h]; kernel_rfl
theorem DL:AD Tryz.prog 39:=⟨_,Tryz.func39,by kernel_rfl,by kernel_rfl⟩
theorem Cd {N:Nat} {D:List Deferred} {a:Act} {l:List (Nat × Value)} {L rest:List Oper} {Q:Exit→Act→World→Prop} {w:World} {d:Nat} {ty:TypeId} {pos:String} {af:Array Edge} {x:Operand} {v:Value} {b:Bool} (H:Has N D a l) (hx:ev l x = some v) (hb:(v = .nilIface∧b = false)∨(∃ te xe,v = .iface te xe∧b = true)) (hd:Nat.blt d N = true)
  (h:∀ a,Has N D a ((d,.bool b)::l)→wpList Tryz.prog L.toArray Q rest a w):wpList Tryz.prog L.toArray Q (⟨some d,.binOp .neq 52 x (.const .nilIface) 52,ty,pos,af,none⟩::rest) a w:=
 Cz H hd (by
  have h1:=H.ev hx
  rcases hb with ⟨rfl,rfl⟩ | ⟨te,xe,rfl,rfl⟩ <;> (simp only [execOp,h1]; simp [go_sem])) h
theorem Bs:Tryz.prog.follows .mixedOrders = true:=by kernel_rfl
theorem Bi:B9 Tryz.prog 59 5 10:=fun p w=>by simp [go_sem,Instr.fieldAt]
theorem EF:B9 Tryz.prog 59 4 9:=fun p w=>by simp [go_sem,Instr.fieldAt]
theorem AG:Dq Tryz.prog 22:=fun w=>by simp [isAgg,Sem.run_bind,go_sem]
theorem CG:Dq Tryz.prog 52:=fun w=>by simp [isAgg,Sem.run_bind,go_sem]
theorem CC:Dq Tryz.prog 3:=fun w=>by simp [isAgg,Sem.run_bind,go_sem]
theorem Js:Dq Tryz.prog 4:=fun w=>by simp [isAgg,Sem.run_bind,go_sem]
theorem Bj:Hj Tryz.prog 50 #[.int .u8 0,.int .u8 0,.int .u8 0,.int .i64 0,.slice none 0 0,.string { data:=#[] }]:=fun w=>by
 simp [go_sem,Instr.alloc,newVar,newRow]
theorem An:Tryz.prog.built 50 [] = some #[.int .u8 0,.int .u8 0,.int .u8 0,.int .i64 0,.slice none 0 0,.string { data:=#[] }]:=by kernel_rfl
theorem I3 (k at_ pos:Int) (ao:Option Addr) (n c:Nat) (s:ByteArray):Tryz.prog.built 50 [(0,.int .u8 k),(1,.int .u8 at_),(3,.int .i64 pos),(4,.slice ao n c),(5,.string s)] = some #[.int .u8 k,.int .u8 at_,.int .u8 0,.int .i64 pos,.slice ao n c,.string s]:=by kernel_rfl
theorem Hg (k at_ pos na:Int) (ao:Option Addr) (n c:Nat) (s:ByteArray):Tryz.prog.built 50 [(0,.int .u8 k),(1,.int .u8 at_),(3,.int .i64 pos),(4,.slice ao n c),(5,.string s),(2,.int .u8 na)] = some #[.int .u8 k,.int .u8 at_,.int .u8 na,.int .i64 pos,.slice ao n c,.string s]:=by kernel_rfl
theorem AM (cs:List Value) (h:cs.length = 6):(Tryz.prog.info? 50).map (·.size) = some cs.length:=by rw [h]; kernel_rfl
theorem L2 (a b c d e f:Value):(Tryz.prog.info? 50).map (·.size) = some [a,b,c,d,e,f].toArray.size:=by kernel_rfl
theorem RP:(Tryz.prog.info? 22).map (·.size) = some 1:=by kernel_rfl
theorem Ad {N q:Nat} {w1 w2:World} (hg:w1.grownBy w2 (some q)) (hq:N≤q) (hs:N≤w1.heap.size):Below N w1 w2:=
 ⟨hg.os,hg.tape,hg.output,hg.size,fun k hk=>hg.block k (by omega) (fun e=>by injection e with e; omega)⟩
theorem Be {p:Option Nat} {w0 w1 w2:World} (h:w0.grownBy w1 p) (k:w1.grownBy w2 p):w0.grownBy w2 p:=
 ⟨k.os.trans h.os,k.tape.trans h.tape,k.output.trans h.output,Nat.le_trans h.size k.size,fun j hj hne=>(k.block j (by have:=h.size; omega) hne).trans (h.block j hj hne)⟩
theorem BN {q:Nat} {w w':World} {ad:Addr} {v:Value} (hg:w.grownBy w' (some q)) (hc:w.cell? ad = some v) (hne:ad.block≠q):w'.cell? ad = some v:=
 (World.cell?_of_block (hg.block ad.block (World.block_lt_of_cell? w ad hc) (fun e=>by injection e with e; exact hne e))).trans hc
theorem RowAt.grown {w w':World} {q k:Nat} {cs:List Value} (h:RowAt w q cs) (hg:w.grownBy w' (some k)) (hq:q < w.heap.size) (hne:q≠k):RowAt w' q cs:=h.kept (hg.block q hq (fun e=>by injection e with e; exact hne e))
theorem RowAt.belowN {w w':World} {q N:Nat} {cs:List Value} (h:RowAt w q cs) (hb:Below N w w') (hq:q < N):RowAt w' q cs:=h.kept (hb.block q hq)
theorem View.grown {w w':World} {g k:Nat} {v:Value} {l:List UInt8} (h:View w g v l) (hg:w.grownBy w' (some k)) (hl:g < w.heap.size) (hne:g≠k):View w' g v l:=h.kept (hg.block g hl (fun e=>by injection e with e; exact hne e))
theorem BI {B q:Nat} {w0 w1 w2:World} (h:Below B w0 w1) (hg:w1.grownBy w2 (some q)) (hq:B≤q) (hB:B≤w1.heap.size):Below B w0 w2:=
 ⟨hg.os.trans h.os,hg.tape.trans h.tape,hg.output.trans h.output,Nat.le_trans h.size hg.size,fun k hk=>(hg.block k (by omega) (fun e=>by injection e with e; omega)).trans (h.block k hk)⟩
theorem ret2 {N:Nat} {a:Act} {l:List (Nat × Value)} {w:World} {fn:Func} {t u:Tmp} {q:Nat} {c0 c1 c2 c3 c4 c5 e:Value} {R:Ending→World→Prop} (hres:fn.results = #[.cell t 50,.tmp u])
  (H:Has N [] a l) (h1:Bh l t = some (.pointer (some ⟨q,0,none⟩))) (h2:Bh l u = some e) (hr:RowAt w q [c0,c1,c2,c3,c4,c5]) (hR:R (.returned (.tuple #[.agg #[c0,c1,c2,c3,c4,c5],e])) w):bodyPost Tryz.prog fn R .ret a w:=by
 have e1:=H.get t _ h1;have e2:=H.get u _ h2
 have h3:a.tmps.getD u undef = e:=by simp [e2]
 have:=D7 (P:=Tryz.prog) (u:=u) hres a.tmps w q [c0,c1,c2,c3,c4,c5] _ (by simp [e1]) hr Tryz.underlying50 (by rfl) (by kernel_rfl);rw [h3] at this;exact bodyPost_ret_by this H.defers hR
def Qm (B p g:Nat) (bs:List UInt8) (vr ve vst vo vi:Value) (s:DT) (w:World) (o:Option (TT × Nat)) (e:Ending) (w':World):Prop:=match o with
 | none=>e = .returned (.tuple #[Mp,.bool false])∧DW B p g bs vr ve vst vo vi s w'∧w.grownBy w' (some p)
 | some (t,k)=>∃ vt vi',e = .returned (.tuple #[EL vt t,.bool true])∧View w' g vt t.raw∧DW B p g bs vr ve vst vo vi' { s with k:=k } w'∧w.grownBy w' (some p)
def MI (B p g:Nat) (bs:List UInt8) (vr ve vst vo:Value) (s:DT) (w:World) (o:Option (TT × Nat)) (e:Ending) (w':World):Prop:=match o with
 | none=>(∃ t x,e = .returned (.tuple #[Mp,.iface t x]))∧(∃ vi' k,DW B p g bs vr ve vst vo vi' { s with k:=k } w')∧w.grownBy w' (some p)
 | some (t,k)=>∃ vt vi',e = .returned (.tuple #[EL vt t,.nilIface])∧View w' g vt t.raw∧DW B p g bs vr ve vst vo vi' { s with k:=k } w'∧w.grownBy w' (some p)
end
section
open Go.ChangeShapes Go.WideShapes Go.ChangeAt Go.RowKit
theorem Has.enter3 {M:Nat} (v u x:Value) (hM:Nat.blt 2 M = true):Has M [] { tmps:=#[v,u,x]++Array.replicate (M - (#[v,u,x]:Array Value).size) undef,defers:=[] } [(0,v),(1,u),(2,x)] where
 size:=by
  have:2 < M:=by simpa [Nat.blt_eq] using hM
  simp; omega
 defers:=rfl
 get:=by
  have h:∀ k y,Bh [(0,v),(1,u),(2,x)] k = some y→(#[v,u,x]:Array Value)[k]? = some y:=by
   intro k y hk
   match k,hk with
   | 0,hk=>exact hk
   | 1,hk=>exact hk
   | 2,hk=>exact hk
   | k+3,hk=>cases hk
  intro k y hk;have h1:=h k y hk;have hlt:k < (#[v,u,x]:Array Value).size:=(Array.getElem?_eq_some_iff.1 h1).1;rw [Array.getElem?_append_left hlt];exact h1
theorem Qi {P:Program} {f:FuncId} {fn:Func} {c:Code} {M:Nat} {R:Ending→World→Prop} {w:World} {u:FrameMode} {v x y:Value} (hf:P.funcs[f]? = some fn) (hb:fn.body = some c) (hn:fn.ntmps = M) (hM:Nat.blt 2 M = true) (h:∀ a,Has M [] a [(0,v),(1,x),(2,y)]→c.wp P (bodyPost P fn R) a w):CallsD P f #[v,x,y] u w fun e u' w'=>u' = u∧R e w':=
 callsD_of_wp hf hb (by rw [hn]; exact h _ (Has.enter3 v x y hM))
theorem Qj {P:Program} {f:FuncId} {fn:Func} {c:Code} {M:Nat} {R:Ending→World→Prop} {w:World} {u:FrameMode} {v:Value} (hf:P.funcs[f]? = some fn) (hb:fn.body = some c) (hn:fn.ntmps = M) (hM:Nat.blt 0 M = true) (h:∀ a,Has M [] a [(0,v)]→c.wp P (bodyPost P fn R) a w):CallsD P f #[v] u w fun e u' w'=>u' = u∧R e w':=
 callsD_of_wp hf hb (by rw [hn]; exact h _ (Has.enter1 v hM))
theorem Nr {P:Program} {f:FuncId} {fn:Func} {c:Code} {M:Nat} {R:Ending→World→Prop} {w:World} {v:Value} (hf:P.funcs[f]? = some fn) (hb:fn.body = some c) (hn:fn.ntmps = M) (hM:Nat.blt 0 M = true) (h:∀ a,Has M [] a [(0,v)]→c.wp P (bodyPostD P fn R) a w):Calls P f #[v] w R:=
 calls_of_wp_defers hf hb (by rw [hn]; exact h _ (Has.enter1 v hM))
section
variable {N:Nat} {D:List Deferred} {a:Act} {l:List (Nat × Value)} {P:Program} {L rest:List Oper} {Q:Exit→Act→World→Prop} {w:World} {d:Nat} {ty:TypeId} {pos:String} {af:Array Edge}
theorem KI {t:TypeId} {x:Operand} {v:Value} (hv:v.cells = #[v]) (H:Has N D a l) (hx:ev l x = some v) (hd:Nat.blt d N = true)
  (h:∀ w',RowAt w' w.heap.size [v]→Below w.heap.size w w'→w'.heap.size = w.heap.size+1→∀ a,Has N D a ((d,.pointer (some ⟨w.heap.size,0,none⟩))::l)→wpList P L.toArray Q rest a w'):wpList P L.toArray Q (⟨some d,.box t x,ty,pos,af,none⟩::rest) a w:=
 Cz H hd (w':=w.alloc (.cells #[v] t)) (v:=.pointer (some ⟨w.heap.size,0,none⟩)) (by have h1:=H.ev hx; simp [execOp,h1,Instr.box,newVar,newRow,hv,Result.andThen]) (h _ (BW (heap_alloc_new w _)) ((Below.refl _ w).alloc (Nat.le_refl _) _) (BP w _))
theorem IB {fn:Fn} {cap:List Operand} {vs:List Value} (H:Has N D a l) (hc:evs l cap = some vs) (hd:Nat.blt d N = true)
  (h:∀ a,Has N D a ((d,.func fn #[] vs.toArray)::l)→wpList P L.toArray Q rest a w):wpList P L.toArray Q (⟨some d,.makeFunc fn #[] cap.toArray,ty,pos,af,none⟩::rest) a w:=
 Cz H hd (by have h1:=H.evs hc; simp [execOp,Instr.makeFunc,h1]) h
end
section
variable {N:Nat} {D:List Deferred} {a:Act} {l:List (Nat × Value)} {L rest:List Oper} {Q:Exit→Act→World→Prop} {w:World} {d:Nat} {ty:TypeId} {pos:String} {af:Array Edge}
theorem Kt {x:Operand} {v:Value} {b:Bool} (H:Has N D a l) (hx:ev l x = some v) (hb:(v = .nilIface∧b = true)∨(∃ te xe,v = .iface te xe∧b = false)) (hd:Nat.blt d N = true)
  (h:∀ a,Has N D a ((d,.bool b)::l)→wpList Tryz.prog L.toArray Q rest a w):wpList Tryz.prog L.toArray Q (⟨some d,.binOp .eql 52 x (.const .nilIface) 52,ty,pos,af,none⟩::rest) a w:=
 Cz H hd (by
  have h1:=H.ev hx
  rcases hb with ⟨rfl,rfl⟩ | ⟨te,xe,rfl,rfl⟩ <;> (simp only [execOp,h1]; simp [go_sem])) h
end
theorem A7:Dq Tryz.prog 43:=fun w=>by simp [isAgg,Sem.run_bind,go_sem]
theorem Rl:Hj Tryz.prog 52 #[.nilIface]:=fun w=>by simp [go_sem,Instr.alloc,newVar,newRow]
theorem EH:(Tryz.prog.info? 52).map (·.size) = some 1:=by kernel_rfl
theorem u8_size:(Tryz.prog.info? 5).map (·.size) = some 1:=by kernel_rfl
theorem SQ:B9 Tryz.prog 50 1 1:=fun p w=>by simp [go_sem,Instr.fieldAt]
theorem J0:B9 Tryz.prog 50 0 0:=fun p w=>by simp [go_sem,Instr.fieldAt]
theorem GW:B9 Tryz.prog 59 0 0:=fun p w=>by simp [go_sem,Instr.fieldAt]
theorem Dm:B9 Tryz.prog 59 1 1:=fun p w=>by simp [go_sem,Instr.fieldAt]
theorem Gl:B9 Tryz.prog 59 2 7:=fun p w=>by simp [go_sem,Instr.fieldAt]
theorem J9 {fn:Func} {t u:Tmp} (h:fn.results = #[.cell t 50,.cell u 52]) (tmps:Array Value) (w:World) (q k:Nat) (c0 c1 c2 c3 c4 c5 v:Value)
  (hp:tmps.getD t undef = .pointer (some ⟨q,0,none⟩)) (hu:tmps.getD u undef = .pointer (some ⟨k,0,none⟩)) (hc:RowAt w q [c0,c1,c2,c3,c4,c5]) (hv:w.cell? ⟨k,0,none⟩ = some v) :
  (results fn tmps).run Tryz.prog w = .ok (.tuple #[.agg #[c0,c1,c2,c3,c4,c5],v]) w:=by
 have h1:=FW (P:=Tryz.prog) w q 0 50 [c0,c1,c2,c3,c4,c5] _ (fun j u hu=>by rw [Nat.zero_add]; exact (hc j u hu).1) Tryz.underlying50 (by rfl) (by kernel_rfl)
 have h2:(loadVar 52 ⟨k,0,none⟩).run Tryz.prog w = .ok v w:=by
  have h3:=CG w;simp [loadVar,Sem.run_bind,h3,hv,Result.andThen]
 have hp':tmps[t]?.getD undef = .pointer (some ⟨q,0,none⟩):=by simpa using hp
 have hu':tmps[u]?.getD undef = .pointer (some ⟨k,0,none⟩):=by simpa using hu
 simp [results,h,hp',hu',asAddr,h1,h2,Result.andThen]
theorem pf_try:AD Tryz.prog 50:=⟨_,Tryz.func50,by kernel_rfl,by kernel_rfl⟩
end
section
open Go.ChangeShapes Go.WideShapes Go.ChangeAt Go.RowKit
theorem RowAt.gr {w w':World} {q k:Nat} {cs:List Value} (h:RowAt w q cs) (hg:w.grownBy w' (some k)) (hq:q < w.heap.size:=by omega) (hne:q≠k:=by omega):RowAt w' q cs:=h.grown hg hq hne
theorem RowAt.bl {w w':World} {q:Nat} {cs:List Value} (h:RowAt w q cs) (hb:Below w.heap.size w w') (hq:q < w.heap.size:=by omega):RowAt w' q cs:=h.below hq hb
theorem View.kg {w w':World} {g q:Nat} {v:Value} {l:List UInt8} (h:View w g v l) (hg:w.grownBy w' (some q)) (h1:g < w.heap.size:=by omega) (h2:g≠q:=by omega):View w' g v l:=h.grown hg h1 h2
theorem DStep.tR {p q:Nat} {v1 v2:Value} {w w1 w2:World} (h:DStep p v1 w v2 w1) (hg:w1.grownBy w2 (some q)) (hq:w.heap.size≤q:=by omega):DStep p v1 w v2 w2:=
 ⟨hg.os.trans h.os,hg.tape.trans h.tape,hg.output.trans h.output,Nat.le_trans h.size hg.size,fun k hk h1 h2=>(hg.block k (Nat.lt_of_lt_of_le hk h.size) (fun e=>by injection e with e; omega)).trans (h.block k hk h1 h2),h.lies⟩
theorem DStep.tB {p:Nat} {v1 v2:Value} {w w1 w2:World} (h:DStep p v1 w v2 w1) (hb:Below w1.heap.size w1 w2):DStep p v1 w v2 w2:=DStep.trans h (DStep.of_below hb)
theorem DStep.tG {p:Nat} {v1 v2:Value} {w w1 w2:World} (h:DStep p v1 w v2 w1) (hg:w1.grownBy w2 (some p)):DStep p v1 w v2 w2:=DStep.trans h (DStep.of_grown hg)
section
variable {B p g:Nat} {bs:List UInt8} {vr ve vst vo vi:Value} {s:DT} {w:World}
theorem DW.gO {q:Nat} {w':World} (h:DW B p g bs vr ve vst vo vi s w) (hg:w.grownBy w' (some q)) (h3:vst.ownBlock≠some q) (h1:p≠q:=by omega) (h2:g≠q:=by omega) (h4:9≤q:=by omega):DW B p g bs vr ve vst vo vi s w':=
 h.kept hg.size (hg.block p h.lt (fun e=>by injection e with e; exact h1 e)) (hg.block g h.gl (fun e=>by injection e with e; exact h2 e)) (World.ownsRow.kept h.own hg (.inr h3)) (fun k hk h9=>hg.block k hk (fun e=>by injection e with e; omega))
end
section
variable {N:Nat} {D:List Deferred} {a:Act} {l:List (Nat × Value)} {L rest:List Oper} {Q:Exit→Act→World→Prop} {w:World} {d:Nat} {ty:TypeId} {pos:String} {af:Array Edge}
theorem zT {x y:Operand} {q:Nat} {c0 c1 c2 c3 c4 c5:Value} {cs:List Value} (H:Has N D a l) (hx:ev l x = some (.pointer (some ⟨q,0,none⟩))) (hy:ev l y = some (.agg [c0,c1,c2,c3,c4,c5].toArray)) (hr:RowAt w q cs)
  (h:∀ {w'},RowAt w' q [c0,c1,c2,c3,c4,c5]→w.grownBy w' (some q)→wpList Tryz.prog L.toArray Q rest a w') (hl:[c0,c1,c2,c3,c4,c5].length = cs.length:=by rfl) (h1:([c0,c1,c2,c3,c4,c5]:List Value).toArray.all (·.oneCell') = true:=by simp [Value.oneCell']):wpList Tryz.prog L.toArray Q (⟨none,.store 50 x y,ty,pos,af,none⟩::rest) a w:=
 AJ H hx hy hr hl (L2 _ _ _ _ _ _) h1 fun _ hr hg=>h hr hg
theorem zI {x i:Operand} {g:Nat} {v:Value} {bs:List UInt8} {k:IntKind} {n:Int} {c:UInt8} (H:Has N D a l) (hx:ev l x = some v) (hi:evN N d l i = some (.int k n)) (hv:View w g v bs) (hc:bs[n.toNat]? = some c)
  (h:∀ {a ad},Has N D a ((d,.pointer (some ad))::l)→w.cell? ad = some (.int .u8 (c.toNat:Int))→wpList Tryz.prog L.toArray Q rest a w) (h0:0≤n:=by decide):wpList Tryz.prog L.toArray Q (⟨some d,.indexAddr 22 x i,ty,pos,af,none⟩::rest) a w:=
 Rs Tryz.underlying22 Af H hx (D2 hi) hv h0 hc (DP hi) fun _ _ H hc=>h H hc
theorem zR {w':World} {P:Program} {v:Value} (h:∀ {a},Has N D a ((d,v)::l)→wpList P L.toArray Q rest a w'):∃ x,Ending.returned v = .returned x∧∀ a,Has N D a ((d,x)::l)→wpList P L.toArray Q rest a w':=⟨v,rfl,fun _ H=>h H⟩
theorem AQ {fn:Func} {t u:Tmp} {q:Nat} {c0 c1 c2 c3 c4 c5 e:Value} {R:Ending→World→Prop} (H:Has N [] a l) (h1:Bh l t = some (.pointer (some ⟨q,0,none⟩))) (h2:Bh l u = some e) (hr:RowAt w q [c0,c1,c2,c3,c4,c5]) (hR:R (.returned (.tuple #[.agg #[c0,c1,c2,c3,c4,c5],e])) w) (hres:fn.results = #[.cell t 50,.tmp u]:=by rfl):bodyPost Tryz.prog fn R .ret a w:=ret2 hres H h1 h2 hr hR
end
end
section
structure TX where
 kind:Nat
 nk:Nat
 pos:Nat
 sep:Bool
 raw:List UInt8
 str:List UInt8
structure WS where
 k:Nat
 out:List UInt8
 l:List TX
 left:Nat
def EB:List (List UInt8):=[[48],[49],[57],[53,51,54,56,55,48,57,49,49],[50,49,52,55,52,56,51,54,52,55],[49,53]]
def Fs:List (List UInt8):=[[97],[98,95,49],[78,97,109,101],[95,120],[116,114,117,101],[105,110,102],[110,97,110],[102],[101,53],[120,48,70],[122,57,122]]
def FV:List (List UInt8):=[[44],[59]]
def IU:List (List UInt8):=[[116,114,117,101],[102,97,108,115,101],[116],[102],[84,114,117,101],[105,110,102],[45,105,110,102],[73,110,102,105,110,105,116,121],[45,73,78,70,73,78,73,84,89],[110,97,110],[78,97,78],[65,95,66],[95],[120,49],[101]]
def Di:List (List UInt8):=[[],[],[32],[10],[35,32,120,10]]
def Fb:List (List UInt8):=[[48],[49],[55],[49,48],[50,53,53],[50,49,52,55,52,56,51,54,52,55],[50,49,52,55,52,56,51,54,52,56],[52,50,57,52,57,54,55,50,57,53],[52,50,57,52,57,54,55,50,57,54],[57,50,50,51,51,55,50,48,51,54,56,53,52,55,55,53,56,48,55],[57,50,50,51,51,55,50,48,51,54,56,53,52,55,55,53,56,48,56],[49,56,52,52,54,55,52,52,48,55,51,55,48,57,53,53,49,54,49,53],[49,56,52,52,54,55,52,52,48,55,51,55,48,57,53,53,49,54,49,54],[49,50,51,52,53,54,55,56,57,48,49,50,51,52,53,54,55,56,57,48,49,50,51,52,53,54,55,56,57,48]]
def E8:List (List UInt8):=[[48,120,48],[48,88,49],[48,120,102,102],[48,88,97,98,67,68],[48,120,102,102,102,102,102,102,102,102,102,102,102,102,102,102,102,102],[48,120,49,48,48,48,48,48,48,48,48,48,48,48,48,48,48,48,48],[48,120,48,48,48,48,48,48,48,48,48,48,48,48,48,48,48,48,48,48,48,49]]
def E0:List (List UInt8):=[[48,48],[48,49],[48,55],[48,51,55,55],[48,49,55,55,55,55,55,55,55,55,55,55,55,55,55,55,55,55,55,55,55,55,55],[48,50,48,48,48,48,48,48,48,48,48,48,48,48,48,48,48,48,48,48,48,48,48],[48,48,48,48]]
def Ei:List (List UInt8):=[[48,46,48],[49,46],[46,53],[49,46,53],[48,46,50,53],[49,50,46,55,53],[51]]
def EG:List (List UInt8):=[[],[],[101,48],[69,53],[101,43,49,48],[69,45,51]]
def EU:List (List UInt8):=[[],[102],[70]]
def Gv:List (List UInt8):=[[92,97],[92,98],[92,102],[92,110],[92,114],[92,116],[92,118],[92,63],[92,92],[92,39],[92,34]]
def Gz:List (List UInt8):=[[92,48],[92,51],[92,49,50],[92,49,48,49],[92,51,55,55],[92,48,48,48]]
def GB:List (List UInt8):=[[92,120,48],[92,120,52,49],[92,120,102,102],[92,120,65],[92,120,55,102]]
def Gs:List (List UInt8):=[[92,117,48,48,52,49],[92,117,48,48,101,57],[92,117,50,48,97,99],[92,117,102,102,102,100],[92,85,48,48,48,49,102,54,48,48],[92,85,48,48,49,48,70,70,70,70],[92,85,48,48,48,48,48,48,48,48]]
def Gw:List (List UInt8):=[[195,169],[226,130,172],[240,159,152,128],[9],[35],[123]]
def D0:List (List UInt8):=[[32],[10],[9,32],[13,10],[32,35,32,97,32,114,101,109,97,114,107,58,32,123,32,91,32,34,10],[35,10,32,10]]
def Fi:List (List UInt8):=[[],[32],[],[10,32,32],[9],[32,35,32,120,10]]
def Ch:List (List (List UInt8)):=[[[97],[46],[98]],[[116,121,112,101,46,101,120,97,109,112,108,101,46,99,111,109],[47],[120],[46],[89]],[[113]],[[117,126,49,36,38,43],[47],[112],[47],[110,45,49],[46],[50]],[[104,37,50,70,120],[47],[110]]]
section
variable (ps:List UInt8)
def Ah (k n:Nat):Nat:=match ps.drop k with
 | []=>0
 | c::_=>c.toNat % n
def Iw (k:Nat):Nat:=if k < ps.length then k+1 else k
def Ab (s:WS):WS:={ s with k:=Iw ps s.k }
def AU (x:List UInt8) (s:WS):WS:={ s with out:=s.out++x }
def BH (tab:List (List UInt8)) (s:WS):WS:={ s with k:=Iw ps s.k,out:=s.out++tab.getD (Ah ps s.k tab.length) [] }
def Al (some:Bool) (s:WS):WS:=if some then BH ps D0 s else BH ps Fi s
def Cp (kind from_:Nat) (s:WS):WS:={ s with l:=s.l++[⟨kind,0,from_,false,s.out.drop from_,[]⟩] }
def F6 (s:WS):WS:={ s with l:=s.l.dropLast++(match s.l.getLast? with
 | none=>[]
 | some t=>[{ t with sep:=true }]) }
def C7:List (List UInt8)→List UInt8→WS→List UInt8 × WS
 | [],str,s=>(str,s)
 | x::l,str,s=>C7 l (str++x) (if x = [46]∨x = [47] then Al ps false (AU x s) else AU x s)
def DD (s:WS):List UInt8 × WS:=
 let r:=C7 ps (Ch.getD (Ah ps s.k 5) []) [] (Al ps false (AU [91] (Ab ps s)))
 (r.1,AU [93] (Al ps false r.2))
def Nw (kind nk from_:Nat) (str:List UInt8) (s:WS):WS:={ s with l:=s.l++[⟨kind,nk,from_,false,s.out.drop from_,str⟩] }
def DG (s:WS):WS:=
 let n:=Ah ps s.k 6
 let s1:=Ab ps s
 if n = 4 then (let s2:=BH ps EB s1; Nw 2 3 s.out.length (s2.out.drop s.out.length) s2)
 else if n = 5 then (let r:=DD ps s1; Nw 2 2 s.out.length r.1 r.2)
 else let s2:=BH ps Fs s1; Nw 2 1 s.out.length (s2.out.drop s.out.length) s2
def BD (s:WS):WS:=
 let s1:=if Ah ps s.k 3 = 2 then BH ps Di (AU [45] (Ab ps s)) else Ab ps s
 let n:=Ah ps s1.k 4
 let s2:=Ab ps s1
 if n = 0 then BH ps Fb s2 else if n = 1 then BH ps E8 s2 else if n = 2 then BH ps E0 s2
 else BH ps EU (BH ps EG (BH ps Ei s2))
def BC (q:Nat) (s:WS):WS:=
 let n:=Ah ps s.k 6
 let s1:=Ab ps s
 if n = 0 then (let c:=32+Ah ps s1.k 95; AU [UInt8.ofNat (if c = q∨c = 92 then 113 else c)] (Ab ps s1))
 else if n = 1 then BH ps Gv s1 else if n = 2 then BH ps Gz s1 else if n = 3 then BH ps GB s1 else if n = 4 then BH ps Gs s1 else BH ps Gw s1
def Dp (q:Nat):Nat→WS→WS
 | 0,s=>s
 | n+1,s=>Dp q n (BC ps q s)
def Ex (s:WS):WS:=
 let q:=if 0 < Ah ps s.k 2 then 39 else 34
 let s1:=AU [UInt8.ofNat q] (Ab ps s)
 AU [UInt8.ofNat q] (Dp ps q (Ah ps s1.k 8) (Ab ps s1))
def Gb:Nat→WS→WS
 | 0,s=>s
 | n+1,s=>Gb n (if 1 < n+1 then Al ps false (Ex ps s) else Ex ps s)
def Bn (s:WS):WS:=
 let n:=Ah ps s.k 5
 let s1:=Ab ps s
 Cp 3 s.out.length (if n = 0∨n = 1 then BD ps s1 else if n = 2 then BH ps IU s1 else Gb ps (1+Ah ps s1.k 3) (Ab ps s1))
def B8 (inner:WS→WS) (s:WS):WS:=
 let a:=0 < Ah ps s.k 2
 let s1:=AU [if a then 60 else 123] (Ab ps s)
 let s2:=AU [if a then 62 else 125] (inner (Al ps false (Cp 4 (s1.out.length - 1) s1)))
 Cp 5 (s2.out.length - 1) s2
def listL (inner:WS→WS) (deep:Nat):Nat→WS→WS
 | 0,s=>s
 | n+1,s=>if s.left = 0 then s else
  let s1:WS:={ s with left:=s.left - 1 }
  let s2:=if deep < 8 then (if Ah ps s1.k 3 = 2 then B8 ps inner (Ab ps s1) else Bn ps (Ab ps s1)) else Bn ps s1
  let s3:=Al ps false s2
  listL inner deep n (if 1 < n+1∧0 < s3.left then Al ps false (AU [44] s3) else s3)
def GV (inner:WS→WS) (deep:Nat) (s:WS):WS:=
 let s1:=AU [91] s
 let s2:=Al ps false (Cp 6 (s1.out.length - 1) s1)
 let s3:=AU [93] (listL ps inner deep (Ah ps s2.k 5) (Ab ps s2))
 Cp 7 (s3.out.length - 1) s3
def Ek (inner:WS→WS) (deep:Nat) (s:WS):WS:=
 let s1:=Al ps false (DG ps s)
 let kind:=if 8 < deep then 0 else Ah ps s1.k 6
 let s2:=Ab ps s1
 let s3:=if kind < 4 then Al ps false (AU [58] (F6 s2)) else if 0 < Ah ps s2.k 2 then Al ps false (AU [58] (F6 (Ab ps s2))) else Ab ps s2
 let s4:=Al ps false (if kind = 4 then B8 ps inner s3 else if kind = 5 then GV ps inner deep s3 else Bn ps s3)
 if 0 < Ah ps s4.k 3 then Al ps false (BH ps FV (Ab ps s4)) else Al ps true (Ab ps s4)
def fieldsL (inner:WS→WS) (deep:Nat):Nat→WS→WS
 | 0,s=>s
 | f+1,s=>if s.left = 0∨ps.length≤s.k then s else if Ah ps s.k 5 = 0 then Ab ps s
  else fieldsL inner deep f (Ek ps inner deep { Ab ps s with left:=s.left - 1 })
def fieldsW:Nat→Nat→WS→WS
 | 0,_,s=>s
 | d+1,deep,s=>fieldsL ps (fieldsW d (deep+1)) deep s.left s
def B0:WS:=fieldsW ps 10 0 (Al ps false ⟨0,[],[],300⟩)
end
end
section
open Go.ChangeShapes Go.WideShapes Go.ChangeAt Go.RowKit
def CF (t:TX):List Value:=[.int .i64 (t.kind:Int),.int .i64 (t.nk:Int),.int .i64 (t.pos:Int),.bool t.sep,.string ⟨t.raw.toArray⟩,.string ⟨t.str.toArray⟩]
def OwnQ (w:World) (B:Nat) (v:Value) (l:List TX):Prop:=w.ownsRow B 27 6 v l.length (l.flatMap CF)
theorem OwnQ.slice {w:World} {B:Nat} {v:Value} {l:List TX} (h:OwnQ w B v l):∃ ao c,v = .slice ao l.length c:=DM h
theorem OwnQ.below {w w':World} {B:Nat} {v:Value} {l:List TX} (h:OwnQ w B v l) (hb:Below w.heap.size w w'):OwnQ w' B v l:=
 World.ownsRow.kept h (row:=none) ⟨hb.os,hb.tape,hb.output,hb.size,fun k hk _=>hb.block k hk⟩ (by cases v.ownBlock <;> simp)
structure TW (B p g:Nat) (ps:List UInt8) (vp vo vl:Value) (s:WS) (w:World):Prop where
 row:RowAt w p [vp,.int .i64 (s.k:Int),vo,vl,.int .i64 (s.left:Int)]
 out:OwnB w B 5 vo s.out
 l:OwnQ w B vl s.l
 v:View w g vp ps
 hp:B≤p
 hg:g < B
 no:vo.ownBlock≠some p
 nl:vl.ownBlock≠some p
 ol:∀ k,vo.ownBlock = some k→vl.ownBlock≠some k
structure WStep (p:Nat) (vo vl:Value) (w:World) (vo' vl':Value) (w':World):Prop where
 os:w'.os = w.os
 tape:w'.tape = w.tape
 output:w'.output = w.output
 size:w.heap.size≤w'.heap.size
 block:∀ k,k < w.heap.size→k≠p→vo.ownBlock≠some k→vl.ownBlock≠some k→w'.heap[k]? = w.heap[k]?
 lo:∀ k,vo'.ownBlock = some k→vo.ownBlock = some k∨w.heap.size≤k
 ll:∀ k,vl'.ownBlock = some k→vl.ownBlock = some k∨w.heap.size≤k
section
variable {B p g:Nat} {ps:List UInt8} {vp vo vl:Value} {s:WS} {w:World}
theorem WStep.of_grown {w':World} (h:w.grownBy w' (some p)):WStep p vo vl w vo vl w':=
 ⟨h.os,h.tape,h.output,h.size,fun k hk h1 _ _=>h.block k hk (fun e=>h1 (by injection e)),fun _ h=>.inl h,fun _ h=>.inl h⟩
theorem WStep.of_below {w':World} (h:Below w.heap.size w w'):WStep p vo vl w vo vl w':=WStep.of_grown (Bu h _)
theorem WStep.refl (p:Nat) (vo vl:Value) (w:World):WStep p vo vl w vo vl w:=WStep.of_below (Below.refl _ _)
theorem WStep.trans {vo1 vl1 vo2 vl2:Value} {w1 w2:World} (h:WStep p vo vl w vo1 vl1 w1) (k:WStep p vo1 vl1 w1 vo2 vl2 w2):WStep p vo vl w vo2 vl2 w2:=by
 have hs:=h.size;refine ⟨k.os.trans h.os,k.tape.trans h.tape,k.output.trans h.output,Nat.le_trans h.size k.size,fun j hj h1 h2 h3=>?_,fun j hj=>?_,fun j hj=>?_⟩
 ·rw [k.block j (by omega) h1 (fun e=>by rcases h.lo j e with e | e; exact h2 e; omega) (fun e=>by rcases h.ll j e with e | e; exact h3 e; omega)];exact h.block j hj h1 h2 h3
 ·rcases k.lo j hj with e | e
  ·exact h.lo j e
  ·exact .inr (by omega)
 ·rcases k.ll j hj with e | e
  ·exact h.ll j e
  ·exact .inr (by omega)
theorem TW.lt (h:TW B p g ps vp vo vl s w):p < w.heap.size:=World.block_lt_of_cell? w _ (h.row 0 _ rfl).1
theorem TW.base (h:TW B p g ps vp vo vl s w):B≤w.heap.size:=by have:=h.lt; have:=h.hp; omega
theorem TW.gp (h:TW B p g ps vp vo vl s w):g≠p:=by have:=h.hg; have:=h.hp; omega
theorem TW.gl (h:TW B p g ps vp vo vl s w):g < w.heap.size:=by have:=h.hg; have:=h.base; omega
theorem TW.outLt (h:TW B p g ps vp vo vl s w):∀ k,vo.ownBlock = some k→B≤k∧k < w.heap.size:=fun k hk=>World.ownsRow.lt h.out k hk
theorem TW.lLt (h:TW B p g ps vp vo vl s w):∀ k,vl.ownBlock = some k→B≤k∧k < w.heap.size:=fun k hk=>World.ownsRow.lt h.l k hk
theorem WStep.low {vo' vl':Value} {w':World} (k:WStep p vo vl w vo' vl' w') (h:TW B p g ps vp vo vl s w):Below B w w':=
 ⟨k.os,k.tape,k.output,k.size,fun j hj=>k.block j (by have:=h.base; omega) (by have:=h.hp; omega) (fun e=>by have:=(h.outLt j e).1; omega) (fun e=>by have:=(h.lLt j e).1; omega)⟩
theorem TW.kept {w':World} (h:TW B p g ps vp vo vl s w) (hp:w'.heap[p]? = w.heap[p]?) (hg:w'.heap[g]? = w.heap[g]?) (ho:OwnB w' B 5 vo s.out) (hl:OwnQ w' B vl s.l):TW B p g ps vp vo vl s w':=
 { h with row:=h.row.kept hp,out:=ho,l:=hl,v:=h.v.kept hg }
theorem TW.below {w':World} (h:TW B p g ps vp vo vl s w) (hb:Below w.heap.size w w'):TW B p g ps vp vo vl s w':=
 h.kept (hb.block p h.lt) (hb.block g h.gl) (World.ownsRow.kept h.out (row:=none) ⟨hb.os,hb.tape,hb.output,hb.size,fun k hk _=>hb.block k hk⟩ (by cases vo.ownBlock <;> simp)) (h.l.below hb)
theorem TW.grownOther {q:Nat} {w':World} (h:TW B p g ps vp vo vl s w) (hg:w.grownBy w' (some q)) (h1:p≠q) (h2:g≠q) (h3:vo.ownBlock≠some q) (h4:vl.ownBlock≠some q):TW B p g ps vp vo vl s w':=
 h.kept (hg.block p h.lt (fun e=>by injection e with e; exact h1 e)) (hg.block g h.gl (fun e=>by injection e with e; exact h2 e)) (World.ownsRow.kept h.out hg (.inr h3)) (World.ownsRow.kept h.l hg (.inr h4))
theorem TW.fresh {q:Nat} (h:TW B p g ps vp vo vl s w) (hq:w.heap.size≤q):vo.ownBlock≠some q∧vl.ownBlock≠some q:=⟨fun e=>by have:=(h.outLt _ e).2; omega,fun e=>by have:=(h.lLt _ e).2; omega⟩
theorem TW.drew (h:TW B p g ps vp vo vl s w):TW B p g ps vp vo vl s w.drew:=h.below (Below.refl _ _).drew
theorem TW.drewN (h:TW B p g ps vp vo vl s w) (n:Nat):TW B p g ps vp vo vl s (w.drewN n):=h.below ⟨rfl,rfl,rfl,Nat.le_refl _,fun _ _=>rfl⟩
theorem TW.reset {w':World} {s':WS} (h:TW B p g ps vp vo vl s w) (hg:w.grownBy w' (some p)) (hrow:RowAt w' p [vp,.int .i64 (s'.k:Int),vo,vl,.int .i64 (s'.left:Int)]) (ho:s'.out = s.out) (hl:s'.l = s.l):TW B p g ps vp vo vl s' w':=
 { h with row:=hrow,out:=by rw [ho]; exact World.ownsRow.kept h.out hg (.inr h.no),l:=by rw [hl]; exact World.ownsRow.kept h.l hg (.inr h.nl),v:=h.v.kept (hg.block g h.gl (fun e=>by injection e with e; exact h.gp e)) }
theorem TW.pick (h:TW B p g ps vp vo vl s w) (k:Nat):TW B p g ps vp vo vl { s with k:=k } (w.setCell ⟨p,1,none⟩ (.int .i64 (k:Int))):=
 h.reset (Ay w p 1 _) (h.row.set 1 (by simp) _) rfl rfl
theorem TW.spend (h:TW B p g ps vp vo vl s w) (k:Nat):TW B p g ps vp vo vl { s with left:=k } (w.setCell ⟨p,4,none⟩ (.int .i64 (k:Int))):=
 h.reset (Ay w p 4 _) (h.row.set 4 (by simp) _) rfl rfl
theorem TW.put {w':World} {v':Value} {bs:List UInt8} (h:TW B p g ps vp vo vl s w) (ha:Appd w B 5 vo v' bs w') :
  TW B p g ps vp v' vl { s with out:=bs } (w'.setCell ⟨p,2,none⟩ v')∧WStep p vo vl w v' vl (w'.setCell ⟨p,2,none⟩ v'):=by
 have hlt:=h.lt;have hpb:w'.heap[p]? = w.heap[p]?:=ha.grown.block p hlt (fun e=>h.no e.symm);have hgb:w'.heap[g]? = w.heap[g]?:=ha.grown.block g h.gl (fun e=>by have:=(h.outLt g e.symm).1; have:=h.hg; omega)
 have hnp:v'.ownBlock≠some p:=by
  rcases ha.lies with e | e
  ·rw [e]; exact h.no
  ·rw [e]; intro e2; simp at e2; omega
 have hl:OwnQ w' B vl s.l:=World.ownsRow.kept h.l ha.grown (by
  cases hk:vl.ownBlock with
  | none=>exact .inl rfl
  | some k=>exact .inr (fun e=>h.ol k e.symm hk))
 have hsz:=ha.grown.size
 refine ⟨{
  row:=(h.row.kept hpb).set 2 (by simp) v'
  out:=World.ownsRow.kept ha.own (Ay w' p 2 _) (.inr hnp)
  l:=World.ownsRow.kept hl (Ay w' p 2 _) (.inr h.nl)
  v:=(h.v.kept hgb).kept (Below.heap_setCell w' _ _ g (by simpa using h.gp))
  hp:=h.hp
  hg:=h.hg
  no:=hnp
  nl:=h.nl
  ol:=by
   intro k hk
   rcases ha.lies with e | e
   ·exact h.ol k (by rw [←e]; exact hk)
   ·rw [e] at hk
    injection hk with hk
    intro e2;have:=(h.lLt k e2).2
    omega },?_⟩
 refine ⟨ha.grown.os,ha.grown.tape,ha.grown.output,by simpa [World.setCell] using hsz,fun k hk h1 h2 _=>?_,fun k hk=>?_,fun k hk=>.inl hk⟩
 ·exact (Below.heap_setCell w' ⟨p,2,none⟩ v' k (fun e=>h1 (by simp [e]))).trans (ha.grown.block k hk (fun e=>h2 e.symm))
 ·rcases ha.lies with e | e
  ·exact .inl (by rw [←e]; exact hk)
  ·rw [e] at hk; injection hk with hk; exact .inr (by omega)
structure Appq (w:World) (B:Nat) (v v':Value) (l:List TX) (w':World):Prop where
 own:OwnQ w' B v' l
 grown:w.grownBy w' v.ownBlock
 lies:v'.ownBlock = v.ownBlock∨v'.ownBlock = some w.heap.size
theorem TW.add {w':World} {v':Value} {ls:List TX} (h:TW B p g ps vp vo vl s w) (ha:Appq w B vl v' ls w') :
  TW B p g ps vp vo v' { s with l:=ls } (w'.setCell ⟨p,3,none⟩ v')∧WStep p vo vl w vo v' (w'.setCell ⟨p,3,none⟩ v'):=by
 have hlt:=h.lt;have hpb:w'.heap[p]? = w.heap[p]?:=ha.grown.block p hlt (fun e=>h.nl e.symm);have hgb:w'.heap[g]? = w.heap[g]?:=ha.grown.block g h.gl (fun e=>by have:=(h.lLt g e.symm).1; have:=h.hg; omega)
 have hnp:v'.ownBlock≠some p:=by
  rcases ha.lies with e | e
  ·rw [e]; exact h.nl
  ·rw [e]; intro e2; simp at e2; omega
 have ho:OwnB w' B 5 vo s.out:=World.ownsRow.kept h.out ha.grown (by
  cases hk:vo.ownBlock with
  | none=>exact .inl rfl
  | some k=>exact .inr (fun e=>h.ol k hk e.symm))
 have hsz:=ha.grown.size
 refine ⟨{
  row:=(h.row.kept hpb).set 3 (by simp) v'
  out:=World.ownsRow.kept ho (Ay w' p 3 _) (.inr h.no)
  l:=World.ownsRow.kept ha.own (Ay w' p 3 _) (.inr hnp)
  v:=(h.v.kept hgb).kept (Below.heap_setCell w' _ _ g (by simpa using h.gp))
  hp:=h.hp
  hg:=h.hg
  no:=h.no
  nl:=hnp
  ol:=by
   intro k hk e2
   rcases ha.lies with e | e
   ·exact h.ol k hk (by rw [←e]; exact e2)
   ·rw [e] at e2
    injection e2 with e2
    have:=(h.outLt k hk).2
    omega },?_⟩
 refine ⟨ha.grown.os,ha.grown.tape,ha.grown.output,by simpa [World.setCell] using hsz,fun k hk h1 _ h2=>?_,fun k hk=>.inl hk,fun k hk=>?_⟩
 ·exact (Below.heap_setCell w' ⟨p,3,none⟩ v' k (fun e=>h1 (by simp [e]))).trans (ha.grown.block k hk (fun e=>h2 e.symm))
 ·rcases ha.lies with e | e
  ·exact .inl (by rw [←e]; exact hk)
  ·rw [e] at hk; injection hk with hk; exact .inr (by omega)
end
end
section
open Go.ChangeShapes Go.WideShapes Go.ChangeAt Go.RowKit
def PickedT (B p g:Nat) (ps:List UInt8) (vp vo vl:Value) (s:WS) (n:Nat) (w:World) (e:Ending) (w':World):Prop:=
 e = .returned (.int .i64 (Ah ps s.k n:Int))∧TW B p g ps vp vo vl { s with k:=Iw ps s.k } w'∧w.grownBy w' (some p)
set_option maxRecDepth 100000 in
set_option maxHeartbeats 4000000 in
theorem BG (B p g:Nat) (ps:List UInt8) (vp vo vl:Value) (s:WS) (n:Nat) (w:World) (h:TW B p g ps vp vo vl s w) (hn:0 < n) (hn2:n≤1000) (hps:ps.length≤2147483647) (hk:s.k≤ps.length) :
  Calls Tryz.prog 16 #[.pointer (some ⟨p,0,none⟩),.int .i64 (n:Int)] w (PickedT B p g ps vp vo vl s n w):=by
 obtain ⟨ao,cap,rfl,hlc,hcm,hn0,off,hao,hcell⟩:=h.v;obtain ⟨c0,f0⟩:=h.row 0 _ rfl;obtain ⟨c1,f1⟩:=h.row 1 _ rfl;have HH:=hid h
 by_cases hlt:s.k < ps.length
 ·have HV:Hid (Ah ps s.k n = ps[s.k].toNat % n):=hid (by unfold Ah; rw [List.drop_eq_getElem_cons hlt]);have HK:Hid (Iw ps s.k = s.k+1):=hid (by unfold Iw; rw [if_pos hlt])
  have hge:¬ ((ps.length:Int)≤(s.k:Int)):=by omega
  have cc:=hcell s.k hlt;have bd:=AW ps[s.k]
  have hw1:IntKind.i64.wrap ((s.k:Int)+1) = ((s.k+1:Nat):Int):=by rw [Ef _ (by omega) (by omega)]; omega
  obtain rfl:=hao (by intro e; rw [e] at hlt; simp at hlt);generalize ps[s.k] = x at *;clear h hao hcell hn0
  go_enter Tryz.func16,Tryz.ntmps16
  go_wp2_with fail
  go_quiet (fail)
  go_wp2_with fail
  have HW:Hid (TW B p g ps (.slice (some ⟨g,off,none⟩) ps.length cap) vo vl { s with k:=s.k+1 } ((w.drewN nq).setCell ⟨p,1,none⟩ (.int .i64 ((s.k:Int)+1)))):=hid (by have:=(HH.out.drewN nq).pick (s.k+1); exact this);have HG:Hid (w.grownBy ((w.drewN nq).setCell ⟨p,1,none⟩ (.int .i64 ((s.k:Int)+1))) (some p)):=hid (Cq (w0:=w) (w:=w.drewN nq) ⟨rfl,rfl,rfl,Nat.le_refl _,fun _ _ _=>rfl⟩ 1 _);have hcW:((w.drewN nq).setCell ⟨p,1,none⟩ (.int .i64 ((s.k:Int)+1))).cell? ⟨g,off+s.k,none⟩ = some (.int .u8 (x.toNat:Int)):=BN HG.out cc HH.out.gp;generalize (w.drewN nq).setCell ⟨p,1,none⟩ (.int .i64 ((s.k:Int)+1)) = W at *;obtain ⟨d0,_⟩:=HW.out.row 0 _ rfl;obtain ⟨d1,_⟩:=HW.out.row 1 _ rfl
  have hw2:IntKind.i64.wrap (((s.k+1:Nat):Int) - 1) = (s.k:Int):=by rw [Ef _ (by omega) (by omega)]; omega
  have hw3:IntKind.i64.wrap (x.toNat:Int) = (x.toNat:Int):=Ef _ (by omega) (by omega);clear c0 c1 cc f0 f1
  go_quiet (fail)
  go_wp2_with fail
  go_ret
  exact ⟨by rw [HV.out]; first | rfl | (congr 2; omega),by rw [HK.out]; exact HW.out.drewN _,HG.out.os,HG.out.tape,HG.out.output,HG.out.size,fun k h1 h2=>HG.out.block k h1 h2⟩
 ·have HV:Hid (Ah ps s.k n = 0):=hid (by unfold Ah; rw [List.drop_eq_nil_of_le (by omega)]);have HK:Hid (Iw ps s.k = s.k):=hid (by unfold Iw; rw [if_neg hlt])
  have hge:(ps.length:Int)≤(s.k:Int):=by omega
  clear h hao hcell hn0
  go_enter Tryz.func16,Tryz.ntmps16
  go_wp2_with fail
  go_quiet (fail)
  go_wp2_with fail
  go_ret
  exact ⟨by rw [HV.out]; try rfl,by rw [HK.out]; exact HH.out.drewN _,⟨rfl,rfl,rfl,Nat.le_refl _,fun _ _ _=>rfl⟩⟩
end
section
open Go.ChangeShapes Go.WideShapes Go.ChangeAt Go.RowKit
theorem DQ {fn:Func} {N:Nat} {a:Act} {l:List (Nat × Value)} {R:Ending→World→Prop} {w:World} (hres:fn.results = #[]) (H:Has N [] a l) (h:R (.returned (.tuple #[])) w):bodyPost Tryz.prog fn R .normal a w:=
 bodyPost_end (results_none hres _ _ _) H.defers h
theorem fld_w0:B9 Tryz.prog 39 0 0:=fun p w=>by simp [go_sem,Instr.fieldAt]
theorem fld_w1:B9 Tryz.prog 39 1 1:=fun p w=>by simp [go_sem,Instr.fieldAt]
theorem AV:B9 Tryz.prog 39 2 2:=fun p w=>by simp [go_sem,Instr.fieldAt]
theorem Ej:B9 Tryz.prog 39 3 3:=fun p w=>by simp [go_sem,Instr.fieldAt]
theorem IZ:B9 Tryz.prog 39 4 4:=fun p w=>by simp [go_sem,Instr.fieldAt]
theorem GR:Dq Tryz.prog 23:=fun w=>by simp [isAgg,Sem.run_bind,go_sem]
theorem Nb:Dq Tryz.prog 9:=fun w=>by simp [isAgg,Sem.run_bind,go_sem]
theorem Bq:(Tryz.prog.info? 22).map (·.size) = some 1:=by kernel_rfl
theorem B5:AD Tryz.prog 16:=⟨_,Tryz.func16,by kernel_rfl,by kernel_rfl⟩
theorem OwnB.slice3A {w:World} {B:Nat} {e:TypeId} {v:Value} {bs:List UInt8} (h:OwnB w B e v bs):∃ ao c,v = .slice ao bs.length c:=DM h
section
variable {B p g:Nat} {ps:List UInt8} {vp vo vl:Value} {s:WS} {w:World}
theorem WStep.notOwn {q:Nat} {vo' vl':Value} {w':World} (h:WStep p vo vl w vo' vl' w') (hv:vo.ownBlock≠some q∧vl.ownBlock≠some q) (hq:q < w.heap.size):vo'.ownBlock≠some q∧vl'.ownBlock≠some q:=
 ⟨fun e=>by rcases h.lo q e with e | e; exact hv.1 e; omega,fun e=>by rcases h.ll q e with e | e; exact hv.2 e; omega⟩
theorem TW.appd {v':Value} {bs:List UInt8} {w':World} (h:TW B p g ps vp vo vl s w) (ha:Appd w B 5 vo v' bs w'):w'.cell? ⟨p,2,none⟩ = some vo∧w'.frozen? ⟨p,2,none⟩ = false:=by
 have hpb:w'.heap[p]? = w.heap[p]?:=ha.grown.block p h.lt (fun e=>h.no e.symm);exact (h.row.kept hpb) 2 _ rfl
theorem TW.outV (h:TW B p g ps vp vo vl s w):∃ g2,View w g2 vo s.out:=by obtain ⟨g1,hv,_⟩:=h.out.view; exact ⟨g1,hv⟩
def TabAt (w:World) (q:Nat) (tab:List (List UInt8)):Prop:=RowAt w q (tab.map fun x=>Value.string ⟨x.toArray⟩)
theorem Bl (ps:List UInt8) (k:Nat) {n:Nat} (hn:0 < n):Ah ps k n < n:=by
 unfold Ah
 split
 ·exact hn
 ·exact Nat.mod_lt _ hn
theorem TabAt.get {q:Nat} {tab:List (List UInt8)} {i:Nat} (h:TabAt w q tab) (hi:i < tab.length):w.cell? ⟨q,i,none⟩ = some (.string ⟨(tab.getD i []).toArray⟩):=by
 have:=(h i (.string ⟨(tab.getD i []).toArray⟩) (by rw [List.getElem?_map,List.getElem?_eq_getElem hi]; simp [List.getD_eq_getElem?_getD,List.getElem?_eq_getElem hi])).1;exact this
end
section
variable {N:Nat} {D:List Deferred} {a:Act} {l:List (Nat × Value)} {L rest:List Oper} {Q:Exit→Act→World→Prop} {w:World} {d:Nat} {ty:TypeId} {pos:String} {af:Array Edge}
theorem Hp {x y:Operand} {B:Nat} {v:Value} {bs ys:List UInt8} (H:Has N D a l) (hx:ev l x = some v) (hown:OwnB w B 5 v bs) (hy:ev l y = some (.string ⟨ys.toArray⟩)) (hB:B≤w.heap.size) (hlen:bs.length+ys.length≤140737488355328) (hd:Nat.blt d N = true)
  (h:∀ v' w',Appd w B 5 v v' (bs++ys) w'→∀ a,Has N D a ((d,v')::l)→wpList Tryz.prog L.toArray Q rest a w') :
  wpList Tryz.prog L.toArray Q (⟨some d,.call { callee:=.builtin .append,args:=#[x,y],argTypes:=#[22,9] },ty,pos,af,none⟩::rest) a w:=
 I7 w rfl x y 22 9 rfl B 5 Tryz.underlying22 Tryz.underlying9 Af v bs (H.ev hx) hown ys (H.ev hy) hB hlen fun v' w' ha=>h v' w' ha _ (H.put hd)
variable {P:Program} {S:World→Prop} {dd:Option Tmp} {gd:Option (Nat × Bool)}
theorem RU {t e:TypeId} {x:Operand} {ao:Option Addr} {n c:Nat} (ht:P.underlying t = some (.slice e)) (H:Has N D a l) (hx:ev l x = some (.slice ao n c)):∀ w,S w→(execOp a.eval ⟨dd,.call { callee:=.builtin .len,args:=#[x],argTypes:=#[t] },ty,pos,af,gd⟩).run P w = .ok (.value (.int .i64 (n:Int))) w:=fun w _=>by
 have h1:=H.ev hx;simp [execOp,resolve,invoke,builtin,h1,Builtin.len_,run_underlying ht,goInt]
theorem OG:(Tryz.prog.info? 9).map (fun i=>(i.zero,i.size,i.bytes)) = some (some (.string ⟨#[]⟩),1,16):=by kernel_rfl
theorem N9 {x i:Operand} {q n len c:Nat} (H:Has N D a l) (hx:ev l x = some (.slice (some ⟨q,0,none⟩) len c)) (hi:ev l i = some (.int .i64 (n:Int))) (h1:n < len):∀ w,S w→(execOp a.eval ⟨dd,.indexAddr 60 x i,ty,pos,af,gd⟩).run Tryz.prog w = .ok (.value (.pointer (some ⟨q,n,none⟩))) w:=fun w _=>by
 obtain ⟨inf,hi1,hz,hz1,hz2⟩:=info_parts OG;have e1:=H.ev hx;have e2:=H.ev hi;simp [execOp,e1,e2,Instr.indexAt,asIntOf,run_underlying Tryz.underlying60,h1,sizeOf,typeInfo,hi1,hz1,Addr.add_lit]
theorem A0 {n:Nat} {pl:List (Nat × Operand)} {ps:List (Nat × Value)} {tab:List (List UInt8)} (H:Has N D a l) (hp:evp l pl = some ps) (hn:0 < n) (hn2:n≤100)
  (hfill:Instr.fill (fun i=>some (i * 1,1)) ((Array.range (n * 1)).map ((Value.string ⟨#[]⟩).cells[· % (Value.string ⟨#[]⟩).cells.size]!)) ps = some (tab.map fun x=>Value.string ⟨x.toArray⟩).toArray) (hd:Nat.blt d N = true)
  (h:∀ w',TabAt w' w.heap.size tab→Below w.heap.size w w'→w'.heap.size = w.heap.size+1→∀ a,Has N D a ((d,.slice (some ⟨w.heap.size,0,none⟩) n n)::l)→wpList Tryz.prog L.toArray Q rest a w'):wpList Tryz.prog L.toArray Q (⟨some d,.buildSlice 60 n pl.toArray,ty,pos,af,none⟩::rest) a w:=by
 obtain ⟨inf,hi1,hz,hz1,hz2⟩:=info_parts OG;have h1:=H.evp hp;have:=run_buildSlice (P:=Tryz.prog) w 60 9 n ps.toArray (tab.map fun x=>Value.string ⟨x.toArray⟩).toArray inf (.string ⟨#[]⟩) Tryz.underlying60 hi1 hz (by rw [hz1]; simp; omega) (by rw [hz1]; omega) (by rw [hz1]; simpa using hfill);refine Cz H hd (v:=.slice (some ⟨w.heap.size,0,none⟩) n n) (w':=w.alloc (.cells (tab.map fun x=>Value.string ⟨x.toArray⟩).toArray 9)) (by simp [execOp,h1,this,Result.andThen]) ?_;exact h _ (BW (heap_alloc_new w _)) ((Below.refl _ w).alloc (Nat.le_refl _) _) (BP w _)
end
end
end Go.Proofs.YtgdnpnipahegaaaGreatDoor
