/-
 The laws FnTextForms and FnTextFormsCut: the steps of their own text.
-/
import Derived.Test.YtgdnpnipahegaaaGreatDoorQ33
import Derived.Lib.SlBytesConst
import Derived.Lib.SmallJoins
import Derived.Test.YtgdnpnipahegaaaGreatDoorQ9
import Derived.Test.YtgdnpnipahegaaaGreatDoorQ0
import Derived.OpenShut
import Derived.Test.YtgdnpnipahegaaaGreatDoorQ30
import Derived.Deep.Grids
import Derived.Test.YtgdnpnipahegaaaGreatDoorCards
import Derived.Test.YtgdnpnipahegaaaGreatDoorTie
import Derived.Test.YtgdnpnipahegaaaGreatDoorQ4
import Derived.ProofKit
import Derived.LaidMore
import Derived.LaidLaws
import Derived.Lay
import Derived.SevenTiedAt
import Derived.Stop.Joined
import Derived.Stop.LaidErr
import Derived.PinnedBridge
import Derived.Lib.LaidU8T
namespace Go.Proofs.YtgdnpnipahegaaaGreatDoor
open Go.ChangeShapes Go.WideShapes Go.ChangeAt Go.RowKit
theorem Six.range {w:World} {g n:Nat} {k a p:Int} {s:Bool} {r y:ByteArray} (h:Six w g n k a p s r y):w.rangeAt g n [.int .i64 k,.int .i64 a,.int .i64 p,.bool s,.string r,.string y]:=by
 obtain ⟨h0,h1,h2,h3,h4,h5⟩:=h;intro j v hj
 match j,hj with
 | 0,hj=>injection hj with hj; rw [←hj]; exact h0
 | 1,hj=>injection hj with hj; rw [←hj]; exact h1
 | 2,hj=>injection hj with hj; rw [←hj]; exact h2
 | 3,hj=>injection hj with hj; rw [←hj]; exact h3
 | 4,hj=>injection hj with hj; rw [←hj]; exact h4
 | 5,hj=>injection hj with hj; rw [←hj]; exact h5
theorem fld_x0:FieldIs Tryz.prog 34 0 0:=fun p w=>by simp [go_sem,Instr.fieldAt]
theorem fld_x2:FieldIs Tryz.prog 34 2 2:=fun p w=>by simp [go_sem,Instr.fieldAt]
theorem fld_x4:FieldIs Tryz.prog 34 4 4:=fun p w=>by simp [go_sem,Instr.fieldAt]
theorem fld_q0:FieldIs Tryz.prog 27 0 0:=fun p w=>by simp [go_sem,Instr.fieldAt]
theorem fld_q1:FieldIs Tryz.prog 27 1 1:=fun p w=>by simp [go_sem,Instr.fieldAt]
theorem fld_q2:FieldIs Tryz.prog 27 2 2:=fun p w=>by simp [go_sem,Instr.fieldAt]
theorem fld_q3:FieldIs Tryz.prog 27 3 3:=fun p w=>by simp [go_sem,Instr.fieldAt]
theorem fld_q4:FieldIs Tryz.prog 27 4 4:=fun p w=>by simp [go_sem,Instr.fieldAt]
theorem fld_q5:FieldIs Tryz.prog 27 5 5:=fun p w=>by simp [go_sem,Instr.fieldAt]
theorem q_alloc:AllocIs Tryz.prog 27 #[.int .i64 0,.int .i64 0,.int .i64 0,.bool false,.string ⟨#[]⟩,.string ⟨#[]⟩]:=fun w=>by
 simp [go_sem,Instr.alloc,newVar,newRow]
theorem q_size (cs:List Value) (h:cs.length = 6):(Tryz.prog.info? 27).map (·.size) = some cs.length:=by rw [h]; kernel_rfl
theorem q_size' (a b c d e f:Value):(Tryz.prog.info? 27).map (·.size) = some [a,b,c,d,e,f].toArray.size:=by kernel_rfl
theorem x_six:(Tryz.prog.info? 34).map (·.size) = some 6:=by kernel_rfl
theorem q_six:(Tryz.prog.info? 27).map (·.size) = some 6:=by kernel_rfl
section
variable {N:Nat} {D:List Deferred} {a:Act} {l:List (Nat × Value)} {L rest:List Oper} {Q:Exit→Act→World→Prop} {S:World→Prop} {w:World} {d:Nat} {ty:TypeId} {pos:String} {af:Array Edge} {P:Program}
theorem run_idx6 {t e:TypeId} {k:IntKind} {n m cp q:Nat} (ht:P.underlying t = some (.slice e)) (hz:(P.info? e).map (·.size) = some 6) (hn:n < m) (w:World):(Instr.indexAt t (.slice (some ⟨q,0,none⟩) m cp) (.int k (n:Int))).run P w = .ok (.pointer (some ⟨q,n * 6,none⟩)) w:=by
 cases hq:P.info? e with
 | none=>simp [hq] at hz
 | some inf=>
  have hs:inf.size = 6:=by simpa [hq] using hz
  simp [Instr.indexAt,asIntOf,run_underlying ht,sizeOf,typeInfo,hq,hs,Addr.add_lit,Result.andThen,if_pos hn]
theorem y_idx6 {t e:TypeId} {x i:Operand} {k:IntKind} {n m cp q:Nat} (ht:P.underlying t = some (.slice e)) (hz:(P.info? e).map (·.size) = some 6) (H:Has N D a l) (hx:ev l x = some (.slice (some ⟨q,0,none⟩) m cp)) (hi:ev l i = some (.int k (n:Int))) (hn:n < m) (hd:Nat.blt d N = true)
  (h:∀ a,Has N D a ((d,.pointer (some ⟨q,n * 6,none⟩))::l)→wpList P L.toArray Q rest a w):wpList P L.toArray Q (⟨some d,.indexAddr t x i,ty,pos,af,none⟩::rest) a w:=
 y_wp H hd (by
  have h1:=H.ev hx;have h2:=H.ev hi;simp only [execOp,h1,h2,run_idx6 ht hz hn w,Result.andThen,Sem.run_bind]
  rfl) h
theorem y_loadAt {t:TypeId} {x:Operand} {q o:Nat} {cs:List Value} {ds:TypeDesc} (hu:P.underlying t = some ds) (hds:ds.isRow = true) (hi:(P.info? t).map (·.size) = some cs.length) (H:Has N D a l) (hx:ev l x = some (.pointer (some ⟨q,o,none⟩))) (hr:w.rangeAt q o cs) (hd:Nat.blt d N = true)
  (h:∀ a,Has N D a ((d,.agg cs.toArray)::l)→wpList P L.toArray Q rest a w):wpList P L.toArray Q (⟨some d,.load t x,ty,pos,af,none⟩::rest) a w:=
 wpList_load_mid rfl t x rfl q o (H.ev hx) cs ds hr hu hds hi (h _ (H.put hd))
theorem y_slen {x:Operand} {u:List UInt8} {n:Nat} (H:Has N D a l) (hx:ev l x = some (.string ⟨u.toArray⟩)) (hn:u.length = n) (hd:Nat.blt d N = true)
  (h:∀ a,Has N D a ((d,.int .i64 (n:Int))::l)→wpList Tryz.prog L.toArray Q rest a w):wpList Tryz.prog L.toArray Q (⟨some d,.call { callee:=.builtin .len,args:=#[x],argTypes:=#[9] },ty,pos,af,none⟩::rest) a w:=
 y_wp H hd (by
  have h1:=H.ev hx;subst hn
  simp [execOp,resolve,invoke,builtin,h1,Builtin.len_,run_underlying Tryz.underlying9,goInt,size_mk]) h
theorem y_shead {x:Operand} {c:UInt8} {u:List UInt8} (H:Has N D a l) (hx:ev l x = some (.string ⟨(c::u).toArray⟩)) (hd:Nat.blt d N = true)
  (h:∀ a,Has N D a ((d,.int .u8 (c.toNat:Int))::l)→wpList Tryz.prog L.toArray Q rest a w):wpList Tryz.prog L.toArray Q (⟨some d,.index 9 x (.const (.int .i64 0)),ty,pos,af,none⟩::rest) a w:=
 y_wp H hd (by
  have h1:=H.ev hx;simp only [execOp,h1];simp [go_sem]
  rfl) h
theorem y_sneqF {x y:Operand} {u v:ByteArray} (H:Has N D a l) (hx:ev l x = some (.string u)) (hy:ev l y = some (.string v)) (hb:u = v) (hd:Nat.blt d N = true)
  (h:∀ a,Has N D a ((d,.bool false)::l)→wpList Tryz.prog L.toArray Q rest a w):wpList Tryz.prog L.toArray Q (⟨some d,.binOp .neq 9 x y 9,ty,pos,af,none⟩::rest) a w:=
 y_wp H hd (by
  have h1:=H.ev hx;have h2:=H.ev hy;subst hb;simp only [execOp,h1,h2]
  simp [go_sem]) h
variable {dd:Option Tmp} {gd:Option (Nat × Bool)}
theorem r_idx6 {t e:TypeId} {x i:Operand} {k:IntKind} {n m cp q:Nat} (ht:P.underlying t = some (.slice e)) (hz:(P.info? e).map (·.size) = some 6) (H:Has N D a l) (hx:ev l x = some (.slice (some ⟨q,0,none⟩) m cp)) (hi:ev l i = some (.int k (n:Int))) (hn:n < m):∀ w,S w→(execOp a.eval ⟨dd,.indexAddr t x i,ty,pos,af,gd⟩).run P w = .ok (.value (.pointer (some ⟨q,n * 6,none⟩))) w:=fun w _=>by
 have h1:=H.ev hx;have h2:=H.ev hi;simp only [execOp,h1,h2,run_idx6 ht hz hn w,Result.andThen,Sem.run_bind];rfl
theorem r_loadAt {t:TypeId} {x:Operand} {q o:Nat} {cs:List Value} {ds:TypeDesc} (hu:P.underlying t = some ds) (hds:ds.isRow = true) (hi:(P.info? t).map (·.size) = some cs.length) (H:Has N D a l) (hx:ev l x = some (.pointer (some ⟨q,o,none⟩))) (hr:∀ w,S w→w.rangeAt q o cs) :
  ∀ w,S w→(execOp a.eval ⟨dd,.load t x,ty,pos,af,gd⟩).run P w = .ok (.value (.agg cs.toArray)) w:=fun w hw=>by
 have h1:=H.ev hx;have:=run_loadAt_mid (P:=P) w q o t cs ds (hr w hw) hu hds hi;simp only [execOp,h1];simp [this,Result.andThen]
theorem r_neqX {x y:Operand} {k b p:Int} {s:Bool} {r z:ByteArray} (H:Has N D a l) (hx:ev l x = some (.agg #[.int .i64 k,.int .i64 b,.int .i64 p,.bool s,.string r,.string z])) (hy:ev l y = some (.agg #[.int .i64 k,.int .i64 b,.int .i64 p,.bool s,.string r,.string z])):∀ w,S w→(execOp a.eval ⟨dd,.binOp .neq 34 x y 34,ty,pos,af,gd⟩).run Tryz.prog w = .ok (.value (.bool false)) w:=fun w _=>by
 have h1:=H.ev hx;have h2:=H.ev hy;simp only [execOp,h1,h2];simp [go_sem]
theorem r_neqI {x y:Operand} {n:Int} (H:Has N D a l) (hx:ev l x = some (.int .i64 n)) (hy:ev l y = some (.int .i64 n)):∀ w,S w→(execOp a.eval ⟨dd,.binOp .neq 3 x y 3,ty,pos,af,gd⟩).run Tryz.prog w = .ok (.value (.bool false)) w:=fun w _=>by
 have h1:=H.ev hx;have h2:=H.ev hy;simp only [execOp,h1,h2];simp [go_sem]
theorem r_neqB {x y:Operand} {n:Bool} (H:Has N D a l) (hx:ev l x = some (.bool n)) (hy:ev l y = some (.bool n)):∀ w,S w→(execOp a.eval ⟨dd,.binOp .neq 4 x y 4,ty,pos,af,gd⟩).run Tryz.prog w = .ok (.value (.bool false)) w:=fun w _=>by
 have h1:=H.ev hx;have h2:=H.ev hy;simp only [execOp,h1,h2];simp [go_sem]
theorem r_neqS {x y:Operand} {n:ByteArray} (H:Has N D a l) (hx:ev l x = some (.string n)) (hy:ev l y = some (.string n)):∀ w,S w→(execOp a.eval ⟨dd,.binOp .neq 9 x y 9,ty,pos,af,gd⟩).run Tryz.prog w = .ok (.value (.bool false)) w:=fun w _=>by
 have h1:=H.ev hx;have h2:=H.ev hy;simp only [execOp,h1,h2];simp [go_sem]
theorem fill_bytes4 (a b c d:Int):Instr.fill (fun i=>some (i * 1,1)) ((Array.range (4 * 1)).map ((Value.int .u8 0).cells[· % (Value.int .u8 0).cells.size]!)) [(0,.int .u8 a),(1,.int .u8 b),(2,.int .u8 c),(3,.int .u8 d)] = some #[.int .u8 a,.int .u8 b,.int .u8 c,.int .u8 d]:=by kernel_rfl
theorem y_const4 {d':Nat} {ty':TypeId} {pos':String} {af':Array Edge} {c0 c1 c2 c3:Int} (H:Has N D a l) (hd:Nat.blt d N = true) (hd':Nat.blt d' N = true)
  (h:∀ a,Has N D a ((d',.slice (some ⟨w.heap.size,0,none⟩) 4 4)::(d,.slice (some ⟨w.heap.size,0,none⟩) 4 4)::l)→wpList Tryz.prog L.toArray Q rest a (w.alloc (.cells #[.int .u8 c0,.int .u8 c1,.int .u8 c2,.int .u8 c3] 5 (4,5)))) :
  wpList Tryz.prog L.toArray Q (⟨some d,.buildSlice 22 4 #[(0,.const (.int .u8 c0)),(1,.const (.int .u8 c1)),(2,.const (.int .u8 c2)),(3,.const (.int .u8 c3))],ty,pos,af,none⟩::⟨some d',.convert 22 22 (.tmp d),ty',pos',af',none⟩::rest) a w:=by
 obtain ⟨inf,hi1,hz,hz1,hz2⟩:=info_parts info5u;have h1:=run_buildSlice (P:=Tryz.prog) w 22 5 4 #[(0,.int .u8 c0),(1,.int .u8 c1),(2,.int .u8 c2),(3,.int .u8 c3)] #[.int .u8 c0,.int .u8 c1,.int .u8 c2,.int .u8 c3] inf (.int .u8 0) Tryz.underlying22 hi1 hz (by rw [hz1]; decide) (by rw [hz1]; decide) (by rw [hz1]; exact fill_bytes4 c0 c1 c2 c3);refine y_wp H hd (v:=.slice (some ⟨w.heap.size,0,none⟩) 4 4) (w':=w.alloc (.cells #[.int .u8 c0,.int .u8 c1,.int .u8 c2,.int .u8 c3] 5)) (by simp [execOp,Act.eval,h1,Result.andThen]) fun a H=>?_;have h2:=H.ev (x:=.tmp d) (v:=.slice (some ⟨w.heap.size,0,none⟩) 4 4) (by show look _ d = _; unfold look; rw [show Nat.beq d d = true from Nat.beq_refl d]);have h3:=Lib.run_convert_bytes_const (P:=Tryz.prog) w 22 5 #[.int .u8 c0,.int .u8 c1,.int .u8 c2,.int .u8 c3] 4 4 Tryz.underlying22 Tryz.underlying5;exact y_wp H hd' (v:=.slice (some ⟨w.heap.size,0,none⟩) 4 4) (by simp only [execOp,h2]; simp [h3,Result.andThen]) h
end
end Go.Proofs.YtgdnpnipahegaaaGreatDoor
namespace Go.Proofs.YtgdnpnipahegaaaGreatDoor
open Go.ChangeShapes Go.WideShapes Go.ChangeAt Go.RowKit
theorem field_two:∃ a b,allT [97,58,32,49] [] = ([a,b],true):=⟨_,_,by rfl⟩
theorem view_four (w:World) (bs:List UInt8) (cells:Array Value) (t:TypeId) (fr:Nat × Nat) (hc:cells.toList = byteCells bs) (hm:bs.length≤maxLen):View (w.alloc (.cells cells t fr)) w.heap.size (.slice (some ⟨w.heap.size,0,none⟩) bs.length bs.length) bs:=
 ⟨_,_,rfl,Nat.le_refl _,hm,(fun h=>by cases h),0,(fun _=>rfl),fun j hj=>by
  rw [Go.Joins.cell_alloc_mark_at w cells t fr _ (0+j) rfl,←Array.getElem?_toList,hc]
  simp [byteCells,hj]⟩
def ReadN (B N:Nat) (L:List TT) (w0:World) (e:Ending) (w':World):Prop:=∃ ao c,e = .returned (.tuple #[.slice ao N c,.bool true])∧OwnX w' B (.slice ao N c) L∧Below w0.heap.size w0 w'
theorem XRes.readN {N:Nat} {L:List TT} {w w':World} {e:Ending} {R:List TT × Bool} (h:XRes w.heap.size R w e w') (hR:R = (L,true)) (hN:L.length = N):ReadN w.heap.size N L w e w':=by
 subst hR;obtain ⟨v,rfl,h2,h3⟩:=h;obtain ⟨ao,c,rfl⟩:=h2.slice;subst hN;exact ⟨ao,c,rfl,h2,h3⟩
def WroteN (out:List UInt8) (l:List TX) (N:Nat) (w:World) (e:Ending) (w':World):Prop:=∃ ao n c ao2 c2 g,e = .returned (.tuple #[.slice ao n c,.slice ao2 N c2])∧View w' g (.slice ao n c) out∧OwnQ w' w.heap.size (.slice ao2 N c2) l∧Below w.heap.size w w'
theorem Wrote.wroteN {ps:List UInt8} {N:Nat} {w w':World} {e:Ending} (h:Wrote ps w e w') (hN:(writeW ps).l.length = N):WroteN (writeW ps).out (writeW ps).l N w e w':=by
 obtain ⟨vo,vl,rfl,h1,h2,h3⟩:=h;obtain ⟨g,hv,_⟩:=h1.view;obtain ⟨ao,n,c,rfl⟩:=hv.slice3;obtain ⟨ao2,c2,rfl⟩:=h2.slice;subst hN;exact ⟨ao,n,c,ao2,c2,g,rfl,hv,h2,h3⟩
theorem field_again (w:World) (hgl:Glob w) (h9:9≤w.heap.size) (w':World) (hb:Below w.heap.size w w'):Calls Tryz.prog 7 #[.slice (some ⟨w'.heap.size,0,none⟩) 4 4] (w'.alloc (.cells #[.int .u8 97,.int .u8 58,.int .u8 32,.int .u8 49] 5 (4,5))) fun e w2=>(∃ ao c,e = .returned (.tuple #[.slice ao 2 c,.bool true]))∧Below w.heap.size w w2:=by
 have hbA:Below w.heap.size w (w'.alloc (.cells #[.int .u8 97,.int .u8 58,.int .u8 32,.int .u8 49] 5 (4,5))):=hb.alloc hb.size _;obtain ⟨ta,tb,hab⟩:=field_two;refine (textTokens_any _ [97,58,32,49] w'.heap.size _ (view_four w' [97,58,32,49] _ _ _ rfl (by simp [maxLen])) (by simp) (hgl.below hbA) (Nat.le_trans h9 hbA.size)).mono fun e w2 h=>?_;obtain ⟨ao,c,h1,h2,h3⟩:=h.readN hab rfl;exact ⟨⟨ao,c,h1⟩,hbA.trans (h3.mono hbA.size)⟩
theorem pf_write:PlainFn Tryz.prog 6:=⟨_,Tryz.func6,by kernel_rfl,by kernel_rfl⟩
theorem pf_tokens:PlainFn Tryz.prog 7:=⟨_,Tryz.func7,by kernel_rfl,by kernel_rfl⟩
theorem pf_peeks:PlainFn Tryz.prog 8:=⟨_,Tryz.func8,by kernel_rfl,by kernel_rfl⟩
set_option maxRecDepth 100000 in
set_option maxHeartbeats 100000000 in
theorem fnTextForms_any (v vpk:Value) (ps:List UInt8) (pk:List Bool) (g:Nat) (w:World) (hv:View w g v ps) (hg:g < w.heap.size) (hpk:BView w w.heap.size vpk pk) (hgl:Glob w) (h9:9≤w.heap.size) :
  Calls Tryz.prog 4 #[v,vpk] w fun e w'=>e = .returned (.bool true)∧Below w.heap.size w w':=by
 obtain ⟨aoP,cP,rfl⟩:∃ ao c,vpk = .slice ao pk.length c:=by obtain ⟨ao,c,e,_⟩:=hpk; exact ⟨ao,c,e⟩
 obtain ⟨aoB,cB,rfl⟩:=hv.slice;have hb0:Below w.heap.size w w:=Below.refl _ _;obtain ⟨hlo,hll⟩:=writeW_len ps;obtain ⟨L,hL,hok⟩:=write_reads ps;obtain ⟨N,hN⟩:∃ N,L.length = N:=⟨_,rfl⟩;have hlen:(writeW ps).l.length = N:=hok.length.symm.trans hN;have hF:=fun w' hb=>field_again w hgl h9 w' hb;refine enter2 (M:=152) Tryz.func4 rfl rfl rfl fun a H=>zr fun j1=>za H rfl fun H=>zN (j1 ?_);refine zs fun j2=>zr fun j3=>zm H rfl fun H=>y_lenS Tryz.underlying22 H rfl rfl fun a H=>?_
 by_cases q4:(((ps.length:Nat):Int)) > ((2147483647:Int))
 ·refine zgt H rfl rfl fun H=>zm H rfl fun H=>zf H rfl fun H=>zf H rfl fun H=>zf H rfl fun H=>zp H rfl rfl fun H=>zN (j3 ?_);refine zi H rfl (zr fun j5=>za H rfl fun H=>zN (j5 ?_));refine zK H [0,1,4] rfl fun H=>wp_ret (tr (retT (by rfl) H rfl ?_));exact ⟨rfl,hb0⟩
 ·refine zgf H rfl rfl fun H=>zm H rfl fun H=>zo H rfl (zm H rfl fun H=>zo H rfl (y_lenS Tryz.underlying32 H rfl rfl fun a H=>zo H rfl ?_))
  by_cases q6:(((pk.length:Nat):Int)) > ((2147483647:Int))
  ·refine zgt H rfl rfl fun H=>zp H rfl rfl fun H=>zN (j3 ?_);refine zi H rfl (zr fun j7=>za H rfl fun H=>zN (j7 ?_));refine wp_ret (tr (retT (by rfl) H rfl ?_));exact ⟨rfl,hb0⟩
  ·refine zgf H rfl rfl fun H=>zp H rfl rfl fun H=>zN (j3 ?_);refine zK H [0,1,4,22] rfl fun H=>zj H rfl (wp_skip (tn (j2 ?_)));refine zs fun j8=>zr fun j9=>zm H rfl fun H=>y_lenS Tryz.underlying22 H rfl rfl fun a H=>?_
   by_cases q10:(((ps.length:Nat):Int)) > ((1000:Int))
   ·refine zgt H rfl rfl fun H=>zN (j9 ?_);refine zi H rfl (zr fun j11=>za H rfl fun H=>zN (j11 ?_));refine zK H [0,1,4] rfl fun H=>wp_ret (tr (retT (by rfl) H rfl ?_));exact ⟨rfl,hb0⟩
   ·refine zgf H rfl rfl fun H=>zN (j9 ?_);refine zj H rfl (wp_skip (tn (j8 ?_)));refine zr fun j12=>zm H rfl fun H=>zC pf_write H rfl (Calls.mono ((textWrite_any _ ps g w hv (by omega) hg).mono fun e w2 h=>h.wroteN hlen) ?_);rintro e w1 ⟨aoO,nO,cO,aoQ,cQ,gO,rfl,hvO,hq1,hb1⟩;refine zR fun H=>zm H rfl fun H=>zx H rfl rfl fun H=>zx H rfl rfl fun H=>za H rfl fun H=>za H rfl fun H=>zN (j12 ?_);refine zK H [1,4,5,6] rfl fun H=>zr fun j13=>zm H rfl fun H=>zC pf_tokens H rfl (Calls.mono ((textTokens_any _ _ gO w1 hvO (by omega) (hgl.below hb1) (by have:=hb1.size; omega)).mono fun e w2 h=>h.readN hL hN) ?_);rintro e w2 ⟨ao2,c2,rfl,ho2,hb2⟩;refine zR fun H=>?_;have hb12:=below_comp hb1 hb2;refine zm H rfl fun H=>zx H rfl rfl fun H=>zx H rfl rfl fun H=>za H rfl fun H=>za H rfl fun H=>zN (j13 ?_);refine zr fun j14=>zm H rfl fun H=>zm H rfl fun H=>zC pf_peeks H rfl (Calls.mono ((textPeeks_any _ _ _ pk gO w2 (hvO.below hb2) ((hpk.below hb12).mono hb12.size) (by omega) (by omega) (hgl.below hb12) (by have:=hb12.size; omega)).mono fun e w2 h=>h.readN ((peeks_nothing _ pk).trans hL) hN) ?_);rintro e w3 ⟨ao3,c3,rfl,ho3,hb3⟩;refine zR fun H=>?_;have hb13:=below_comp hb12 hb3;have hb23:=below_comp hb2 hb3;have hR:=rows3 hok hN (ho2.below hb3) ho3 (hq1.below hb23);refine zm H rfl fun H=>zx H rfl rfl fun H=>zx H rfl rfl fun H=>za H rfl fun H=>za H rfl fun H=>zN (j14 ?_);refine zs fun j15=>zr fun j16=>zm H rfl fun H=>znot H rfl fun H=>zm H rfl fun H=>zo H rfl (zm H rfl fun H=>zo H rfl (znot H rfl fun H=>zp H rfl rfl fun H=>zm H rfl fun H=>zo H rfl (zm H rfl fun H=>zo H rfl ?_)));refine y_lenS Tryz.underlying28 H rfl rfl fun a H=>zo H rfl (zm H rfl fun H=>zo H rfl (y_lenS Tryz.underlying23 H rfl rfl fun a H=>zo H rfl (znf H rfl rfl fun H=>zp H rfl rfl fun H=>zm H rfl fun H=>zo H rfl (zm H rfl fun H=>zo H rfl (y_lenS Tryz.underlying28 H rfl rfl fun a H=>zo H rfl ?_)))));refine zm H rfl fun H=>zo H rfl (y_lenS Tryz.underlying23 H rfl rfl fun a H=>zo H rfl (znf H rfl rfl fun H=>zp H rfl rfl fun H=>zN (j16 ?_)));refine zK H [4,6,7,8,9,61] rfl fun H=>zj H rfl (wp_skip (tn (j15 ?_)));refine zs fun j17=>zr fun j18=>zm H rfl fun H=>y_lenS Tryz.underlying28 H rfl rfl fun a H=>zm H rfl fun H=>zN (j18 ?_);refine wp_block (wp_loop (fun a wx=>∃ j:Nat,Has 152 [] a [(6,.slice aoQ N cQ),(9,.slice ao3 N c3),(62,.slice ao2 N c2),(63,.int .i64 ((N:Nat):Int)),(64,.int .i64 ((j:Nat):Int))]∧Below w3.heap.size w3 wx∧j≤N) (fun a _=>N - natT (a.eval (.tmp 64))) ?_ ?_)
    ·exact ⟨0,H.c,Below.refl _ _,Nat.zero_le _⟩
    rintro a wk ⟨j,H,hbk,hj⟩;have HE:=hid (congrArg natT (H.ev (x:=.tmp 64) rfl));have hzk:=hbk.size
    by_cases hlt:j < N
    ·have Hs19:=H;obtain ⟨g2,g3,gQ,k,b,p,s,r,r2,y,rfl,rfl,rfl,hq,l2,l3,lQ,hh6⟩:=hR j hlt;have H:=Hs19;refine zr fun j20=>zlt H rfl rfl fun H=>zN (j20 ?_);refine zK H [6,9,62,63,64,65] rfl fun H=>zs fun j21=>zi H rfl (wp_skip (tn (j21 ?_)));refine zs fun j22=>wp_block (zr fun j23=>zm H rfl fun H=>y_idx6 Tryz.underlying28 x_six H rfl rfl hlt rfl fun a H=>y_loadAt Tryz.underlying34 rfl (tx_size _ rfl) H rfl ((hh6 _ hbk).1).range rfl fun a H=>?_);obtain ⟨q24,hq24⟩:∃ q,q = wk.heap.size:=⟨_,rfl⟩;refine y_allocRow tx_alloc H rfl fun w24 hr24 hb24 hs24 a H=>?_;rw [←hq24] at H hr24;have hz24:=hb24.size;have hb325:=below_comp hbk hb24;refine za H rfl fun H=>y_storeRow (vs:=[_,_,_,_,_,_]) H rfl rfl hr24 rfl (tx_size' _ _ _ _ _ _) (by simp [Value.oneCell']) fun w26 hr26 hg26=>?_;have hz26:=hg26.size;have hb327:=below_grow' hb325 hg26 (by omega) (by omega);refine zN (j23 ?_);refine zr fun j28=>zm H rfl fun H=>zm H rfl fun H=>y_idx6 Tryz.underlying23 q_six H rfl rfl hlt rfl fun a H=>y_loadAt Tryz.underlying27 rfl (q_size _ rfl) H rfl ((hh6 _ hb327).2.2).range rfl fun a H=>?_;obtain ⟨q29,hq29⟩:∃ q,q = w26.heap.size:=⟨_,rfl⟩;refine y_allocRow q_alloc H rfl fun w29 hr29 hb29 hs29 a H=>?_;rw [←hq29] at H hr29;have hz29:=hb29.size;have hr30:=RowAt.bl hr26 hb29;have hb331:=below_comp hb327 hb29;refine y_storeRow (vs:=[_,_,_,_,_,_]) H rfl rfl hr29 rfl (q_size' _ _ _ _ _ _) (by simp [Value.oneCell']) fun w32 hr32 hg32=>?_;have hz32:=hg32.size;have hr33:=RowAt.gr hr30 hg32;have hb334:=below_grow' hb331 hg32 (by omega) (by omega);refine zN (j28 ?_);refine zK H [6,9,11,12,13,62,63,64] rfl fun H=>zs fun j35=>zs fun j36=>d_begin (fun w'=>w' = w32.drew) 41 mixedP rfl ?_;have hbd37:Below w32.heap.size w32 w32.drew:=(Below.refl _ _).drew;generalize w32.drew = wd37 at hbd37 ⊢;have hz37:=hbd37.size;have hr38:=RowAt.bl hr33 hbd37;have hr39:=RowAt.bl hr32 hbd37;have hb340:=below_comp hb334 hbd37;refine zd 0 H rfl (r_loadRow Tryz.underlying34 rfl (tx_size _ rfl) H rfl (fun w h j v hj=>by rw [h,Nat.zero_add]; exact (hr38 j v hj).1)) rfl fun H=>zd 1 H rfl (r_move H rfl) rfl fun H=>zd 2 H rfl (r_move H rfl) rfl fun H=>zd 3 H rfl (r_idx6 Tryz.underlying28 x_six H rfl rfl hlt) rfl fun H=>zd 4 H rfl (r_loadAt Tryz.underlying34 rfl (tx_size _ rfl) H rfl (fun w h=>by rw [h]; exact ((hh6 _ hb340).2.1).range)) rfl fun H=>zd 5 H rfl (r_neqX H rfl rfl) rfl fun H=>zd 6 H rfl (r_move H rfl) rfl fun H=>d_takeOn 7 H rfl (by kernel_rfl) (by kernel_rfl) (by kernel_rfl) rfl rfl (r_field fld_x0 H rfl) rfl rfl fun a H=>d_takeOn 8 H rfl (by kernel_rfl) (by kernel_rfl) (by kernel_rfl) rfl rfl (r_load oneInt H rfl (fun w e=>by rw [e]; exact (hr38 0 _ rfl).1)) rfl rfl fun a H=>d_takeOn 9 H rfl (by kernel_rfl) (by kernel_rfl) (by kernel_rfl) rfl rfl (r_field fld_q0 H rfl) rfl rfl fun a H=>d_takeOn 10 H rfl (by kernel_rfl) (by kernel_rfl) (by kernel_rfl) rfl rfl (r_load oneInt H rfl (fun w e=>by rw [e]; exact (hr39 0 _ rfl).1)) rfl rfl fun a H=>d_takeOn 11 H rfl (by kernel_rfl) (by kernel_rfl) (by kernel_rfl) rfl rfl (r_neqI H rfl rfl) rfl rfl fun a H=>zd 12 H rfl (r_pick (b:=false) H rfl rfl) rfl fun H=>zd 13 H rfl (r_move H rfl) rfl fun H=>?_;refine d_takeOn 14 H rfl (by kernel_rfl) (by kernel_rfl) (by kernel_rfl) rfl rfl (r_field fld_x1 H rfl) rfl rfl fun a H=>d_takeOn 15 H rfl (by kernel_rfl) (by kernel_rfl) (by kernel_rfl) rfl rfl (r_load oneInt H rfl (fun w e=>by rw [e]; exact (hr38 1 _ rfl).1)) rfl rfl fun a H=>d_takeOn 16 H rfl (by kernel_rfl) (by kernel_rfl) (by kernel_rfl) rfl rfl (r_field fld_q1 H rfl) rfl rfl fun a H=>d_takeOn 17 H rfl (by kernel_rfl) (by kernel_rfl) (by kernel_rfl) rfl rfl (r_load oneInt H rfl (fun w e=>by rw [e]; exact (hr39 1 _ rfl).1)) rfl rfl fun a H=>d_takeOn 18 H rfl (by kernel_rfl) (by kernel_rfl) (by kernel_rfl) rfl rfl (r_neqI H rfl rfl) rfl rfl fun a H=>zd 19 H rfl (r_pick (b:=false) H rfl rfl) rfl fun H=>zd 20 H rfl (r_move H rfl) rfl fun H=>d_takeOn 21 H rfl (by kernel_rfl) (by kernel_rfl) (by kernel_rfl) rfl rfl (r_field fld_x2 H rfl) rfl rfl fun a H=>d_takeOn 22 H rfl (by kernel_rfl) (by kernel_rfl) (by kernel_rfl) rfl rfl (r_load oneInt H rfl (fun w e=>by rw [e]; exact (hr38 2 _ rfl).1)) rfl rfl fun a H=>d_takeOn 23 H rfl (by kernel_rfl) (by kernel_rfl) (by kernel_rfl) rfl rfl (r_field fld_q2 H rfl) rfl rfl fun a H=>d_takeOn 24 H rfl (by kernel_rfl) (by kernel_rfl) (by kernel_rfl) rfl rfl (r_load oneInt H rfl (fun w e=>by rw [e]; exact (hr39 2 _ rfl).1)) rfl rfl fun a H=>d_takeOn 25 H rfl (by kernel_rfl) (by kernel_rfl) (by kernel_rfl) rfl rfl (r_neqI H rfl rfl) rfl rfl fun a H=>zd 26 H rfl (r_pick (b:=false) H rfl rfl) rfl fun H=>zd 27 H rfl (r_move H rfl) rfl fun H=>?_
     refine d_takeOn 28 H rfl (by kernel_rfl) (by kernel_rfl) (by kernel_rfl) rfl rfl (r_field fld_x3 H rfl) rfl rfl fun a H=>d_takeOn 29 H rfl (by kernel_rfl) (by kernel_rfl) (by kernel_rfl) rfl rfl (r_load oneBool H rfl (fun w e=>by rw [e]; exact (hr38 3 _ rfl).1)) rfl rfl fun a H=>d_takeOn 30 H rfl (by kernel_rfl) (by kernel_rfl) (by kernel_rfl) rfl rfl (r_field fld_q3 H rfl) rfl rfl fun a H=>d_takeOn 31 H rfl (by kernel_rfl) (by kernel_rfl) (by kernel_rfl) rfl rfl (r_load oneBool H rfl (fun w e=>by rw [e]; exact (hr39 3 _ rfl).1)) rfl rfl fun a H=>d_takeOn 32 H rfl (by kernel_rfl) (by kernel_rfl) (by kernel_rfl) rfl rfl (r_neqB H rfl rfl) rfl rfl fun a H=>zd 33 H rfl (r_pick (b:=false) H rfl rfl) rfl fun H=>zd 34 H rfl (r_move H rfl) rfl fun H=>d_takeOn 35 H rfl (by kernel_rfl) (by kernel_rfl) (by kernel_rfl) rfl rfl (r_field fld_x5 H rfl) rfl rfl fun a H=>d_takeOn 36 H rfl (by kernel_rfl) (by kernel_rfl) (by kernel_rfl) rfl rfl (r_load oneStrW H rfl (fun w e=>by rw [e]; exact (hr38 5 _ rfl).1)) rfl rfl fun a H=>d_takeOn 37 H rfl (by kernel_rfl) (by kernel_rfl) (by kernel_rfl) rfl rfl (r_field fld_q5 H rfl) rfl rfl fun a H=>d_takeOn 38 H rfl (by kernel_rfl) (by kernel_rfl) (by kernel_rfl) rfl rfl (r_load oneStrW H rfl (fun w e=>by rw [e]; exact (hr39 5 _ rfl).1)) rfl rfl fun a H=>d_takeOn 39 H rfl (by kernel_rfl) (by kernel_rfl) (by kernel_rfl) rfl rfl (r_neqS H rfl rfl) rfl rfl fun a H=>zd 40 H rfl (r_pick (b:=false) H rfl rfl) rfl fun H=>d_done (by kernel_rfl) (tn (j36 ?_));refine zj H rfl (wp_skip (tn (j35 ?_)));refine zs fun j41=>?_;have Hs42:=H
     rcases r2 with _ | ⟨c,r2⟩
     ·have H:=Hs42;have hrr:r = []:=hq rfl;refine y_reg (zg fld_q4 H rfl fun H=>y_load oneStrW H rfl (hr39 4 _ rfl).1 rfl fun a H=>y_slen (u:=[]) (n:=0) H rfl rfl rfl fun a H=>zgf H rfl rfl fun H=>zm H rfl fun H=>zf H rfl fun H=>zf H rfl fun H=>zf H rfl fun H=>zf H rfl fun H=>zf H rfl fun H=>zu H rfl fun H=>zu H rfl fun H=>zu H rfl fun H=>?_);refine zu H rfl fun H=>zf H rfl fun H=>zp H rfl rfl fun H=>za H rfl fun H=>zN (j41 ?_);refine zK H [6,9,12,13,14,62,63,64] rfl fun H=>zr fun j43=>zm H rfl fun H=>znot H rfl fun H=>zm H rfl fun H=>zo H rfl (zg fld_x4 H rfl fun H=>zo H rfl (y_load oneStrW H rfl (hr38 4 _ rfl).1 rfl fun a H=>zo H rfl (zg fld_q4 H rfl fun H=>zo H rfl (y_load oneStrW H rfl (hr39 4 _ rfl).1 rfl fun a H=>zo H rfl ?_))));refine y_sneqF H rfl rfl (by rw [hrr]) rfl fun a H=>zp H rfl rfl fun H=>zN (j43 ?_);refine zj H rfl (wp_skip (bn (tn (j22 ?_))));refine y_reg (zadd (r:=((j+1:Nat):Int)) H rfl rfl fun H=>zm H rfl fun H=>zN (⟨⟨j+1,H.c,hb340,by omega⟩,?_⟩));have h2:=congrArg natT (H.ev (x:=.tmp 64) rfl);have h1:=HE.out
      show N - natT _ < N - natT _
      rw [h1,h2];simp only [natT];omega
     ·have H:=Hs42;refine y_reg (zg fld_q4 H rfl fun H=>y_load oneStrW H rfl (hr39 4 _ rfl).1 rfl fun a H=>y_slen (u:=c::r2) (n:=r2.length+1) H rfl rfl rfl fun a H=>zgt H rfl rfl fun H=>zm H rfl fun H=>zo H rfl (zg fld_q4 H rfl fun H=>zo H rfl (y_load oneStrW H rfl (hr39 4 _ rfl).1 rfl fun a H=>zo H rfl (y_shead H rfl rfl fun a H=>zo H rfl ?_))))
      by_cases q44:((c.toNat:Int)) = ((34:Int))
      ·refine zet H rfl rfl fun H=>zo H rfl (zm H rfl fun H=>zf H rfl fun H=>zf H rfl fun H=>zf H rfl fun H=>zf H rfl fun H=>zo H rfl (zp H rfl rfl fun H=>zp H rfl rfl fun H=>za H rfl fun H=>zN (j41 ?_)));refine zK H [6,9,12,13,14,62,63,64] rfl fun H=>zr fun j45=>zm H rfl fun H=>znot H rfl fun H=>zm H rfl fun H=>zf H rfl fun H=>zf H rfl fun H=>zf H rfl fun H=>zf H rfl fun H=>zf H rfl fun H=>zp H rfl rfl fun H=>zN (j45 ?_);refine zj H rfl (wp_skip (bn (tn (j22 ?_))));refine y_reg (zadd (r:=((j+1:Nat):Int)) H rfl rfl fun H=>zm H rfl fun H=>zN (⟨⟨j+1,H.c,hb340,by omega⟩,?_⟩));have h2:=congrArg natT (H.ev (x:=.tmp 64) rfl);have h1:=HE.out
       show N - natT _ < N - natT _
       rw [h1,h2];simp only [natT];omega
      ·refine zef H rfl rfl fun H=>zo H rfl (zm H rfl fun H=>zo H rfl (zg fld_q4 H rfl fun H=>zo H rfl (y_load oneStrW H rfl (hr39 4 _ rfl).1 rfl fun a H=>zo H rfl (y_shead H rfl rfl fun a H=>zo H rfl ?_))))
       by_cases q46:((c.toNat:Int)) = ((39:Int))
       ·refine zet H rfl rfl fun H=>zo H rfl (zp H rfl rfl fun H=>zp H rfl rfl fun H=>za H rfl fun H=>zN (j41 ?_));refine zK H [6,9,12,13,14,62,63,64] rfl fun H=>zr fun j47=>zm H rfl fun H=>znot H rfl fun H=>zm H rfl fun H=>zf H rfl fun H=>zf H rfl fun H=>zf H rfl fun H=>zf H rfl fun H=>zf H rfl fun H=>zp H rfl rfl fun H=>zN (j47 ?_);refine zj H rfl (wp_skip (bn (tn (j22 ?_))));refine y_reg (zadd (r:=((j+1:Nat):Int)) H rfl rfl fun H=>zm H rfl fun H=>zN (⟨⟨j+1,H.c,hb340,by omega⟩,?_⟩));have h2:=congrArg natT (H.ev (x:=.tmp 64) rfl);have h1:=HE.out
        show N - natT _ < N - natT _
        rw [h1,h2];simp only [natT];omega
       ·refine zef H rfl rfl fun H=>zo H rfl (zp H rfl rfl fun H=>zp H rfl rfl fun H=>za H rfl fun H=>zN (j41 ?_));refine zK H [6,9,12,13,14,62,63,64] rfl fun H=>zs fun j48=>?_;have hrr:r = c::r2:=hq (by simp only [quotedB,Bool.or_eq_false_iff,beq_eq_false_iff_ne]; omega);refine y_reg (zm H rfl fun H=>znot H rfl fun H=>zm H rfl fun H=>zo H rfl (zg fld_x4 H rfl fun H=>zo H rfl (y_load oneStrW H rfl (hr38 4 _ rfl).1 rfl fun a H=>zo H rfl (zg fld_q4 H rfl fun H=>zo H rfl (y_load oneStrW H rfl (hr39 4 _ rfl).1 rfl fun a H=>zo H rfl (y_sneqF H rfl rfl (by rw [hrr]) rfl fun a H=>?_))))));refine zp H rfl rfl fun H=>zN (j48 ?_);refine zj H rfl (wp_skip (bn (tn (j22 ?_))));refine y_reg (zadd (r:=((j+1:Nat):Int)) H rfl rfl fun H=>zm H rfl fun H=>zN (⟨⟨j+1,H.c,hb340,by omega⟩,?_⟩));have h2:=congrArg natT (H.ev (x:=.tmp 64) rfl);have h1:=HE.out
        show N - natT _ < N - natT _
        rw [h1,h2];simp only [natT];omega
    ·have hb1k:=hb13.trans (hbk.mono hb13.size);refine zr fun j49=>zlf H rfl rfl fun H=>zN (j49 ?_);refine zK H [6,9,62,63,64,65] rfl fun H=>zs fun j50=>zj H rfl (wp_exit (te (te (in_exit (tn (j17 ?_))))));replace H:=H.sub [] (sub_nil);refine zr fun j51=>y_const4 H rfl rfl fun a H=>zC pf_tokens H rfl (Calls.mono (hF _ hb1k) ?_);rintro e w7 ⟨⟨ao7,c7,rfl⟩,hb7⟩;refine zR fun H=>zm H rfl fun H=>zx H rfl rfl fun H=>zx H rfl rfl fun H=>za H rfl fun H=>za H rfl fun H=>zN (j51 ?_);refine zr fun j52=>zm H rfl fun H=>zm H rfl fun H=>zo H rfl (zm H rfl fun H=>zo H rfl (y_lenS Tryz.underlying28 H rfl rfl fun a H=>zo H rfl (zet H rfl rfl fun H=>zp H rfl rfl fun H=>za H rfl fun H=>zN (j52 ?_))));refine wp_ret (retT (by rfl) H rfl ?_);exact ⟨rfl,hb7⟩
theorem fnTextForms_all (v vpk:Value) (ps:List UInt8) (pk:List Bool) (g:Nat) (w:World) (hv:View w g v ps) (hpk:BView w w.heap.size vpk pk) (hgl:Glob w) (h9:9≤w.heap.size) :
  Calls Tryz.prog 4 #[v,vpk] w fun e w'=>e = .returned (.bool true)∧Below w.heap.size w w':=by
 by_cases hne:ps = []
 ·subst hne;exact fnTextForms_any v vpk [] pk 0 w hv.any (by omega) hpk hgl h9
 ·exact fnTextForms_any v vpk ps pk g w hv (hv.lt hne) hpk hgl h9
end Go.Proofs.YtgdnpnipahegaaaGreatDoor
namespace Go.Proofs.YtgdnpnipahegaaaGreatDoor
open Go.ChangeShapes Go.WideShapes Go.ChangeAt Go.RowKit
theorem open_bytes {H:Type} {enc:TypeId × Value→H} {P:Program} {W:World} {T E:TypeId} {r:Reach} {b0:Nat} {v:Value} {d:DataW H} {ps:List MemPlace} (ht:P.underlying T = some (.slice E)) (he:P.underlying E = some (.int .u8))
  (hc:P.cellsOf E = 1) (hval:Value.okWide P W r b0 T v) (hd:DataW.Trod enc P W 0 (fun _=>true) true T v d ps):∃ g bs,View W g v bs:=by
 obtain ⟨a0,len,cap,rfl⟩:=okWide_slice ht hval;obtain ⟨fuel,hf⟩:=hd
 rcases open_ints ht he hc hf with ⟨hcs,hx⟩ | ⟨a,len',cap',zs,hcs,_,hl,hm,hz,hx,hcell,hwz⟩
 ·simp [Value.cells] at hcs;obtain ⟨rfl,rfl,rfl⟩:=hcs;exact ⟨0,[],none,0,rfl,by simp,by simp [maxLen],fun _=>rfl,0,fun h=>absurd rfl h,fun j hj=>by simp at hj⟩
 ·simp [Value.cells] at hcs;obtain ⟨rfl,rfl,rfl⟩:=hcs
  have hz2:zs.length = cap:=by simpa using hz
  by_cases h0:cap = 0
  ·have hl0:len = 0:=by omega
   subst h0;subst hl0;exact ⟨0,[],some a,0,rfl,by simp,hm,(fun h=>by cases h),0,fun h=>absurd rfl h,fun j hj=>by simp at hj⟩
  ·obtain ⟨b,off,rfl,hc2⟩:=ints_at hcell (by omega);refine ⟨b,(zs.take len).map (fun n=>UInt8.ofNat n.toNat),some ⟨b,off,none⟩,cap,?_,?_,hm,(fun h=>by cases h),off,fun _=>rfl,?_⟩
   ·simp; omega
   ·simp; omega
   ·intro j hj
    have hj2:j < len∧j < zs.length:=by simp at hj; omega
    have h1:=hc2 j hj2.2;rw [h1];have hw:=hwz (zs.getD j 0) (by rw [List.getD_eq_getElem?_getD,List.getElem?_eq_getElem hj2.2]; exact List.getElem_mem hj2.2)
    have hb:0≤zs.getD j 0∧zs.getD j 0 < 256:=by
     simp [Lit.wf,IntKind.min,IntKind.max,IntKind.signed,IntKind.bits] at hw;simp; omega
    have e:=toNat_of hb;simp only [List.getElem_map,List.getElem_take]
    have e2:zs.getD j 0 = zs[j]'hj2.2:=by rw [List.getD_eq_getElem?_getD,List.getElem?_eq_getElem hj2.2]; try rfl
    rw [e2] at e ⊢;rw [e]
end Go.Proofs.YtgdnpnipahegaaaGreatDoor
namespace Go.Proofs.YtgdnpnipahegaaaGreatDoor
open Go.ChangeShapes Go.WideShapes Go.ChangeAt Go.RowKit
set_option maxRecDepth 100000 in
theorem open_boolv {H:Type} {enc:TypeId × Value→H} {W:World} {b0:Nat} {v:Value} {d:DataW H} {ps:List MemPlace} (hval:Value.okWide Tryz.prog W .any b0 32 v) (hd:DataW.Trod enc Tryz.prog W 0 (fun _=>true) true 32 v d ps):∃ l,BView W W.heap.size v l:=by
 obtain ⟨a0,len,cap,rfl⟩:=okWide_slice Tryz.underlying32 hval;obtain ⟨fuel,hf⟩:=hd
 rcases Go.Deep.open_bools Tryz.underlying32 Tryz.underlying4 (by kernel_rfl) hf with ⟨hcs,_⟩ | ⟨a,len',cap',B,hcs,_,hl,hm,_,hc⟩
 ·simp [Value.cells] at hcs;obtain ⟨rfl,rfl,rfl⟩:=hcs;exact ⟨[],BView.nil _ _⟩
 ·simp [Value.cells] at hcs;obtain ⟨rfl,rfl,rfl⟩:=hcs;refine ⟨(List.range len).map B,some a,cap,by simp,fun j hj=>?_⟩
  have hj2:j < len:=by simpa using hj
  obtain ⟨b,o,s⟩:=a;have h0:=hc 0 (by omega);have h1:=hc j (by omega)
  have hs:s = none:=by simpa [Addr.add] using World.cell?_spot h0
  subst hs;rw [Addr.add_lit] at h1;exact ⟨b,o,rfl,World.block_lt_of_cell? W _ h1,by rw [h1]; simp⟩
end Go.Proofs.YtgdnpnipahegaaaGreatDoor
namespace Go.Proofs.YtgdnpnipahegaaaGreatDoor
open Go.ChangeShapes Go.WideShapes Go.ChangeAt Go.RowKit
def u8ren:Go.Shelf.Ren:=⟨fun n=>n,fun | 5=>5 | 119=>125 | 138=>127 | 139=>128 | n=>n,fun | 3=>4 | 4=>5 | n=>n⟩
theorem u8_types:U8Types Tryz.prog u8ren:=⟨by kernel_rfl,by kernel_rfl,by kernel_rfl,by kernel_rfl⟩
theorem u8_extra:U8Extra Tryz.prog u8ren:=⟨by kernel_rfl,by kernel_rfl,by kernel_rfl,by kernel_rfl,by kernel_rfl,by kernel_rfl,by kernel_rfl⟩
theorem acc_eq:(Rows.laid_unicode_utf8_acceptRanges:DataW Unit) = Lib.acceptData:=by kernel_rfl
def bruijn:List Int:=[0,1,56,2,57,49,28,3,61,58,42,50,38,29,17,4,62,47,59,36,45,43,51,22,53,39,33,30,24,18,12,5,63,55,48,27,60,41,37,16,46,35,44,21,52,32,23,11,54,26,40,15,34,20,31,10,25,14,19,9,13,8,7,6]
theorem bruijn_eq:(Rows.laid_math_bits_deBruijn64tab:DataW Unit) = Lib.tabData .u8 bruijn:=by kernel_rfl
theorem err_star : "*" ++ "errors.errorString" = "*errors.errorString" := by decide
theorem err_row (u : TypeId) (h : Tryz.prog.typeName? 3 u = some "*errors.errorString") : u = 138 :=
 typeName_ptr_named (nm := "errors.errorString") (by rw [err_star]; kernel_rfl) (by kernel_rfl) (by decide) u (by rw [err_star]; exact h)
theorem errVar_of {n : String} {text : List UInt8} {r : List (String × DataW Unit)} {W : World} {g : Nat} (h : laidMet Tryz.prog ((n, .iface "*errors.errorString" (.ptr (.agg [.lit (.string text)]))) :: r) W)
  (hg:Tryz.prog.globalNamed n = some g) (ht:(Tryz.prog.globals[g]?).map (·.type) = some 52):ErrVar g W:=by
 obtain ⟨a,s,hv,_⟩:=laid_sentinel h hg ht Tryz.underlying52 err_row Tryz.underlying138 Tryz.underlying140 rfl rfl Tryz.underlying9 (by kernel_rfl) (by kernel_rfl);have:=World.var?_cell hg hv 0;exact ⟨_,_,by simpa using this⟩
structure Glob9 (w:World):Prop where
 glob:Glob w
 size:9≤w.heap.size
 bits:w.cell? ⟨8,15,none⟩ = some (.int .u8 4)
theorem glob_here {W:World} (h:laidMetH Tryz.prog Rows.fnTextPeeksRow.laid W):Glob9 W:=by
 rw [MakeChecks.laidMetH_plain _ _ _ (by kernel_rfl)] at h;have h' : laidMet Tryz.prog [("math/bits.deBruijn32tab", Rows.laid_math_bits_deBruijn32tab), ("math/bits.deBruijn64tab", Rows.laid_math_bits_deBruijn64tab), ("internal/strconv.uint64pow10", Rows.laid_internal_strconv_uint64pow10), ("unicode/utf8.acceptRanges", Rows.laid_unicode_utf8_acceptRanges), ("strconv.ErrRange", Rows.laid_strconv_ErrRange), ("strconv.ErrSyntax", Rows.laid_strconv_ErrSyntax), ("pub-codicil/pub/protobuf/inner/encoding/text.ErrUnexpectedEOF", Rows.laid_pub_codicil_pub_protobuf_inner_encoding_text_ErrUnexpectedEOF), ("unicode/utf8.first", Rows.laid_unicode_utf8_first)] W := h;rw [acc_eq, bruijn_eq] at h';have h4 := h'.tail.tail.tail.tail;have e4 : ErrVar 3 W := errVar_of h4 (by kernel_rfl) (by kernel_rfl);have e3 : ErrVar 2 W := errVar_of h4.tail (by kernel_rfl) (by kernel_rfl);have e0 : ErrVar 0 W := errVar_of h4.tail.tail (by kernel_rfl) (by kernel_rfl)
 have hb:W.cell? ⟨8,15,none⟩ = some (.int .u8 4):=by
  obtain ⟨g, t, cs, fuel, p, hg, hty, hvar, hd⟩ := Lib.laidMet.reads h' (n := "math/bits.deBruijn64tab") (d := Lib.tabData .u8 bruijn) (.tail _ (.head _));obtain rfl := Option.some.inj ((show Tryz.prog.globalNamed "math/bits.deBruijn64tab" = some 8 by kernel_rfl).symm.trans hg);obtain rfl := Option.some.inj ((show (Tryz.prog.globals[8]?).map (·.type) = some 159 by kernel_rfl).symm.trans hty);have hcs := Lib.cells_of_tab Tryz.underlying159 Tryz.underlying5 (by kernel_rfl) (by kernel_rfl) hd;have := World.var?_cell hg hvar 15;rw [this, ← Array.getElem?_toList, hcs]
  try rfl
 refine ⟨⟨?_,e0,e3,e4⟩,?_,hb⟩
 ·exact utf8Tabs_of_readsT (ρ:=u8ren) u8_types u8_extra (Pinned.utf8First_eq ▸ Lib.laidMet.reads h' (.tail _ (.tail _ (.tail _ (.tail _ (.tail _ (.tail _ (.tail _ (.head _))))))))) (Lib.laidMet.reads h' (.tail _ (.tail _ (.tail _ (.head _)))))
 ·exact World.block_lt_of_cell? W _ hb
end Go.Proofs.YtgdnpnipahegaaaGreatDoor
