/-
 What every law of this seat needs: from a contract of the law's call (it returns true, and below the heap's old size nothing has changed) to the row's own words.
-/
import Derived.Test.YtgdnpnipahegaaaGreatDoorRows
import Derived.WalkKit
import Derived.WalkSpells
import Derived.WalkLawsBesides
import Derived.ProofKit
import Derived.Laws.AppendOwnNone
namespace Go.Proofs.YtgdnpnipahegaaaGreatDoor
section
open Go.ChangeShapes Go.WideShapes Go.ChangeAt Go.RowKit
theorem Tryz.own:ownKnob Tryz.prog.godebug = none:=by kernel_rfl
theorem Tryz.laidOut:laidOutB Tryz.prog = true:=by kernel_rfl
theorem Ad {a b c:World} (h1:Below a.heap.size a b) (h2:Below b.heap.size b c):Below a.heap.size a c:=h1.trans (h2.mono h1.size)
theorem I0 {H:Type} {enc:TypeId × Value→H} {P:Program} (hl:laidOutB P = true) {W W':World} (hb:Below W.heap.size W W') :
  ∀ {ts:List TypeId} {vs:List Value} {ds:List (DataW H)} {ps:List MemPlace},(ts.all fun t=>P.readableRec t && decide (t < P.types.size)) = true→
   (∀ x ∈ ps,x.block < W.heap.size)→DataW.TrodAll enc P W 0 (fun _=>true) true ts vs ds ps→
   DataW.TrodAll enc P W' 0 (fun b=>decide (b < W.heap.size)) true ts vs ds ps
 | [],_,_,_,_,_,h=>by
  obtain ⟨rfl,rfl,rfl⟩:=trodAll_nil h;exact trodAll_mk0
 | t::ts,_,_,_,hr,hlt,h=>by
  obtain ⟨v,vs',d,ds',p,q,rfl,rfl,rfl,h1,h2⟩:=trodAll_cons h;simp only [List.all_cons,Bool.and_eq_true,decide_eq_true_eq] at hr;exact ⟨p,q,Below.trod hl hr.1.1 hr.1.2 h1 hb (fun x hx=>hlt x (by simp [hx])),I0 hl hb hr.2 (fun x hx=>hlt x (by simp [hx])) h2,rfl⟩
theorem Mn {H:Type} {enc:TypeId × Value→H} {P:Program} (hl:laidOutB P = true) {f:Func} {s:ChangeSpec} {W W':World} {args:Array Value} {ds gs:List (DataW H)} {before:List MemPlace} {tb:TypeId}
  (hW:DataW.Whole enc P f.params.toList s.vars false W args.toList ds gs before) (hv:s.vars = []) (ht:f.resultTypes = #[tb]) (hbool:P.underlying tb = some .bool)
  (hr:(f.params.toList.all fun t=>P.readableRec t && decide (t < P.types.size)) = true)
  (hfn:s.fn H ds = { results:=[.lit (.bool true)],args:=ds }) (hb:Below W.heap.size W W') :
  s.post enc P f false true false false W args (.bool true) W':=by
 have hlt:=hW.lt;have hW0:=hW;obtain ⟨p,q,hA,hV,rfl,hfz,hnd⟩:=hW0
 have hgs:gs = []∧q = []:=by
  rw [hv] at hV
  cases gs with
  | nil=>exact ⟨rfl,hV⟩
  | cons d ds=>exact hV.elim
 obtain ⟨rfl,rfl⟩:=hgs
 have hds:s.fn H (ds++[]) = { results:=[.lit (.bool true)],args:=ds }:=by rw [List.append_nil]; exact hfn
 refine ⟨ds,[],p++[],[],p,[],hW,?_,?_,?_,hb.frame _,fun h=>by cases h⟩
 ·rw [hds,ht];exact trodAll_mk1 (shut_bool hbool true)
 ·rw [hds];exact I0 hl hb hr (fun x hx=>hlt x (by simp [hx])) hA
 ·rw [hds,hv]
  try rfl
end
section
open Go.RowKit
theorem hid {p:Prop} (h:p):Hid p:=h
theorem Ed (l:List UInt8):(ByteArray.mk l.toArray).size = l.length:=List.size_toArray
theorem Rr (l:List UInt8):(ByteArray.mk l.toArray).data.toList = l:=by simp
theorem Fm {a b:Bool} (h:a = true↔b = true):Ending.returned (.bool a) = Ending.returned (.bool b):=by rw [Bool.eq_iff_iff.2 h]
theorem Q1 {k:IntKind} {a b:Int} (h:a = b):Ending.returned (.int k a) = Ending.returned (.int k b):=by rw [h]
theorem AM (b:UInt8):0≤(b.toNat:Int)∧(b.toNat:Int) < 256:=by have:=b.toNat_lt; omega
theorem SU {n:Int} (h:0≤n∧n < 256):((UInt8.ofNat n.toNat).toNat:Int) = n:=by
 have:n.toNat < 256:=by omega
 simp [Nat.mod_eq_of_lt this]; omega
def byteCells (bs:List UInt8):List Value:=bs.map fun b=>Value.int .u8 (b.toNat:Int)
theorem CE (bs:List UInt8):(byteCells bs).length = bs.length:=by simp [byteCells]
theorem Co (a b:List UInt8):byteCells (a++b) = byteCells a++byteCells b:=by simp [byteCells]
def OwnB (w:World) (B:Nat) (e:TypeId) (v:Value) (bs:List UInt8):Prop:=w.ownsRow B e 1 v bs.length (byteCells bs)
theorem OwnB.nil (w:World) (B:Nat) (e:TypeId):OwnB w B e (.slice none 0 0) []:=World.ownsRow_nil w B e 1
theorem OwnB.alloc {w:World} {B:Nat} {e:TypeId} {v:Value} {bs:List UInt8} (h:OwnB w B e v bs) (o:Obj):OwnB (w.alloc o) B e v bs:=World.ownsRow.alloc h o
theorem OwnB.drew {w:World} {B:Nat} {e:TypeId} {v:Value} {bs:List UInt8} (h:OwnB w B e v bs):OwnB w.drew B e v bs:=h
theorem OwnB.eq {w:World} {B:Nat} {e:TypeId} {v:Value} {bs bs':List UInt8} (h:OwnB w B e v bs) (he:bs = bs'):OwnB w B e v bs':=he ▸ h
theorem Kf {w:World} {ad:Addr} {bs:List UInt8} (h:∀ j u,(byteCells bs)[j]? = some u→w.cell? (ad.add j) = some u) :
  ∀ j (hj:j < bs.length),w.cell? (ad.add j) = some (.int .u8 (bs[j].toNat:Int)):=by
 intro j hj;exact h j _ (by simp [byteCells,List.getElem?_eq_getElem hj])
theorem OwnB.cells {w:World} {B:Nat} {e:TypeId} {bs:List UInt8} {ad:Addr} {n c:Nat} (h:OwnB w B e (.slice (some ad) n c) bs) :
  n = bs.length∧∀ j (hj:j < bs.length),w.cell? (ad.add j) = some (.int .u8 (bs[j].toNat:Int)):=by
 have h2:=h.2
 rcases h2 with ⟨h0,_⟩ | ⟨g,cap,cur,hv,_⟩
 ·cases h0
 ·injection hv with h1 h3 h4
  injection h1 with h1
  subst h1;exact ⟨h3,Kf (World.ownsRow.cells h (g:=g) rfl)⟩
section
variable {P:Program} {ops:Array Oper} {rest:List Oper} {o:Oper} {a:Act} {Q:Exit→Act→World→Prop}
end
end
section
open Go.RowKit
def View (w:World) (g:Nat) (v:Value) (bs:List UInt8):Prop:=
 ∃ ao cap,v = .slice ao bs.length cap∧bs.length≤cap∧cap≤maxLen∧(ao = none→cap = 0)∧
  ∃ off,(bs≠[]→ao = some ⟨g,off,none⟩)∧∀ j (hj:j < bs.length),w.cell? ⟨g,off+j,none⟩ = some (.int .u8 (bs[j].toNat:Int))
theorem View.kept {w w':World} {g:Nat} {v:Value} {bs:List UInt8} (h:View w g v bs) (hg:w'.heap[g]? = w.heap[g]?):View w' g v bs:=by
 obtain ⟨ao,cap,hv,h1,h2,hn0,off,h3,h4⟩:=h;exact ⟨ao,cap,hv,h1,h2,hn0,off,h3,fun j hj=>by rw [World.cell?_of_block (w:=w) (a:=⟨g,off+j,none⟩) hg]; exact h4 j hj⟩
theorem View.lt {w:World} {g:Nat} {v:Value} {bs:List UInt8} (h:View w g v bs) (hne:bs≠[]):g < w.heap.size:=by
 obtain ⟨ao,cap,hv,h1,h2,hn0,off,h3,h4⟩:=h;have h0:0 < bs.length:=List.length_pos_iff.2 hne;exact World.block_lt_of_cell? w ⟨g,off+0,none⟩ (h4 0 h0)
theorem View.below {w w':World} {g:Nat} {v:Value} {bs:List UInt8} (h:View w g v bs) (hb:Below w.heap.size w w'):View w' g v bs:=by
 by_cases hne:bs = []
 ·obtain ⟨ao,cap,hv,h1,h2,hn0,off,h3,h4⟩:=h;exact ⟨ao,cap,hv,h1,h2,hn0,off,h3,fun j hj=>by rw [hne] at hj; simp at hj⟩
 ·exact h.kept (hb.block g (h.lt hne))
theorem View.alloc {w:World} {g:Nat} {v:Value} {bs:List UInt8} (h:View w g v bs) (o:Obj):View (w.alloc o) g v bs:=
 h.below ((Below.refl _ _).alloc (Nat.le_refl _) _)
theorem View.drew {w:World} {g:Nat} {v:Value} {bs:List UInt8} (h:View w g v bs):View w.drew g v bs:=h.below (Below.refl _ _).drew
theorem View.eq {w:World} {g:Nat} {v:Value} {bs bs':List UInt8} (h:View w g v bs) (he:bs = bs'):View w g v bs':=he ▸ h
theorem View.len {w:World} {g:Nat} {v:Value} {bs:List UInt8} (h:View w g v bs):bs.length≤maxLen:=by
 obtain ⟨ao,cap,hv,h1,h2,hn0,off,h3,h4⟩:=h;omega
theorem View.slice {w:World} {g:Nat} {v:Value} {bs:List UInt8} (h:View w g v bs):∃ ao cap,v = .slice ao bs.length cap:=by
 obtain ⟨ao,cap,hv,_⟩:=h;exact ⟨ao,cap,hv⟩
section
variable {P:Program} {ops:Array Oper} {rest:List Oper} {o:Oper} {a:Act} {Q:Exit→Act→World→Prop}
theorem CA {w:World} (hw:Region.wanted o (yielded ops a.tmps) = true)
  (h:∀ K:Act→World→Prop,(∀ a w,wpList P ops Q rest a w→K a w)→o.wp P a w K Q):wpList P ops Q (o::rest) a w:=
 wpList_step fun K hK=>by rw [if_pos hw]; exact h K hK
theorem Bc (w:World) (hw:Region.wanted o (yielded ops a.tmps) = true) (x:Operand) (t e:TypeId)
  (ho:o.op = .call { callee:=.builtin .len,args:=#[x],argTypes:=#[t] }) (ht:P.underlying t = some (.slice e)) (g:Nat) (v:Value) (bs:List UInt8) (hx:a.eval x = v) (hv:View w g v bs)
  (h:wpList P ops Q rest (a.put o.dst (.int .i64 (bs.length:Int))) w):wpList P ops Q (o::rest) a w:=by
 obtain ⟨ao,cap,rfl⟩:=hv.slice;refine CA hw fun K hK=>?_;unfold Oper.wp;simp [execOp,ho,resolve,invoke,builtin,hx,Builtin.len_,run_underlying ht,goInt];exact hK _ _ h
theorem Ai (w:World) (hw:Region.wanted o (yielded ops a.tmps) = true) (x i:Operand) (t e:TypeId) (ho:o.op = .indexAddr t x i)
  (ht:P.underlying t = some (.slice e)) (hinfo:(P.info? e).map (fun i=>(i.zero,i.size,i.bytes)) = some (some (.int .u8 0),1,1))
  (g:Nat) (v:Value) (bs:List UInt8) (hx:a.eval x = v) (hv:View w g v bs) (k:IntKind) (n:Int) (hi:a.eval i = .int k n) (h0:0≤n) (h1:n.toNat < bs.length)
  (h:∀ ad:Addr,w.cell? ad = some (.int .u8 ((bs[n.toNat]'h1).toNat:Int))→wpList P ops Q rest (a.put o.dst (.pointer (some ad))) w):wpList P ops Q (o::rest) a w:=by
 obtain ⟨ao,cap,rfl,h2,h3,hn0,off,h4,h5⟩:=hv;obtain ⟨inf,hi1,hz,hz1,hz2⟩:=info_parts hinfo
 have hne:bs≠[]:=by intro e; subst e; simp at h1
 obtain rfl:=h4 hne;refine CA hw fun K hK=>?_
 have hn:n < (bs.length:Int):=by omega
 unfold Oper.wp;simp [execOp,ho,hx,hi,Instr.indexAt,asIntOf,run_underlying ht,h0,hn,sizeOf,typeInfo,hi1,hz1,Addr.add_lit];exact hK _ _ (h _ (h5 n.toNat h1))
theorem Gq (w:World) (hw:Region.wanted o (yielded ops a.tmps) = true) (x lo hi:Operand) (t e:TypeId) (ho:o.op = .slice t x (some lo) (some hi) none)
  (ht:P.underlying t = some (.slice e)) (hinfo:(P.info? e).map (fun i=>(i.zero,i.size,i.bytes)) = some (some (.int .u8 0),1,1))
  (g:Nat) (v:Value) (bs:List UInt8) (hx:a.eval x = v) (hv:View w g v bs) (k k':IntKind) (l n:Int) (hl:a.eval lo = .int k l) (hn:a.eval hi = .int k' n) (h0:0≤l) (h1:l≤n) (h2:n≤bs.length)
  (h:∀ v',View w g v' ((bs.drop l.toNat).take (n.toNat - l.toNat))→wpList P ops Q rest (a.put o.dst v') w):wpList P ops Q (o::rest) a w:=by
 obtain ⟨ao,cap,rfl,h3,h4,hn0,off,h5,h6⟩:=hv;obtain ⟨inf,hi1,hz,hz1,hz2⟩:=info_parts hinfo;refine CA hw fun K hK=>?_
 have hc:n≤(cap:Int):=by omega
 have hlen:((bs.drop l.toNat).take (n.toNat - l.toNat)).length = n.toNat - l.toNat:=by simp; omega
 have hv':View w g (sliced ao l.toNat n.toNat cap 1) ((bs.drop l.toNat).take (n.toNat - l.toNat)):=by
  refine ⟨_,_,by rw [hlen]; try rfl,by omega,by omega,by intro he; cases ao with
   | none=>have:=hn0 rfl; omega
   | some ad=>split at he <;> simp at he,off+l.toNat,?_,?_⟩
  ·intro hne
   have:n.toNat - l.toNat≠0:=by intro e; apply hne; exact List.eq_nil_of_length_eq_zero (by omega)
   have hbs:bs≠[]:=by intro e; subst e; simp at h2; omega
   rw [if_neg (by omega),h5 hbs];simp [Addr.add_lit]
  ·intro j hj;rw [hlen] at hj
   have e1:off+l.toNat+j = off+(l.toNat+j):=by omega
   rw [e1,h6 (l.toNat+j) (by omega)];simp
 have hs:P.underlying t = some (.slice (P.elem t)):=by simp [Program.elem,ht]
 have he:P.elem t = e:=by simp [Program.elem,ht]
 have hsz:(sizeOf (P.elem t)).run P w = .ok 1 w:=by simp [sizeOf,typeInfo,he,hi1,hz1]
 have hrun:(Instr.sliceAt t (.slice ao bs.length cap) (some (.int k l)) (some (.int k' n)) none).run P w = .ok (sliced ao l.toNat n.toNat cap 1) w:=by
  rw [run_sliceAt_slice w t _ _ _ _ hs,run_slice_lh w t ao bs.length cap hs k k' l n h0 h1 hc,hsz];simp [Result.andThen]
 unfold Oper.wp;simp [execOp,ho,hx,hl,hn,hrun,Result.andThen];exact hK _ _ (h _ hv')
theorem Fx (w:World) (hw:Region.wanted o (yielded ops a.tmps) = true) (x hi:Operand) (t e:TypeId) (ho:o.op = .slice t x none (some hi) none)
  (ht:P.underlying t = some (.slice e)) (hinfo:(P.info? e).map (fun i=>(i.zero,i.size,i.bytes)) = some (some (.int .u8 0),1,1))
  (g:Nat) (v:Value) (bs:List UInt8) (hx:a.eval x = v) (hv:View w g v bs) (k':IntKind) (n:Int) (hn:a.eval hi = .int k' n) (h1:0≤n) (h2:n≤bs.length)
  (h:∀ v',View w g v' (bs.take n.toNat)→wpList P ops Q rest (a.put o.dst v') w):wpList P ops Q (o::rest) a w:=by
 obtain ⟨ao,cap,rfl,h3,h4,hn0,off,h5,h6⟩:=hv;obtain ⟨inf,hi1,hz,hz1,hz2⟩:=info_parts hinfo;refine CA hw fun K hK=>?_
 have hc:n≤(cap:Int):=by omega
 have hlen:(bs.take n.toNat).length = n.toNat:=by simp; omega
 have hv':View w g (sliced ao 0 n.toNat cap 1) (bs.take n.toNat):=by
  refine ⟨_,_,by rw [hlen]; try rfl,by omega,by omega,by intro he; cases ao with
   | none=>have:=hn0 rfl; omega
   | some ad=>split at he <;> simp at he,off,?_,?_⟩
  ·intro hne
   have hbs:bs≠[]:=by intro e; subst e; simp at hne
   rw [h5 hbs]
   split <;> simp [Addr.add_lit]
  ·intro j hj;rw [hlen] at hj;rw [h6 j (by omega)];simp
 have hs:P.underlying t = some (.slice (P.elem t)):=by simp [Program.elem,ht]
 have he:P.elem t = e:=by simp [Program.elem,ht]
 have hsz:(sizeOf (P.elem t)).run P w = .ok 1 w:=by simp [sizeOf,typeInfo,he,hi1,hz1]
 have hrun:(Instr.sliceAt t (.slice ao bs.length cap) none (some (.int k' n)) none).run P w = .ok (sliced ao 0 n.toNat cap 1) w:=by
  rw [run_sliceAt_slice w t _ _ _ _ hs,run_slice_h w t ao bs.length cap hs k' n h1 hc,hsz];simp [Result.andThen]
 unfold Oper.wp;simp [execOp,ho,hx,hn,hrun,Result.andThen];exact hK _ _ (h _ hv')
theorem AL (w:World) (hw:Region.wanted o (yielded ops a.tmps) = true) (x lo:Operand) (t e:TypeId) (ho:o.op = .slice t x (some lo) none none)
  (ht:P.underlying t = some (.slice e)) (hinfo:(P.info? e).map (fun i=>(i.zero,i.size,i.bytes)) = some (some (.int .u8 0),1,1))
  (g:Nat) (v:Value) (bs:List UInt8) (hx:a.eval x = v) (hv:View w g v bs) (k:IntKind) (l:Int) (hl:a.eval lo = .int k l) (h0:0≤l) (h1:l≤bs.length)
  (h:∀ v',View w g v' (bs.drop l.toNat)→wpList P ops Q rest (a.put o.dst v') w):wpList P ops Q (o::rest) a w:=by
 obtain ⟨ao,cap,rfl,h3,h4,hn0,off,h5,h6⟩:=hv;obtain ⟨inf,hi1,hz,hz1,hz2⟩:=info_parts hinfo;refine CA hw fun K hK=>?_
 have hlen:(bs.drop l.toNat).length = bs.length - l.toNat:=by simp
 have hv':View w g (sliced ao l.toNat bs.length cap 1) (bs.drop l.toNat):=by
  refine ⟨_,_,by rw [hlen]; try rfl,by omega,by omega,by intro he; cases ao with
   | none=>have:=hn0 rfl; omega
   | some ad=>split at he <;> simp at he,off+l.toNat,?_,?_⟩
  ·intro hne
   have:bs.length - l.toNat≠0:=by intro e; apply hne; exact List.eq_nil_of_length_eq_zero (by omega)
   have hbs:bs≠[]:=by intro e; subst e; simp at hne
   rw [if_neg (by omega),h5 hbs];simp [Addr.add_lit]
  ·intro j hj;rw [hlen] at hj
   have e1:off+l.toNat+j = off+(l.toNat+j):=by omega
   rw [e1,h6 (l.toNat+j) (by omega)];simp
 have hs:P.underlying t = some (.slice (P.elem t)):=by simp [Program.elem,ht]
 have he:P.elem t = e:=by simp [Program.elem,ht]
 have hsz:(sizeOf (P.elem t)).run P w = .ok 1 w:=by simp [sizeOf,typeInfo,he,hi1,hz1]
 have hrun:(Instr.sliceAt t (.slice ao bs.length cap) (some (.int k l)) none none).run P w = .ok (sliced ao l.toNat bs.length cap 1) w:=by
  rw [run_sliceAt_slice w t _ _ _ _ hs,run_slice_l w t ao bs.length cap hs k l h0 h1,hsz];simp [Result.andThen]
 unfold Oper.wp;simp [execOp,ho,hx,hl,hrun,Result.andThen];exact hK _ _ (h _ hv')
theorem Bu (w:World) (hw:Region.wanted o (yielded ops a.tmps) = true) (x:Operand) (src dst e:TypeId) (ho:o.op = .convert src dst x)
  (hs:P.underlying src = some (.slice e)) (he:P.underlying e = some (.int .u8)) (hd:P.underlying dst = some .string)
  (g:Nat) (v:Value) (bs:List UInt8) (hx:a.eval x = v) (hv:View w g v bs)
  (h:wpList P ops Q rest (a.put o.dst (.string ⟨bs.toArray⟩)) w):wpList P ops Q (o::rest) a w:=by
 obtain ⟨ao,cap,rfl,h3,h4,hn0,off,h5,h6⟩:=hv;refine CA hw fun K hK=>?_
 have hrun:(convert src dst (.slice ao bs.length cap)).run P w = .ok (.string ⟨bs.toArray⟩) w:=by
  by_cases hne:bs = []
  ·subst hne
   cases ao with
   | none=>
    rw [run_convert_bytes_string w src dst e none _ _ hs he hd];simp [Conv.bytesToString];rfl
   | some ad=>exact run_convert_bytes_back w src dst e ad cap [] hs he hd (fun j hj=>by simp at hj)
  ·rw [h5 hne];exact run_convert_bytes_back w src dst e _ cap bs hs he hd (fun j hj=>by rw [Addr.add_lit]; exact h6 j hj)
 unfold Oper.wp;simp [execOp,ho,hx,hrun,Result.andThen];exact hK _ _ h
theorem F6 (w:World) (hgd:o.guard = none) (s x:Operand) (t:TypeId)
  (ho:o.op = .call { callee:=.builtin .append,args:=#[s,x],argTypes:=#[t,t] })
  (B:Nat) (e:TypeId) (ht:P.underlying t = some (.slice e)) (hinfo:(P.info? e).map (fun i=>(i.zero,i.size,i.bytes)) = some (some (.int .u8 0),1,1))
  (v:Value) (bs:List UInt8) (hs:a.eval s = v) (hown:OwnB w B e v bs) {w0:World} (hb:Below B w0 w) (hB:B≤w0.heap.size)
  (g:Nat) (u:Value) (ys:List UInt8) (hx:a.eval x = u) (hv:View w g u ys) (hlen:bs.length+ys.length≤140737488355328)
  (h:∀ v' w',OwnB w' B e v' (bs++ys)→Below B w0 w'→w.grownBy w' v.ownBlock→wpList P ops Q rest (a.put o.dst v') w') :
  wpList P ops Q (o::rest) a w:=by
 obtain ⟨i,hi,hz,hz1,hz2⟩:=info_parts hinfo;obtain ⟨ao,cap,rfl,h3,h4,hn0,off,h5,h6⟩:=hv;have hsz:=hb.size;have hml:maxLen = 9223372036854775807:=rfl
 cases ao with
 | none=>
  have hys:ys = []:=by
   cases ys with
   | nil=>rfl
   | cons c l=>exact absurd (h5 (by simp)) (by simp)
  subst hys;obtain rfl:=hn0 rfl;refine wpList_append_own_none hgd s x t ho B e i 1 ht hi v bs.length (byteCells bs) hs hown hx (h v w ?_ hb ⟨rfl,rfl,rfl,Nat.le_refl _,fun _ _ _=>rfl⟩);rw [List.append_nil]; exact hown
 | some ad=>
  refine wpList_append_own _ hgd s x t ho B e i (.int .u8 0) 1 1 ht hi hz hz1 hz2 rfl (by decide) v bs.length (byteCells bs) hs hown
   ad ys.length cap (byteCells ys) hx (by simp [byteCells]) ?_ (by intro u hu; simp [byteCells] at hu; obtain ⟨b,_,rfl⟩:=hu; rfl) (by omega) (by omega) (by omega) ?_
  ·intro j u hu
   have hj:j < ys.length:=by
    have:=(List.getElem?_eq_some_iff.1 hu).1
    simpa [byteCells] using this
   have hne:ys≠[]:=by intro e; subst e; simp at hj
   have:=h5 hne
   injection this with this
   subst this;rw [Addr.add_lit,h6 j hj]
   simpa [byteCells,List.getElem?_eq_getElem hj] using hu
  ·intro v' w' hown' hgrow _;refine h v' w' ?_ (hb.grown hgrow (by omega) (fun k hk=>(World.ownsRow.lt hown k hk).1)) hgrow;rw [←Co] at hown';unfold OwnB
   simpa using hown'
theorem OwnB.view {w:World} {B:Nat} {e:TypeId} {v:Value} {bs:List UInt8} (h:OwnB w B e v bs):∃ g,View w g v bs∧(∀ k,v.ownBlock = some k→k = g):=by
 rcases h.2 with ⟨rfl,h0⟩ | ⟨g,cap,cur,rfl,hb,hg,hnc,hcm,hcs,htake⟩
 ·have:bs = []:=List.eq_nil_of_length_eq_zero h0;subst this;exact ⟨0,⟨none,0,rfl,by simp,by simp [maxLen],fun _=>rfl,0,fun hne=>absurd rfl hne,fun j hj=>by simp at hj⟩,fun k hk=>by simp [Value.ownBlock] at hk⟩
 ·refine ⟨g,⟨_,cap,rfl,hnc,hcm,(fun he=>by cases he),0,fun _=>rfl,fun j hj=>?_⟩,fun k hk=>by simpa [Value.ownBlock] using hk.symm⟩;have:=h.cells.2 j hj;rwa [Addr.add_lit] at this
end
end
end Go.Proofs.YtgdnpnipahegaaaGreatDoor
