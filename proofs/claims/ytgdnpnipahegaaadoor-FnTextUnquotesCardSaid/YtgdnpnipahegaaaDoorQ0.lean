/-
 What every law of this seat needs: from a contract of the law's call (it returns true, and below the heap's old size nothing has changed) to the row's own words.
-/
import Derived.Test.YtgdnpnipahegaaaDoorRows
import Derived.WalkKit
import Derived.WalkSpells
import Derived.WalkLawsBesides
import Derived.ProofKit
import Derived.Laws.AppendOwnNone
import Derived.Laws.BitsLemmas
import Derived.Deep.QuietTactic
import Derived.BigQuiet
namespace Go.Proofs.YtgdnpnipahegaaaDoor
section
open Go.ChangeShapes Go.WideShapes Go.ChangeAt Go.RowKit
theorem Tryd.own:ownKnob Tryd.prog.godebug = none:=by kernel_rfl
theorem Tryd.laidOut:laidOutB Tryd.prog = true:=by kernel_rfl
theorem Aa {a b c:World} (h1:Below a.heap.size a b) (h2:Below b.heap.size b c):Below a.heap.size a c:=h1.trans (h2.mono h1.size)
theorem CK {H:Type} {enc:TypeId × Value→H} {P:Program} (hl:laidOutB P = true) {W W':World} (hb:Below W.heap.size W W') :
  ∀ {ts:List TypeId} {vs:List Value} {ds:List (DataW H)} {ps:List MemPlace},(ts.all fun t=>P.readableRec t && decide (t < P.types.size)) = true→
   (∀ x ∈ ps,x.block < W.heap.size)→DataW.TrodAll enc P W 0 (fun _=>true) true ts vs ds ps→
   DataW.TrodAll enc P W' 0 (fun b=>decide (b < W.heap.size)) true ts vs ds ps
 | [],_,_,_,_,_,h=>by
  obtain ⟨rfl,rfl,rfl⟩:=trodAll_nil h;exact trodAll_mk0
 | t::ts,_,_,_,hr,hlt,h=>by
  obtain ⟨v,vs',d,ds',p,q,rfl,rfl,rfl,h1,h2⟩:=trodAll_cons h;simp only [List.all_cons,Bool.and_eq_true,decide_eq_true_eq] at hr;exact ⟨p,q,Below.trod hl hr.1.1 hr.1.2 h1 hb (fun x hx=>hlt x (by simp [hx])),CK hl hb hr.2 (fun x hx=>hlt x (by simp [hx])) h2,rfl⟩
theorem FO {H:Type} {enc:TypeId × Value→H} {P:Program} (hl:laidOutB P = true) {f:Func} {s:ChangeSpec} {W W':World} {args:Array Value} {ds gs:List (DataW H)} {before:List MemPlace} {tb:TypeId}
  (hW:DataW.Whole enc P f.params.toList s.vars false W args.toList ds gs before) (hv:s.vars = []) (ht:f.resultTypes = #[tb]) (hbool:P.underlying tb = some .bool)
  (hr:(f.params.toList.all fun t=>P.readableRec t && decide (t < P.types.size)) = true)
  (hfn:s.fn H ds = { results:=[.lit (.bool true)],args:=ds }) (hb:Below W.heap.size W W') :
  s.post enc P f false true false false W args (.bool true) W':=by
 have hlt:=hW.lt;have hW0:=hW;obtain ⟨p,q,hA,hV,rfl,hfz,hnd⟩:=hW0
 have hgs:gs = []∧q = []:=by
  rw [hv] at hV
  cases gs with
  | nil=>exact ⟨rfl,hV⟩
  | cons d ds=>exact hV.elim
 obtain ⟨rfl,rfl⟩:=hgs
 have hds:s.fn H (ds++[]) = { results:=[.lit (.bool true)],args:=ds }:=by rw [List.append_nil]; exact hfn
 refine ⟨ds,[],p++[],[],p,[],hW,?_,?_,?_,hb.frame _,fun h=>by cases h⟩
 ·rw [hds,ht];exact trodAll_mk1 (shut_bool hbool true)
 ·rw [hds];exact CK hl hb hr (fun x hx=>hlt x (by simp [hx])) hA
 ·rw [hds,hv]
  try rfl
end
section
open Go.RowKit
theorem hid {p:Prop} (h:p):Hid p:=h
theorem Am (l:List UInt8):(ByteArray.mk l.toArray).size = l.length:=List.size_toArray
theorem Gq {k:IntKind} {a b:Int} (h:a = b):Ending.returned (.int k a) = Ending.returned (.int k b):=by rw [h]
theorem Ao (b:UInt8):0≤(b.toNat:Int)∧(b.toNat:Int) < 256:=by have:=b.toNat_lt; omega
theorem Dj (b:UInt8):UInt8.ofNat ((b.toNat:Int)).toNat = b:=by simp
theorem G5 {n:Int} (h:0≤n∧n < 256):((UInt8.ofNat n.toNat).toNat:Int) = n:=by
 have:n.toNat < 256:=by omega
 simp [Nat.mod_eq_of_lt this]; omega
def byteCells (bs:List UInt8):List Value:=bs.map fun b=>Value.int .u8 (b.toNat:Int)
theorem AL (bs:List UInt8):(byteCells bs).length = bs.length:=by simp [byteCells]
theorem AB (a b:List UInt8):byteCells (a++b) = byteCells a++byteCells b:=by simp [byteCells]
def OwnB (w:World) (B:Nat) (e:TypeId) (v:Value) (bs:List UInt8):Prop:=w.ownsRow B e 1 v bs.length (byteCells bs)
theorem OwnB.nil (w:World) (B:Nat) (e:TypeId):OwnB w B e (.slice none 0 0) []:=World.ownsRow_nil w B e 1
theorem OwnB.alloc {w:World} {B:Nat} {e:TypeId} {v:Value} {bs:List UInt8} (h:OwnB w B e v bs) (o:Obj):OwnB (w.alloc o) B e v bs:=World.ownsRow.alloc h o
theorem OwnB.drew {w:World} {B:Nat} {e:TypeId} {v:Value} {bs:List UInt8} (h:OwnB w B e v bs):OwnB w.drew B e v bs:=h
theorem OwnB.eq {w:World} {B:Nat} {e:TypeId} {v:Value} {bs bs':List UInt8} (h:OwnB w B e v bs) (he:bs = bs'):OwnB w B e v bs':=he ▸ h
theorem Di {w:World} {ad:Addr} {bs:List UInt8} (h:∀ j u,(byteCells bs)[j]? = some u→w.cell? (ad.add j) = some u) :
  ∀ j (hj:j < bs.length),w.cell? (ad.add j) = some (.int .u8 (bs[j].toNat:Int)):=by
 intro j hj;exact h j _ (by simp [byteCells,List.getElem?_eq_getElem hj])
theorem OwnB.cells {w:World} {B:Nat} {e:TypeId} {bs:List UInt8} {ad:Addr} {n c:Nat} (h:OwnB w B e (.slice (some ad) n c) bs) :
  n = bs.length∧∀ j (hj:j < bs.length),w.cell? (ad.add j) = some (.int .u8 (bs[j].toNat:Int)):=by
 have h2:=h.2
 rcases h2 with ⟨h0,_⟩ | ⟨g,cap,cur,hv,_⟩
 ·cases h0
 ·injection hv with h1 h3 h4
  injection h1 with h1
  subst h1;exact ⟨h3,Di (World.ownsRow.cells h (g:=g) rfl)⟩
section
variable {P:Program} {ops:Array Oper} {rest:List Oper} {o:Oper} {a:Act} {Q:Exit→Act→World→Prop}
theorem Ac (w:World) (hgd:o.guard = none) (s x:Operand) (t:TypeId)
  (ho:o.op = .call { callee:=.builtin .append,args:=#[s,x],argTypes:=#[t,t] })
  (B:Nat) (e:TypeId) (ht:P.underlying t = some (.slice e)) (hinfo:(P.info? e).map (fun i=>(i.zero,i.size,i.bytes)) = some (some (.int .u8 0),1,1))
  (v:Value) (bs:List UInt8) (hs:a.eval s = v) (hown:OwnB w B e v bs) {w0:World} (hb:Below B w0 w) (hB:B≤w0.heap.size)
  (n:Int) (hn:0≤n∧n < 256) (c:Nat) (hx:a.eval x = .slice (some ⟨w.heap.size,0,none⟩) 1 c) (hlen:bs.length < 140737488355328)
  (h:∀ v' w',OwnB w' B e v' (bs++[UInt8.ofNat n.toNat])→Below B w0 w'→wpList P ops Q rest (a.put o.dst v') w') :
  wpList P ops Q (o::rest) a (w.alloc (.cells #[.int .u8 n] e)):=by
 obtain ⟨i,hi,hz,hz1,hz2⟩:=info_parts hinfo;have hsz:=hb.size;refine wpList_append_own _ hgd s x t ho B e i (.int .u8 0) 1 1 ht hi hz hz1 hz2 rfl (by decide) v bs.length (byteCells bs) hs (World.ownsRow.alloc hown _)
  ⟨w.heap.size,0,none⟩ 1 c [.int .u8 n] hx rfl ?_ (by intro u hu; simp at hu; subst hu; rfl) (by unfold maxLen; omega) (by omega) (by simp; omega) ?_
 ·intro j u hj
  match j,hj with
  | 0,hj=>simp at hj; subst hj; simp [Addr.add]
 ·intro v' w' hown' hgrow _;refine h v' w' ?_ ?_
  ·have e1:byteCells bs++[Value.int .u8 n] = byteCells (bs++[UInt8.ofNat n.toNat]):=by
    rw [AB];unfold byteCells;rw [List.map_cons,List.map_nil,G5 hn]
   rw [e1] at hown';unfold OwnB
   simpa using hown'
  ·exact (hb.alloc (by omega) _).grown hgrow (by simp; omega) (fun k hk=>(World.ownsRow.lt hown k hk).1)
theorem BR (w:World) (hgd:o.guard = none) (x:Operand) (src dst:TypeId) (ho:o.op = .convert src dst x)
  (B:Nat) (e:TypeId) (hs:P.underlying src = some (.slice e)) (he:P.underlying e = some (.int .u8)) (hd:P.underlying dst = some .string)
  (v:Value) (bs:List UInt8) (hx:a.eval x = v) (hown:OwnB w B e v bs)
  (h:wpList P ops Q rest (a.put o.dst (.string ⟨bs.toArray⟩)) w):wpList P ops Q (o::rest) a w:=by
 refine wpList_plain hgd fun K hK=>?_
 have hrun:(convert src dst v).run P w = .ok (.string ⟨bs.toArray⟩) w:=by
  have h2:=hown.2
  rcases h2 with ⟨rfl,h0⟩ | ⟨g,cap,cur,rfl,_⟩
  ·have:bs = []:=List.eq_nil_of_length_eq_zero h0;subst this;rw [run_convert_bytes_string w src dst e none 0 0 hs he hd];simp [Conv.bytesToString];rfl
  ·exact run_convert_bytes_back w src dst e _ cap bs hs he hd hown.cells.2
 unfold Oper.wp;simp [execOp,ho,hx,hrun,Result.andThen];exact hK _ _ h
end
end
section
open Go.RowKit
def View (w:World) (g:Nat) (v:Value) (bs:List UInt8):Prop:=
 ∃ ao cap,v = .slice ao bs.length cap∧bs.length≤cap∧cap≤maxLen∧(ao = none→cap = 0)∧
  ∃ off,(bs≠[]→ao = some ⟨g,off,none⟩)∧∀ j (hj:j < bs.length),w.cell? ⟨g,off+j,none⟩ = some (.int .u8 (bs[j].toNat:Int))
theorem View.kept {w w':World} {g:Nat} {v:Value} {bs:List UInt8} (h:View w g v bs) (hg:w'.heap[g]? = w.heap[g]?):View w' g v bs:=by
 obtain ⟨ao,cap,hv,h1,h2,hn0,off,h3,h4⟩:=h;exact ⟨ao,cap,hv,h1,h2,hn0,off,h3,fun j hj=>by rw [World.cell?_of_block (w:=w) (a:=⟨g,off+j,none⟩) hg]; exact h4 j hj⟩
theorem View.lt {w:World} {g:Nat} {v:Value} {bs:List UInt8} (h:View w g v bs) (hne:bs≠[]):g < w.heap.size:=by
 obtain ⟨ao,cap,hv,h1,h2,hn0,off,h3,h4⟩:=h;have h0:0 < bs.length:=List.length_pos_iff.2 hne;exact World.block_lt_of_cell? w ⟨g,off+0,none⟩ (h4 0 h0)
theorem View.below {w w':World} {g:Nat} {v:Value} {bs:List UInt8} (h:View w g v bs) (hb:Below w.heap.size w w'):View w' g v bs:=by
 by_cases hne:bs = []
 ·obtain ⟨ao,cap,hv,h1,h2,hn0,off,h3,h4⟩:=h;exact ⟨ao,cap,hv,h1,h2,hn0,off,h3,fun j hj=>by rw [hne] at hj; simp at hj⟩
 ·exact h.kept (hb.block g (h.lt hne))
theorem View.alloc {w:World} {g:Nat} {v:Value} {bs:List UInt8} (h:View w g v bs) (o:Obj):View (w.alloc o) g v bs:=
 h.below ((Below.refl _ _).alloc (Nat.le_refl _) _)
theorem View.drew {w:World} {g:Nat} {v:Value} {bs:List UInt8} (h:View w g v bs):View w.drew g v bs:=h.below (Below.refl _ _).drew
theorem View.eq {w:World} {g:Nat} {v:Value} {bs bs':List UInt8} (h:View w g v bs) (he:bs = bs'):View w g v bs':=he ▸ h
theorem View.len {w:World} {g:Nat} {v:Value} {bs:List UInt8} (h:View w g v bs):bs.length≤maxLen:=by
 obtain ⟨ao,cap,hv,h1,h2,hn0,off,h3,h4⟩:=h;omega
theorem View.slice {w:World} {g:Nat} {v:Value} {bs:List UInt8} (h:View w g v bs):∃ ao cap,v = .slice ao bs.length cap:=by
 obtain ⟨ao,cap,hv,_⟩:=h;exact ⟨ao,cap,hv⟩
section
variable {P:Program} {ops:Array Oper} {rest:List Oper} {o:Oper} {a:Act} {Q:Exit→Act→World→Prop}
theorem AJ {w:World} (hw:Region.wanted o (yielded ops a.tmps) = true)
  (h:∀ K:Act→World→Prop,(∀ a w,wpList P ops Q rest a w→K a w)→o.wp P a w K Q):wpList P ops Q (o::rest) a w:=
 wpList_step fun K hK=>by rw [if_pos hw]; exact h K hK
theorem Al (w:World) (hw:Region.wanted o (yielded ops a.tmps) = true) (x:Operand) (t e:TypeId)
  (ho:o.op = .call { callee:=.builtin .len,args:=#[x],argTypes:=#[t] }) (ht:P.underlying t = some (.slice e)) (g:Nat) (v:Value) (bs:List UInt8) (hx:a.eval x = v) (hv:View w g v bs)
  (h:wpList P ops Q rest (a.put o.dst (.int .i64 (bs.length:Int))) w):wpList P ops Q (o::rest) a w:=by
 obtain ⟨ao,cap,rfl⟩:=hv.slice;refine AJ hw fun K hK=>?_;unfold Oper.wp;simp [execOp,ho,resolve,invoke,builtin,hx,Builtin.len_,run_underlying ht,goInt];exact hK _ _ h
theorem Ad (w:World) (hw:Region.wanted o (yielded ops a.tmps) = true) (x i:Operand) (t e:TypeId) (ho:o.op = .indexAddr t x i)
  (ht:P.underlying t = some (.slice e)) (hinfo:(P.info? e).map (fun i=>(i.zero,i.size,i.bytes)) = some (some (.int .u8 0),1,1))
  (g:Nat) (v:Value) (bs:List UInt8) (hx:a.eval x = v) (hv:View w g v bs) (k:IntKind) (n:Int) (hi:a.eval i = .int k n) (h0:0≤n) (h1:n.toNat < bs.length)
  (h:∀ ad:Addr,w.cell? ad = some (.int .u8 ((bs[n.toNat]'h1).toNat:Int))→wpList P ops Q rest (a.put o.dst (.pointer (some ad))) w):wpList P ops Q (o::rest) a w:=by
 obtain ⟨ao,cap,rfl,h2,h3,hn0,off,h4,h5⟩:=hv;obtain ⟨inf,hi1,hz,hz1,hz2⟩:=info_parts hinfo
 have hne:bs≠[]:=by intro e; subst e; simp at h1
 obtain rfl:=h4 hne;refine AJ hw fun K hK=>?_
 have hn:n < (bs.length:Int):=by omega
 unfold Oper.wp;simp [execOp,ho,hx,hi,Instr.indexAt,asIntOf,run_underlying ht,h0,hn,sizeOf,typeInfo,hi1,hz1,Addr.add_lit];exact hK _ _ (h _ (h5 n.toNat h1))
theorem C3 (w:World) (hw:Region.wanted o (yielded ops a.tmps) = true) (x lo hi:Operand) (t e:TypeId) (ho:o.op = .slice t x (some lo) (some hi) none)
  (ht:P.underlying t = some (.slice e)) (hinfo:(P.info? e).map (fun i=>(i.zero,i.size,i.bytes)) = some (some (.int .u8 0),1,1))
  (g:Nat) (v:Value) (bs:List UInt8) (hx:a.eval x = v) (hv:View w g v bs) (k k':IntKind) (l n:Int) (hl:a.eval lo = .int k l) (hn:a.eval hi = .int k' n) (h0:0≤l) (h1:l≤n) (h2:n≤bs.length)
  (h:∀ v',View w g v' ((bs.drop l.toNat).take (n.toNat - l.toNat))→wpList P ops Q rest (a.put o.dst v') w):wpList P ops Q (o::rest) a w:=by
 obtain ⟨ao,cap,rfl,h3,h4,hn0,off,h5,h6⟩:=hv;obtain ⟨inf,hi1,hz,hz1,hz2⟩:=info_parts hinfo;refine AJ hw fun K hK=>?_
 have hc:n≤(cap:Int):=by omega
 have hlen:((bs.drop l.toNat).take (n.toNat - l.toNat)).length = n.toNat - l.toNat:=by simp; omega
 have hv':View w g (sliced ao l.toNat n.toNat cap 1) ((bs.drop l.toNat).take (n.toNat - l.toNat)):=by
  refine ⟨_,_,by rw [hlen]; try rfl,by omega,by omega,by intro he; cases ao with
   | none=>have:=hn0 rfl; omega
   | some ad=>split at he <;> simp at he,off+l.toNat,?_,?_⟩
  ·intro hne
   have:n.toNat - l.toNat≠0:=by intro e; apply hne; exact List.eq_nil_of_length_eq_zero (by omega)
   have hbs:bs≠[]:=by intro e; subst e; simp at h2; omega
   rw [if_neg (by omega),h5 hbs];simp [Addr.add_lit]
  ·intro j hj;rw [hlen] at hj
   have e1:off+l.toNat+j = off+(l.toNat+j):=by omega
   rw [e1,h6 (l.toNat+j) (by omega)];simp
 have hs:P.underlying t = some (.slice (P.elem t)):=by simp [Program.elem,ht]
 have he:P.elem t = e:=by simp [Program.elem,ht]
 have hsz:(sizeOf (P.elem t)).run P w = .ok 1 w:=by simp [sizeOf,typeInfo,he,hi1,hz1]
 have hrun:(Instr.sliceAt t (.slice ao bs.length cap) (some (.int k l)) (some (.int k' n)) none).run P w = .ok (sliced ao l.toNat n.toNat cap 1) w:=by
  rw [run_sliceAt_slice w t _ _ _ _ hs,run_slice_lh w t ao bs.length cap hs k k' l n h0 h1 hc,hsz];simp [Result.andThen]
 unfold Oper.wp;simp [execOp,ho,hx,hl,hn,hrun,Result.andThen];exact hK _ _ (h _ hv')
theorem DL (w:World) (hw:Region.wanted o (yielded ops a.tmps) = true) (x hi:Operand) (t e:TypeId) (ho:o.op = .slice t x none (some hi) none)
  (ht:P.underlying t = some (.slice e)) (hinfo:(P.info? e).map (fun i=>(i.zero,i.size,i.bytes)) = some (some (.int .u8 0),1,1))
  (g:Nat) (v:Value) (bs:List UInt8) (hx:a.eval x = v) (hv:View w g v bs) (k':IntKind) (n:Int) (hn:a.eval hi = .int k' n) (h1:0≤n) (h2:n≤bs.length)
  (h:∀ v',View w g v' (bs.take n.toNat)→wpList P ops Q rest (a.put o.dst v') w):wpList P ops Q (o::rest) a w:=by
 obtain ⟨ao,cap,rfl,h3,h4,hn0,off,h5,h6⟩:=hv;obtain ⟨inf,hi1,hz,hz1,hz2⟩:=info_parts hinfo;refine AJ hw fun K hK=>?_
 have hc:n≤(cap:Int):=by omega
 have hlen:(bs.take n.toNat).length = n.toNat:=by simp; omega
 have hv':View w g (sliced ao 0 n.toNat cap 1) (bs.take n.toNat):=by
  refine ⟨_,_,by rw [hlen]; try rfl,by omega,by omega,by intro he; cases ao with
   | none=>have:=hn0 rfl; omega
   | some ad=>split at he <;> simp at he,off,?_,?_⟩
  ·intro hne
   have hbs:bs≠[]:=by intro e; subst e; simp at hne
   rw [h5 hbs]
   split <;> simp [Addr.add_lit]
  ·intro j hj;rw [hlen] at hj;rw [h6 j (by omega)];simp
 have hs:P.underlying t = some (.slice (P.elem t)):=by simp [Program.elem,ht]
 have he:P.elem t = e:=by simp [Program.elem,ht]
 have hsz:(sizeOf (P.elem t)).run P w = .ok 1 w:=by simp [sizeOf,typeInfo,he,hi1,hz1]
 have hrun:(Instr.sliceAt t (.slice ao bs.length cap) none (some (.int k' n)) none).run P w = .ok (sliced ao 0 n.toNat cap 1) w:=by
  rw [run_sliceAt_slice w t _ _ _ _ hs,run_slice_h w t ao bs.length cap hs k' n h1 hc,hsz];simp [Result.andThen]
 unfold Oper.wp;simp [execOp,ho,hx,hn,hrun,Result.andThen];exact hK _ _ (h _ hv')
theorem AD (w:World) (hw:Region.wanted o (yielded ops a.tmps) = true) (x lo:Operand) (t e:TypeId) (ho:o.op = .slice t x (some lo) none none)
  (ht:P.underlying t = some (.slice e)) (hinfo:(P.info? e).map (fun i=>(i.zero,i.size,i.bytes)) = some (some (.int .u8 0),1,1))
  (g:Nat) (v:Value) (bs:List UInt8) (hx:a.eval x = v) (hv:View w g v bs) (k:IntKind) (l:Int) (hl:a.eval lo = .int k l) (h0:0≤l) (h1:l≤bs.length)
  (h:∀ v',View w g v' (bs.drop l.toNat)→wpList P ops Q rest (a.put o.dst v') w):wpList P ops Q (o::rest) a w:=by
 obtain ⟨ao,cap,rfl,h3,h4,hn0,off,h5,h6⟩:=hv;obtain ⟨inf,hi1,hz,hz1,hz2⟩:=info_parts hinfo;refine AJ hw fun K hK=>?_
 have hlen:(bs.drop l.toNat).length = bs.length - l.toNat:=by simp
 have hv':View w g (sliced ao l.toNat bs.length cap 1) (bs.drop l.toNat):=by
  refine ⟨_,_,by rw [hlen]; try rfl,by omega,by omega,by intro he; cases ao with
   | none=>have:=hn0 rfl; omega
   | some ad=>split at he <;> simp at he,off+l.toNat,?_,?_⟩
  ·intro hne
   have:bs.length - l.toNat≠0:=by intro e; apply hne; exact List.eq_nil_of_length_eq_zero (by omega)
   have hbs:bs≠[]:=by intro e; subst e; simp at hne
   rw [if_neg (by omega),h5 hbs];simp [Addr.add_lit]
  ·intro j hj;rw [hlen] at hj
   have e1:off+l.toNat+j = off+(l.toNat+j):=by omega
   rw [e1,h6 (l.toNat+j) (by omega)];simp
 have hs:P.underlying t = some (.slice (P.elem t)):=by simp [Program.elem,ht]
 have he:P.elem t = e:=by simp [Program.elem,ht]
 have hsz:(sizeOf (P.elem t)).run P w = .ok 1 w:=by simp [sizeOf,typeInfo,he,hi1,hz1]
 have hrun:(Instr.sliceAt t (.slice ao bs.length cap) (some (.int k l)) none none).run P w = .ok (sliced ao l.toNat bs.length cap 1) w:=by
  rw [run_sliceAt_slice w t _ _ _ _ hs,run_slice_l w t ao bs.length cap hs k l h0 h1,hsz];simp [Result.andThen]
 unfold Oper.wp;simp [execOp,ho,hx,hl,hrun,Result.andThen];exact hK _ _ (h _ hv')
theorem Bf (w:World) (hw:Region.wanted o (yielded ops a.tmps) = true) (x:Operand) (src dst e:TypeId) (ho:o.op = .convert src dst x)
  (hs:P.underlying src = some (.slice e)) (he:P.underlying e = some (.int .u8)) (hd:P.underlying dst = some .string)
  (g:Nat) (v:Value) (bs:List UInt8) (hx:a.eval x = v) (hv:View w g v bs)
  (h:wpList P ops Q rest (a.put o.dst (.string ⟨bs.toArray⟩)) w):wpList P ops Q (o::rest) a w:=by
 obtain ⟨ao,cap,rfl,h3,h4,hn0,off,h5,h6⟩:=hv;refine AJ hw fun K hK=>?_
 have hrun:(convert src dst (.slice ao bs.length cap)).run P w = .ok (.string ⟨bs.toArray⟩) w:=by
  by_cases hne:bs = []
  ·subst hne
   cases ao with
   | none=>
    rw [run_convert_bytes_string w src dst e none _ _ hs he hd];simp [Conv.bytesToString];rfl
   | some ad=>exact run_convert_bytes_back w src dst e ad cap [] hs he hd (fun j hj=>by simp at hj)
  ·rw [h5 hne];exact run_convert_bytes_back w src dst e _ cap bs hs he hd (fun j hj=>by rw [Addr.add_lit]; exact h6 j hj)
 unfold Oper.wp;simp [execOp,ho,hx,hrun,Result.andThen];exact hK _ _ h
theorem Bg (w:World) (hgd:o.guard = none) (s x:Operand) (t:TypeId)
  (ho:o.op = .call { callee:=.builtin .append,args:=#[s,x],argTypes:=#[t,t] })
  (B:Nat) (e:TypeId) (ht:P.underlying t = some (.slice e)) (hinfo:(P.info? e).map (fun i=>(i.zero,i.size,i.bytes)) = some (some (.int .u8 0),1,1))
  (v:Value) (bs:List UInt8) (hs:a.eval s = v) (hown:OwnB w B e v bs) {w0:World} (hb:Below B w0 w) (hB:B≤w0.heap.size)
  (g:Nat) (u:Value) (ys:List UInt8) (hx:a.eval x = u) (hv:View w g u ys) (hlen:bs.length+ys.length≤140737488355328)
  (h:∀ v' w',OwnB w' B e v' (bs++ys)→Below B w0 w'→w.grownBy w' v.ownBlock→wpList P ops Q rest (a.put o.dst v') w') :
  wpList P ops Q (o::rest) a w:=by
 obtain ⟨i,hi,hz,hz1,hz2⟩:=info_parts hinfo;obtain ⟨ao,cap,rfl,h3,h4,hn0,off,h5,h6⟩:=hv;have hsz:=hb.size;have hml:maxLen = 9223372036854775807:=rfl
 cases ao with
 | none=>
  have hys:ys = []:=by
   cases ys with
   | nil=>rfl
   | cons c l=>exact absurd (h5 (by simp)) (by simp)
  subst hys;obtain rfl:=hn0 rfl;refine wpList_append_own_none hgd s x t ho B e i 1 ht hi v bs.length (byteCells bs) hs hown hx (h v w ?_ hb ⟨rfl,rfl,rfl,Nat.le_refl _,fun _ _ _=>rfl⟩);rw [List.append_nil]; exact hown
 | some ad=>
  refine wpList_append_own _ hgd s x t ho B e i (.int .u8 0) 1 1 ht hi hz hz1 hz2 rfl (by decide) v bs.length (byteCells bs) hs hown
   ad ys.length cap (byteCells ys) hx (by simp [byteCells]) ?_ (by intro u hu; simp [byteCells] at hu; obtain ⟨b,_,rfl⟩:=hu; rfl) (by omega) (by omega) (by omega) ?_
  ·intro j u hu
   have hj:j < ys.length:=by
    have:=(List.getElem?_eq_some_iff.1 hu).1
    simpa [byteCells] using this
   have hne:ys≠[]:=by intro e; subst e; simp at hj
   have:=h5 hne
   injection this with this
   subst this;rw [Addr.add_lit,h6 j hj]
   simpa [byteCells,List.getElem?_eq_getElem hj] using hu
  ·intro v' w' hown' hgrow _;refine h v' w' ?_ (hb.grown hgrow (by omega) (fun k hk=>(World.ownsRow.lt hown k hk).1)) hgrow;rw [←AB] at hown';unfold OwnB
   simpa using hown'
theorem OwnB.view {w:World} {B:Nat} {e:TypeId} {v:Value} {bs:List UInt8} (h:OwnB w B e v bs):∃ g,View w g v bs∧(∀ k,v.ownBlock = some k→k = g):=by
 rcases h.2 with ⟨rfl,h0⟩ | ⟨g,cap,cur,rfl,hb,hg,hnc,hcm,hcs,htake⟩
 ·have:bs = []:=List.eq_nil_of_length_eq_zero h0;subst this;exact ⟨0,⟨none,0,rfl,by simp,by simp [maxLen],fun _=>rfl,0,fun hne=>absurd rfl hne,fun j hj=>by simp at hj⟩,fun k hk=>by simp [Value.ownBlock] at hk⟩
 ·refine ⟨g,⟨_,cap,rfl,hnc,hcm,(fun he=>by cases he),0,fun _=>rfl,fun j hj=>?_⟩,fun k hk=>by simpa [Value.ownBlock] using hk.symm⟩;have:=h.cells.2 j hj;rwa [Addr.add_lit] at this
end
end
section
open Go.ChangeShapes Go.WideShapes Go.ChangeAt Go.RowKit
def BW (c:UInt8):Bool:=c.toNat / 64 == 2
def Ae:Nat→Nat→List UInt8→Option Nat
 | 0,acc,_=>some acc
 | _+1,_,[]=>none
 | n+1,acc,c::l=>if BW c then Ae n (acc * 64+c.toNat % 64) l else none
def Ar (c:Nat):Option (Nat × Nat × Nat):=
 if 194≤c∧c < 224 then some (1,128,c % 32) else if 224≤c∧c < 240 then some (2,2048,c % 16) else if 240≤c∧c < 245 then some (3,65536,c % 8) else none
def Co (least v:Nat):Bool:=decide (least≤v) && decide (v≤1114111) && !(decide (55296≤v) && decide (v < 57344))
def An:List UInt8→Option (Nat × Nat)
 | []=>none
 | c::l=>if c.toNat < 128 then some (c.toNat,1) else match Ar c.toNat with
  | none=>none
  | some (n,least,first)=>match Ae n first l with
   | none=>none
   | some v=>if Co least v then some (v,n+1) else none
def D7:Nat→List UInt8→Bool
 | 0,_=>true
 | f+1,l=>if l.isEmpty then true else match An l with
  | none=>false
  | some (_,n)=>D7 f (l.drop n)
def Bc (l:List UInt8):Bool:=D7 l.length l
theorem BO:∀ (n acc:Nat) (l:List UInt8) (v:Nat),Ae n acc l = some v→n≤l.length
 | 0,_,_,_,_=>Nat.zero_le _
 | _+1,_,[],_,h=>by simp [Ae] at h
 | n+1,acc,c::l,v,h=>by
  unfold Ae at h
  split at h
  ·have:=BO n _ l v h; simp; omega
  ·cases h
theorem BA {c k least first:Nat} (h:Ar c = some (k,least,first)):(k = 1∧least = 128∧first < 32)∨(k = 2∧least = 2048∧first < 16)∨(k = 3∧least = 65536∧first < 8):=by
 unfold Ar at h
 by_cases h1:194≤c∧c < 224
 ·rw [if_pos h1] at h; cases h; exact .inl ⟨rfl,rfl,by omega⟩
 ·rw [if_neg h1] at h
  by_cases h2:224≤c∧c < 240
  ·rw [if_pos h2] at h; cases h; exact .inr (.inl ⟨rfl,rfl,by omega⟩)
  ·rw [if_neg h2] at h
   by_cases h3:240≤c∧c < 245
   ·rw [if_pos h3] at h; cases h; exact .inr (.inr ⟨rfl,rfl,by omega⟩)
   ·rw [if_neg h3] at h; cases h
theorem Af (c:UInt8) (l:List UInt8):An (c::l) = if c.toNat < 128 then some (c.toNat,1) else match Ar c.toNat with
  | none=>none
  | some (n,least,first)=>match Ae n first l with
   | none=>none
   | some v=>if Co least v then some (v,n+1) else none:=rfl
theorem At {l:List UInt8} {v n:Nat} (h:An l = some (v,n)):1≤n∧n≤l.length∧n≤4:=by
 cases l with
 | nil=>simp [An] at h
 | cons c l=>
  by_cases h1:c.toNat < 128
  ·rw [Af,if_pos h1] at h; cases h; exact ⟨by omega,by simp,by omega⟩
  ·rw [Af,if_neg h1] at h
   rcases hh:Ar c.toNat with _ | ⟨k,least,first⟩
   ·rw [hh] at h; cases h
   ·rw [hh] at h;simp only at h;have hk:=BA hh
    rcases ht:Ae k first l with _ | v'
    ·rw [ht] at h; cases h
    ·rw [ht] at h;simp only at h;have:=BO _ _ _ _ ht
     split at h
     ·cases h; exact ⟨by omega,by simp; omega,by omega⟩
     ·cases h
theorem D6:∀ (f g:Nat) (l:List UInt8),l.length≤f→l.length≤g→D7 f l = D7 g l
 | 0,0,_,_,_=>rfl
 | 0,g+1,l,h,_=>by
  have:l = []:=List.eq_nil_of_length_eq_zero (by omega);subst this; rfl
 | f+1,0,l,_,h=>by
  have:l = []:=List.eq_nil_of_length_eq_zero (by omega);subst this; rfl
 | f+1,g+1,l,hf,hg=>by
  unfold D7
  split
  ·rfl
  ·split
   ·rfl
   ·rename_i v n h
    have:=At h;exact D6 f g _ (by simp; omega) (by simp; omega)
theorem D5 {l:List UInt8} (hne:l≠[]) (h:An l = none):Bc l = false:=by
 cases l with
 | nil=>exact absurd rfl hne
 | cons c l=>unfold Bc; rw [List.length_cons,D7,h]; try rfl
theorem CP {l:List UInt8} {v n:Nat} (h:An l = some (v,n)):Bc l = Bc (l.drop n):=by
 have hs:=At h
 cases l with
 | nil=>simp [An] at h
 | cons c l=>
  conv=>lhs; unfold Bc
  rw [List.length_cons,D7,h];simp only [List.isEmpty_cons,Bool.false_eq_true,if_false];exact D6 _ _ _ (by simp at hs ⊢; omega) (Nat.le_refl _)
theorem A2:∀ n:Int,0≤n→n < 2 ^ 63→IntKind.i64.wrap n = n:=fun n h0 h1=>IntWalk.i64_in n ⟨by omega,by omega⟩
theorem Fk {x y:Int} (hx₀:0≤x) (hx:x % 64 = 0) (hx₁:x < 2147483648) (h₀:0≤y) (h₁:y < 64):bits .or .i64 x y = x+y:=
 bits_join .i64 63 (by decide) A2 6 x y hx₀ hx (by omega) h₀ h₁ (by omega)
theorem Fv (c:UInt8):bits .and .u8 (c.toNat:Int) 63 = ((c.toNat % 64:Nat):Int):=bits_mask .u8 8 (by decide) wraps_u8 6 (by decide) c.toNat (Ao c).1 (Ao c).2
end
end Go.Proofs.YtgdnpnipahegaaaDoor
