/-
 The package's reader of the text form: a Read, in plain Lean; the laws of the steps that only Read and Peek take.
-/
import Derived.Test.YtgdnpnipahegaaaGreatDoorQ9
import Derived.Test.YtgdnpnipahegaaaGreatDoorTNext
namespace Go.Proofs.YtgdnpnipahegaaaGreatDoor
open Go.ChangeShapes Go.WideShapes Go.ChangeAt Go.RowKit
theorem Jm (st:List UInt8) (c:UInt8):AB (st++[c]) = if c.toNat = 91 then 6 else 4:=by unfold AB; simp
def Alt (st:List UInt8):Prop:=∀ pre post,st = pre++91::post→AB pre≠6
theorem Alt.nil:Alt []:=fun pre post h=>by simp at h
theorem Alt.push {st:List UInt8} (h:Alt st) {c:UInt8} (hc:c.toNat = 91→AB st≠6):Alt (st++[c]):=fun pre post he=>by
 rcases List.eq_nil_or_concat post with rfl | ⟨l,d,rfl⟩
 ·obtain ⟨rfl,e⟩:=List.append_inj' he rfl
  injection e with e _
  exact hc (by rw [e]; rfl)
 ·have:st++[c] = (pre++91::l)++[d]:=by simpa using he
  obtain ⟨e,_⟩:=List.append_inj' this rfl;exact h pre l e
theorem Alt.pop {st:List UInt8} (h:Alt st):Alt st.dropLast:=fun pre post he=>by
 rcases List.eq_nil_or_concat st with rfl | ⟨l,d,rfl⟩
 ·simp at he
 ·rw [List.concat_eq_append,List.dropLast_concat] at he;exact h pre (post++[d]) (by rw [List.concat_eq_append,he]; simp)
theorem Alt.under {st:List UInt8} (h:Alt st) (ho:AB st = 6):AB st.dropLast≠6:=by
 rcases List.eq_nil_or_concat st with rfl | ⟨l,d,rfl⟩
 ·cases ho
 ·rw [List.concat_eq_append,List.dropLast_concat];rw [List.concat_eq_append,Jm] at ho
  have hd:d.toNat = 91:=by
   apply Classical.byContradiction;intro hn;rw [if_neg hn] at ho;cases ho
  exact h l [] (by rw [List.concat_eq_append,show d = 91 from UInt8.toNat_inj.1 hd])
structure DOk2 (st:List UInt8) (last k:Nat):Prop where
 ok:StOk st
 alt:Alt st
 le:last≤9
 len:st.length≤k
 h0:last≠0∨AB st≠6
 h2:last≠2∨AB st≠6
 h4:last≠4∨AB st = 4
 h6:last≠6∨AB st = 6
 h7:last≠7∨AB st≠6
 h9:last≠9∨AB st≠6
theorem DOk2.new:DOk2 [] 0 0:=⟨StOk.nil,Alt.nil,by decide,by decide,.inr (by decide),.inl (by decide),.inl (by decide),.inl (by decide),.inl (by decide),.inl (by decide)⟩
theorem Hc {bs:List UInt8} {last:Nat} {st:List UInt8} {k0:Nat} {x:TT × List UInt8 × Nat} (hk:k0≤bs.length) (h:C3 bs last st k0 = some x) (ho:DOk2 st last k0):DOk2 x.2.1 x.1.kind x.2.2:=by
 have hg:=DU (bs:=bs) (k:=k0) (n:=0) (by omega);have hn:=FH h hk;rw [Mf] at h;generalize hkk:goT bs k0 0 = k at h;have hlen:=ho.len;have hge:=hn.ge;have hoc:=L7 st
 -- a token that leaves what is open
 have same:∀ {y:TT × Nat},Aw st (some y) = some x→y.1.kind≤9→(y.1.kind = 2→AB st≠6)→y.1.kind≠4→y.1.kind≠6→y.1.kind≠7→(y.1.kind = 9→AB st≠6)→DOk2 x.2.1 x.1.kind x.2.2:=by
  intro y he h9 h2 h4 h6 h7 h99;cases he;exact ⟨ho.ok,ho.alt,h9,by show st.length≤y.2; have:k0≤y.2:=hge; omega,.inl (by show y.1.kind≠0; have:1≤y.1.kind:=hn.kind.1; omega),Decidable.not_or_of_imp h2,.inl h4,.inl h6,.inl h7,Decidable.not_or_of_imp h99⟩
 have one:∀ {kd n:Nat},Aw st (some (AD bs k kd n 0)) = some x→(kd = 1∨kd = 8∨(kd = 9∧AB st≠6))→DOk2 x.2.1 x.1.kind x.2.2:=by
  intro kd n he hkd;exact same he (by show kd≤9; omega) (by show kd = 2→_; omega) (by show kd≠4; omega) (by show kd≠6; omega) (by show kd≠7; omega) (by show kd = 9→_; omega)
 have fld:Aw st (Bh bs k) = some x→AB st≠6→DOk2 x.2.1 x.1.kind x.2.2:=by
  intro he h6
  rcases hf:Bh bs k with _ | y
  ·rw [hf] at he; cases he
  ·rw [hf] at he;have:=(Is hf).2;exact same he (by omega) (fun _=>h6) (by omega) (by omega) (by omega) (fun _=>h6)
 have scl:Aw st (Bi bs k) = some x→DOk2 x.2.1 x.1.kind x.2.2:=by
  intro he
  rcases hf:Bi bs k with _ | y
  ·rw [hf] at he; cases he
  ·rw [hf] at he;have:=(FT hf).2;exact same he (by omega) (by omega) (by omega) (by omega) (by omega) (by omega)
 have popped:∀ {kd:Nat},Aw st.dropLast (some (AD bs k kd 1 0)) = some x→(kd = 5∨(kd = 7∧AB st = 6))→DOk2 x.2.1 x.1.kind x.2.2:=by
  intro kd he hkd;cases he;refine ⟨ho.ok.pop,ho.alt.pop,by show kd≤9; omega,by show st.dropLast.length≤goT bs k 1; rw [List.length_dropLast]; have:k0≤goT bs k 1:=hge; omega,.inl (by show kd≠0; omega),.inl (by show kd≠2; omega),.inl (by show kd≠4; omega),.inl (by show kd≠6; omega),?_,.inl (by show kd≠9; omega)⟩
  rcases hkd with e | ⟨_,e⟩
  ·exact .inl (by show kd≠7; omega)
  ·exact .inr (ho.alt.under e)
 have pushed:∀ {kd:Nat} {c:UInt8} {r:List UInt8},bs.drop k = c::r→Aw (st++[c]) (some (AD bs k kd 1 0)) = some x→(kd = 4∧(c.toNat = 123∨c.toNat = 60)∨kd = 6∧c.toNat = 91∧AB st≠6)→DOk2 x.2.1 x.1.kind x.2.2:=by
  intro kd c r hd he hkd;have hlt:=Kd hd;cases he
  have hl:(st++[c]).length = st.length+1:=by simp
  have hlt2:=hn.lt;have hlt3:k0 < goT bs k 1:=hlt2 (by show kd≠1; omega);refine ⟨ho.ok.push (by omega),ho.alt.push (fun e=>by rcases hkd with h1 | h1; omega; exact h1.2.2),by show kd≤9; omega,by show (st++[c]).length≤goT bs k 1; omega,.inl (by show kd≠0; omega),.inl (by show kd≠2; omega),?_,?_,.inl (by show kd≠7; omega),.inl (by show kd≠9; omega)⟩
  ·show kd≠4∨AB (st++[c]) = 4
   rw [Jm]
   rcases hkd with h1 | h1
   ·rw [if_neg (by omega)]; exact .inr rfl
   ·exact .inl (by omega)
  ·show kd≠6∨AB (st++[c]) = 6
   rw [Jm]
   rcases hkd with h1 | h1
   ·exact .inl (by omega)
   ·rw [if_pos h1.2.1]; exact .inr rfl
 have top:∀ {b:Bool},AB st≠6→Cq bs b st k = some x→DOk2 x.2.1 x.1.kind x.2.2:=by
  intro b h6 he;unfold Cq at he
  split at he
  ·exact one he (by omega)
  ·split at he
   ·exact one he (by omega)
   ·split at he
    ·exact one he (by omega)
    ·exact fld he h6
 have msg:∀ {b:Bool},AB st≠6→B4 bs b st k = some x→DOk2 x.2.1 x.1.kind x.2.2:=by
  intro b h6 he;unfold B4 at he
  split at he
  ·cases he
  ·split at he
   ·exact popped he (.inl rfl)
   ·split at he
    ·cases he
    ·split at he
     ·exact one he (by omega)
     ·split at he
      ·exact one he (by omega)
      ·exact fld he h6
 have val:∀ {l b:Bool},(l = true→AB st≠6)→(b = true→AB st = 6)→BB bs l b st k = some x→DOk2 x.2.1 x.1.kind x.2.2:=by
  intro l b hl hb he;unfold BB at he
  split at he
  ·cases he
  ·rename_i c r hd
   split at he
   ·rename_i hc; exact pushed hd he (.inl ⟨rfl,hc⟩)
   ·split at he
    ·rename_i hc; exact pushed hd he (.inr ⟨rfl,hc.2,hl hc.1⟩)
    ·split at he
     ·rename_i hc; exact popped he (.inr ⟨rfl,hb hc.1⟩)
     ·exact scl he
 have hh2:=ho.h2;have hh4:=ho.h4;have hh6:=ho.h6;have hh7:=ho.h7;have hh9:=ho.h9;have hh0:=ho.h0;unfold Di at h
 split at h
 ·exact one h (by omega)
 ·split at h
  ·exact top (by omega) h
  ·split at h
   ·exact val (fun _=>by omega) (fun h=>by cases h) h
   ·split at h
    ·exact msg (by omega) h
    ·split at h
     ·exact val (fun h=>by cases h) (fun _=>by omega) h
     ·split at h
      ·split at h
       ·exact top (by omega) h
       ·split at h
        ·exact msg (by omega) h
        ·exact val (fun h=>by cases h) (fun h=>by cases h) h
      ·split at h
       ·exact top (by omega) h
       ·split at h
        ·exact msg (by omega) h
        ·unfold CH at h
         split at h
         ·cases h
         ·split at h
          ·exact popped h (.inr ⟨rfl,by omega⟩)
          ·split at h
           ·exact one h (by omega)
           ·cases h
theorem LZ {bs:List UInt8} {s:DT} (h:C3 bs s.tok.kind s.st s.k = none):Db bs s = none:=by unfold Db BN; rw [h]
theorem M1 {bs:List UInt8} {s:DT} {t:TT} {st:List UInt8} {k:Nat} (h:C3 bs s.tok.kind s.st s.k = some (t,st,k)) (hk:t.kind≠8∧t.kind≠9):Db bs s = some ⟨false,t,s.bad,st,k⟩:=by
 unfold Db BN; rw [h]; simp only; rw [if_neg (by omega)]
theorem Hs {bs:List UInt8} {s:DT} {t:TT} {st:List UInt8} {k:Nat} (h:C3 bs s.tok.kind s.st s.k = some (t,st,k)) (hk:t.kind = 8∨t.kind = 9) (h2:C3 bs t.kind st k = none):Db bs s = none:=by
 unfold Db BN; rw [h]; simp only; rw [if_pos hk,h2]
theorem Hr {bs:List UInt8} {s:DT} {t t2:TT} {st st2:List UInt8} {k k2:Nat} (h:C3 bs s.tok.kind s.st s.k = some (t,st,k)) (hk:t.kind = 8∨t.kind = 9) (h2:C3 bs t.kind st k = some (t2,st2,k2)):Db bs s = some ⟨false,t2,s.bad,st2,k2⟩:=by
 unfold Db BN; rw [h]; simp only; rw [if_pos hk,h2]
theorem CM {bs:List UInt8} {s:DT} (hp:s.peeked = false):Cx bs s = Db bs s:=CT hp
theorem Hq {bs:List UInt8} {s:DT} (hp:s.peeked = true):Cx bs s = if s.bad then none else some { s with peeked:=false }:=by unfold Cx; rw [if_pos hp]
theorem Ef:Av Tryz.prog 28:=⟨_,Tryz.func28,by kernel_rfl,by kernel_rfl⟩
theorem NA:(Tryz.prog.info? 57).map (·.size) = some 1:=by kernel_rfl
theorem Ll:Ds Tryz.prog 57:=fun w=>by simp [isAgg,Sem.run_bind,go_sem]
theorem DStep.notOpen {p q:Nat} {v1 v2:Value} {w w':World} (h:DStep p v1 w v2 w') (hv:v1.ownBlock≠some q) (hq:q < w.heap.size):v2.ownBlock≠some q:=fun e=>by
 rcases h.lies q e with e | e
 ·exact hv e
 ·omega
def ND (P:Program) (s f o k:Nat):Prop:=∀ (p:Nat) (w:World),(Instr.fieldAt s (.pointer (some ⟨p,o,none⟩)) f).run P w = .ok (.pointer (some ⟨p,k,none⟩)) w
theorem fld_tk1:ND Tryz.prog 50 0 1 1:=fun p w=>by simp [go_sem,Instr.fieldAt]
section
variable {N:Nat} {D:List Deferred} {a:Act} {l:List (Nat × Value)} {P:Program} {S:World→Prop} {dd:Option Tmp} {ty:TypeId} {pos:String} {af:Array Edge} {gd:Option (Nat × Bool)}
theorem Pc {s f o k p:Nat} {x:Operand} (hf:ND P s f o k) (H:Has N D a l) (hx:ev l x = some (.pointer (some ⟨p,o,none⟩))):∀ w,S w→(execOp a.eval ⟨dd,.fieldAddr s x f,ty,pos,af,gd⟩).run P w = .ok (.value (.pointer (some ⟨p,k,none⟩))) w:=fun w _=>by have h1:=H.ev hx; simp [execOp,h1,hf p w,Result.andThen]
theorem E3 {t:TypeId} {x:Operand} {q o:Nat} {cs:List Value} {ds:TypeDesc} (hu:P.underlying t = some ds) (hds:ds.isRow = true) (hi:(P.info? t).map (·.size) = some cs.length) (H:Has N D a l) (hx:ev l x = some (.pointer (some ⟨q,o,none⟩))) (hr:∀ w,S w→w.rangeAt q o cs) :
  ∀ w,S w→(execOp a.eval ⟨dd,.load t x,ty,pos,af,gd⟩).run P w = .ok (.value (.agg cs.toArray)) w:=fun w hw=>by
 have h1:=H.ev hx;have:=run_loadAt_mid (P:=P) w q o t cs ds (hr w hw) hu hds hi;simp only [execOp,h1];simp [this,Result.andThen]
end
variable {B p g:Nat} {bs:List UInt8} {vr ve vst vo vi:Value} {s:DT} {w:World}
theorem DW.fresh {q:Nat} (h:DW B p g bs vr ve vst vo vi s w) (hq:w.heap.size≤q):vst.ownBlock≠some q:=fun e=>by have:=h.ownLt _ e; omega
theorem DW.ck {n:Nat} (h:DW B p g bs vr ve vst vo vi s w) (hn:s.tok.kind = n):w.cell? ⟨p,1,none⟩ = some (.int .u8 (n:Int)):=by subst hn; exact (h.row 1 _ rfl).1
theorem DW.c0 {b:Bool} (h:DW B p g bs vr ve vst vo vi s w) (hb:s.peeked = b):w.cell? ⟨p,0,none⟩ = some (.int .u8 (if b then 1 else 0))∧w.frozen? ⟨p,0,none⟩ = false:=by subst hb; exact h.row 0 _ rfl
theorem DW.c0t (h:DW B p g bs vr ve vst vo vi s w) (hb:s.peeked = true):w.cell? ⟨p,0,none⟩ = some (.int .u8 1):=(h.c0 hb).1
theorem DW.c0f (h:DW B p g bs vr ve vst vo vi s w) (hb:s.peeked = false):w.cell? ⟨p,0,none⟩ = some (.int .u8 0):=(h.c0 hb).1
theorem Hw:Ds Tryz.prog 48:=fun w=>by simp [isAgg,Sem.run_bind,go_sem]
theorem DW.c7 (h:DW B p g bs vr ve vst vo vi s w):w.cell? ⟨p,7,none⟩ = some ve∧w.frozen? ⟨p,7,none⟩ = false:=h.row 7 _ rfl
theorem DW.tokAt (h:DW B p g bs vr ve vst vo vi s w):w.rangeAt p 1 (AA vr s.tok):=fun j v hj=>by
 have hl:j < (AA vr s.tok).length:=(List.getElem?_eq_some_iff.1 hj).1;have:=(h.row (1+j) v (by unfold Ep; rw [Nat.add_comm 1 j,List.getElem?_cons_succ,List.getElem?_append_left hl]; exact hj)).1;exact this
theorem DM {N:Nat} {D:List Deferred} {a:Act} {l:List (Nat × Value)} {L rest:List Oper} {Q:Exit→Act→World→Prop} {ty:TypeId} {pos:String} {af:Array Edge} {x y:Operand} {t:TT} {ao:Option Addr} {n c:Nat} (H:Has N D a l) (hx:ev l x = some (.pointer (some ⟨p,1,none⟩)))
  (hy:ev l y = some (EO (.slice ao n c) t)) (hd:DW B p g bs vr ve vst vo vi s w) (hv:View w g (.slice ao n c) t.raw)
  (h:∀ w',DW B p g bs (.slice ao n c) ve vst vo vi { s with tok:=t } w'→w.grownBy w' (some p)→wpList Tryz.prog L.toArray Q rest a w'):wpList Tryz.prog L.toArray Q (⟨none,.store 50 x y,ty,pos,af,none⟩::rest) a w:=by
 refine wpList_store_mid rfl 50 x y rfl p 1 (AA (.slice ao n c) t).toArray (H.ev hx) (H.ev hy) ?_ (MS _ _ _ _ _ _) (by simp [AA,Value.oneCell']) ?_
 ·intro i hi'
  have hi6:i < 6:=by simpa [AA] using hi'
  obtain ⟨u,hu⟩:∃ u,(Ep vr ve vst vo vi s)[1+i]? = some u:=⟨_,List.getElem?_eq_getElem (by simp [Ep,AA]; omega)⟩;obtain ⟨h1,h2⟩:=hd.row (1+i) u hu;exact ⟨by rw [h1]; rfl,h2⟩
 ·exact h _ (hd.setTok t hv) (GX p (AA (.slice ao n c) t) 1 w w ⟨rfl,rfl,rfl,Nat.le_refl _,fun _ _ _=>rfl⟩)
theorem Lr {N:Nat} {D:List Deferred} {a:Act} {l:List (Nat × Value)} {L rest:List Oper} {Q:Exit→Act→World→Prop} {ty:TypeId} {pos:String} {af:Array Edge} {x y:Operand} {v:Value} {b:Bool} (H:Has N D a l) (hx:ev l x = some (.pointer (some ⟨p,7,none⟩)))
  (hy:ev l y = some v) (hd:DW B p g bs vr ve vst vo vi s w) (hv:Rv v b)
  (h:∀ w',DW B p g bs vr v vst vo vi { s with bad:=b } w'→w.grownBy w' (some p)→wpList Tryz.prog L.toArray Q rest a w'):wpList Tryz.prog L.toArray Q (⟨none,.store 52 x y,ty,pos,af,none⟩::rest) a w:=by
 have hc:v.cells = #[v]∧v.oneCell' = true:=by
  cases b with
  | true=>obtain ⟨t,x,rfl⟩:=hv; exact ⟨rfl,rfl⟩
  | false=>cases hv; exact ⟨rfl,rfl⟩
 exact Aj EM H hx hy hc.1 (hd.row 7 _ rfl).1 (hd.row 7 _ rfl).2 hc.2 (h _ (hd.setErr hv) (AF w p 7 v))
theorem readEnd {q1:Nat} {u:FrameMode} (h:DW B p g bs vr ve vst vo vi s w) (h1:RowAt w q1 [.pointer (some ⟨p,0,none⟩)]) :
  CallsD Tryz.prog 27 #[.pointer (some ⟨q1,0,none⟩)] u w fun e u' w'=>u' = u∧e = .returned (.tuple #[])∧DW B p g bs vr ve vst vo vi { s with peeked:=false } w'∧w.grownBy w' (some p):=by
 refine Rq Tryz.func27 rfl rfl rfl fun a H=>Ac (Ah Ba H rfl (h1 0 _ rfl).1 rfl fun a H=>zc H rfl fun H=>zg Hg H rfl fun H=>Aj NA H rfl rfl rfl (h.row 0 _ rfl).1 (h.row 0 _ rfl).2 rfl (wpList_nil (Hi (by rfl) H ?_)));exact ⟨rfl,h.setCall false,AF w p 0 _⟩
theorem peekEnd {q1:Nat} {u:FrameMode} (h:DW B p g bs vr ve vst vo vi s w) (h1:RowAt w q1 [.pointer (some ⟨p,0,none⟩)]) :
  CallsD Tryz.prog 26 #[.pointer (some ⟨q1,0,none⟩)] u w fun e u' w'=>u' = u∧e = .returned (.tuple #[])∧DW B p g bs vr ve vst vo vi { s with peeked:=true } w'∧w.grownBy w' (some p):=by
 refine Rq Tryz.func26 rfl rfl rfl fun a H=>Ac (Ah Ba H rfl (h1 0 _ rfl).1 rfl fun a H=>zc H rfl fun H=>zg Hg H rfl fun H=>Aj NA H rfl rfl rfl (h.row 0 _ rfl).1 (h.row 0 _ rfl).2 rfl (wpList_nil (Hi (by rfl) H ?_)));exact ⟨rfl,h.setCall true,AF w p 0 _⟩
theorem CS {N q1 q2:Nat} {a:Act} {l:List (Nat × Value)} {c0 c1 c2 c3 c4 c5 e:Value} {R:Ending→World→Prop} (H:Has N [{ target:=.fn (.func 27) #[.pointer (some ⟨q1,0,none⟩)],args:=#[] }] a l)
  (l2:Bf l 2 = some (.pointer (some ⟨q2,0,none⟩))) (l3:Bf l 3 = some e) (h:DW B p g bs vr ve vst vo vi s w) (h1:RowAt w q1 [.pointer (some ⟨p,0,none⟩)]) (h2:RowAt w q2 [c0,c1,c2,c3,c4,c5]) (hq2:q2≠p)
  (hR:∀ w',DW B p g bs vr ve vst vo vi { s with peeked:=false } w'→w.grownBy w' (some p)→R (.returned (.tuple #[.agg #[c0,c1,c2,c3,c4,c5],e])) w') :
  bodyPostD Tryz.prog Tryz.f19 R .ret a w:=by
 show Leaves Tryz.prog Tryz.f19 a.tmps R a.defers .returning w
 rw [H.defers];have e1:=H.get 2 _ l2;have e2:=H.get 3 _ l3
 have h3:a.tmps.getD 3 undef = e:=by simp [e2]
 refine leaves_cons (f:=27) (args:=#[.pointer (some ⟨q1,0,none⟩)]) (by simp) (by simp [go_sem]) ((readEnd h h1).mono ?_);rintro e' u' w'' ⟨rfl,rfl,hd,hg⟩;have:=Ea (fn:=Tryz.f19) (P:=Tryz.prog) (t:=2) (u:=3) rfl a.tmps w'' q2 [c0,c1,c2,c3,c4,c5] _ (by simp [e1]) (h2.grown hg (World.block_lt_of_cell? _ _ (h2 0 _ rfl).1) hq2) Tryz.underlying50 (by rfl) (by kernel_rfl);rw [h3] at this;exact ⟨_,this,hR _ hd hg⟩
theorem JY {N q1 q2:Nat} {a:Act} {l:List (Nat × Value)} {c0 c1 c2 c3 c4 c5 e:Value} {R:Ending→World→Prop} (H:Has N [{ target:=.fn (.func 26) #[.pointer (some ⟨q1,0,none⟩)],args:=#[] }] a l)
  (l2:Bf l 2 = some (.pointer (some ⟨q2,0,none⟩))) (l3:Bf l 3 = some e) (h:DW B p g bs vr ve vst vo vi s w) (h1:RowAt w q1 [.pointer (some ⟨p,0,none⟩)]) (h2:RowAt w q2 [c0,c1,c2,c3,c4,c5]) (hq2:q2≠p)
  (hR:∀ w',DW B p g bs vr ve vst vo vi { s with peeked:=true } w'→w.grownBy w' (some p)→R (.returned (.tuple #[.agg #[c0,c1,c2,c3,c4,c5],e])) w') :
  bodyPostD Tryz.prog Tryz.f18 R .ret a w:=by
 show Leaves Tryz.prog Tryz.f18 a.tmps R a.defers .returning w
 rw [H.defers];have e1:=H.get 2 _ l2;have e2:=H.get 3 _ l3
 have h3:a.tmps.getD 3 undef = e:=by simp [e2]
 refine leaves_cons (f:=26) (args:=#[.pointer (some ⟨q1,0,none⟩)]) (by simp) (by simp [go_sem]) ((peekEnd h h1).mono ?_);rintro e' u' w'' ⟨rfl,rfl,hd,hg⟩;have:=Ea (fn:=Tryz.f18) (P:=Tryz.prog) (t:=2) (u:=3) rfl a.tmps w'' q2 [c0,c1,c2,c3,c4,c5] _ (by simp [e1]) (h2.grown hg (World.block_lt_of_cell? _ _ (h2 0 _ rfl).1) hq2) Tryz.underlying50 (by rfl) (by kernel_rfl);rw [h3] at this;exact ⟨_,this,hR _ hd hg⟩
def Ru (B p g:Nat) (bs:List UInt8) (vst vo:Value) (s:DT) (w:World) (o:Option DT) (e:Ending) (w':World):Prop:=match o with
 | none=>(∃ t x v,e = .returned (.tuple #[v,.iface t x])∧(s.peeked = false→v = Ni)∧∃ ao n c tk,v = EO (.slice ao n c) tk)∧∃ vr' ve' vst' vi' s',DW B p g bs vr' ve' vst' vo vi' s' w'∧s'.peeked = false∧DStep p vst w vst' w'
 | some s1=>∃ vr' ve' vst' vi',e = .returned (.tuple #[EO vr' s1.tok,.nilIface])∧DW B p g bs vr' ve' vst' vo vi' s1 w'∧DStep p vst w vst' w'
end Go.Proofs.YtgdnpnipahegaaaGreatDoor
