/-
 A walk over a frame of which only some slots are known: the laws of the operations in short.
-/
import Derived.Test.YtgdnpnipahegaaaDoorQ8
import Derived.Test.YtgdnpnipahegaaaDoorQ2
import Derived.Test.YtgdnpnipahegaaaDoorQ5
namespace Go.Proofs.YtgdnpnipahegaaaDoor
section
open Go.RowKit
variable {N:Nat} {D:List Deferred} {a:Act} {l:List (Nat × Value)}
def evN (N d:Nat) (l:List (Nat × Value)) (x:Operand):Option Value:=bif Nat.blt d N then ev l x else none
theorem Bt {d:Nat} {x:Operand} {v:Value} (h:evN N d l x = some v):Nat.blt d N = true:=by
 unfold evN at h
 cases hb:Nat.blt d N with
 | true=>rfl
 | false=>rw [hb] at h; cases h
theorem Bw {d:Nat} {x:Operand} {v:Value} (h:evN N d l x = some v):ev l x = some v:=by
 have hd:=Bt h;unfold evN at h;rwa [hd] at h
def Hn (l:List (Nat × Value)):List Nat→Option (List (Nat × Value))
 | []=>some []
 | k::ks=>match Bo l k,Hn l ks with
  | some v,some r=>some ((k,v)::r)
  | _,_=>none
theorem En:∀ (ks:List Nat) (l':List (Nat × Value)),Hn l ks = some l'→∀ k v,Bo l' k = some v→Bo l k = some v
 | [],l',h=>by injection h with h; subst h; exact Fa
 | k::ks,l',h=>by
  unfold Hn at h
  split at h
  ·rename_i v r h1 h2
   injection h with h
   subst h;exact B5 h1 (En ks r h2)
  ·cases h
theorem zK {G:Prop} (H:Has N D a l) (ks:List Nat) {l':List (Nat × Value)} (hk:Hn l ks = some l') (h:Has N D a l'→G):G:=h (H.sub l' (En ks l' hk))
theorem Has.c (H:Has N D a l) {l':List (Nat × Value)} (h:Hn l (l'.map Prod.fst) = some l':=by rfl):Has N D a l':=H.sub l' (En _ l' h)
section
variable {P:Program} {L:List Oper} {rest:List Oper} {Q:Exit→Act→World→Prop} {w:World} {d:Nat} {op:Op} {ty:TypeId} {pos:String} {af:Array Edge}
theorem zm {x:Operand} {v:Value} (H:Has N D a l) (hx:evN N d l x = some v) (h:∀ {a},Has N D a ((d,v)::l)→wpList P L.toArray Q rest a w):wpList P L.toArray Q (⟨some d,.move x,ty,pos,af,none⟩::rest) a w:=y_move H (Bw hx) (Bt hx) fun _ H=>h H
theorem za {x:Operand} {v:Value} (H:Has N D a l) (hx:evN N d l x = some v) (h:∀ {a},Has N D a ((d,v)::l)→wpList P L.toArray Q rest a w):wpList P L.toArray Q (⟨some d,.assign x,ty,pos,af,none⟩::rest) a w:=GZ H (Bw hx) (Bt hx) fun _ H=>h H
theorem zp {c x y:Operand} {b:Bool} {v:Value} (H:Has N D a l) (hc:ev l c = some (.bool b)) (hx:evN N d l (bif b then x else y) = some v) (h:∀ {a},Has N D a ((d,v)::l)→wpList P L.toArray Q rest a w):wpList P L.toArray Q (⟨some d,.pick c x y,ty,pos,af,none⟩::rest) a w:=y_pick H hc (Bw hx) (Bt hx) fun _ H=>h H
theorem zc {x:Operand} {ad:Addr} (H:Has N D a l) (hx:evN N d l x = some (.pointer (some ad))) (h:∀ {a},Has N D a ((d,.pointer (some ad))::l)→wpList P L.toArray Q rest a w):wpList P L.toArray Q (⟨some d,.nilCheck x,ty,pos,af,none⟩::rest) a w:=FW H (Bw hx) (Bt hx) fun _ H=>h H
theorem zx {x:Operand} {i:Nat} {vs:Array Value} {v:Value} (H:Has N D a l) (hx:evN N d l x = some (.tuple vs)) (hv:vs[i]? = some v) (h:∀ {a},Has N D a ((d,v)::l)→wpList P L.toArray Q rest a w):wpList P L.toArray Q (⟨some d,.extract x i,ty,pos,af,none⟩::rest) a w:=GB H (Bw hx) hv (Bt hx) fun _ H=>h H
theorem zet {t t':TypeId} {x y:Operand} {k:IntKind} {m n:Int} (H:Has N D a l) (hx:ev l x = some (.int k m)) (hy:evN N d l y = some (.int k n)) (h:∀ {a},Has N D a ((d,.bool true)::l)→wpList P L.toArray Q rest a w) (h0:m = n:=by omega):wpList P L.toArray Q (⟨some d,.binOp .eql t x y t',ty,pos,af,none⟩::rest) a w:=Gl H hx (Bw hy) (ieq_t h0) (Bt hy) fun _ H=>h H
theorem zef {t t':TypeId} {x y:Operand} {k:IntKind} {m n:Int} (H:Has N D a l) (hx:ev l x = some (.int k m)) (hy:evN N d l y = some (.int k n)) (h:∀ {a},Has N D a ((d,.bool false)::l)→wpList P L.toArray Q rest a w) (h0:m≠n:=by omega):wpList P L.toArray Q (⟨some d,.binOp .eql t x y t',ty,pos,af,none⟩::rest) a w:=Gl H hx (Bw hy) (ieq_f h0) (Bt hy) fun _ H=>h H
theorem znt {t t':TypeId} {x y:Operand} {k:IntKind} {m n:Int} (H:Has N D a l) (hx:ev l x = some (.int k m)) (hy:evN N d l y = some (.int k n)) (h:∀ {a},Has N D a ((d,.bool true)::l)→wpList P L.toArray Q rest a w) (h0:m≠n:=by omega):wpList P L.toArray Q (⟨some d,.binOp .neq t x y t',ty,pos,af,none⟩::rest) a w:=y_neq H hx (Bw hy) (ine_t h0) (Bt hy) fun _ H=>h H
theorem znf {t t':TypeId} {x y:Operand} {k:IntKind} {m n:Int} (H:Has N D a l) (hx:ev l x = some (.int k m)) (hy:evN N d l y = some (.int k n)) (h:∀ {a},Has N D a ((d,.bool false)::l)→wpList P L.toArray Q rest a w) (h0:m = n:=by omega):wpList P L.toArray Q (⟨some d,.binOp .neq t x y t',ty,pos,af,none⟩::rest) a w:=y_neq H hx (Bw hy) (ine_f h0) (Bt hy) fun _ H=>h H
theorem zlt {t t':TypeId} {x y:Operand} {k:IntKind} {m n:Int} (H:Has N D a l) (hx:ev l x = some (.int k m)) (hy:evN N d l y = some (.int k n)) (h:∀ {a},Has N D a ((d,.bool true)::l)→wpList P L.toArray Q rest a w) (h0:m < n:=by omega):wpList P L.toArray Q (⟨some d,.binOp .lss t x y t',ty,pos,af,none⟩::rest) a w:=GY H hx (Bw hy) (decide_eq_true h0) (Bt hy) fun _ H=>h H
theorem zlf {t t':TypeId} {x y:Operand} {k:IntKind} {m n:Int} (H:Has N D a l) (hx:ev l x = some (.int k m)) (hy:evN N d l y = some (.int k n)) (h:∀ {a},Has N D a ((d,.bool false)::l)→wpList P L.toArray Q rest a w) (h0:¬ m < n:=by omega):wpList P L.toArray Q (⟨some d,.binOp .lss t x y t',ty,pos,af,none⟩::rest) a w:=GY H hx (Bw hy) (decide_eq_false h0) (Bt hy) fun _ H=>h H
theorem zgt {t t':TypeId} {x y:Operand} {k:IntKind} {m n:Int} (H:Has N D a l) (hx:ev l x = some (.int k m)) (hy:evN N d l y = some (.int k n)) (h:∀ {a},Has N D a ((d,.bool true)::l)→wpList P L.toArray Q rest a w) (h0:n < m:=by omega):wpList P L.toArray Q (⟨some d,.binOp .gtr t x y t',ty,pos,af,none⟩::rest) a w:=Gk H hx (Bw hy) (decide_eq_true h0) (Bt hy) fun _ H=>h H
theorem zgf {t t':TypeId} {x y:Operand} {k:IntKind} {m n:Int} (H:Has N D a l) (hx:ev l x = some (.int k m)) (hy:evN N d l y = some (.int k n)) (h:∀ {a},Has N D a ((d,.bool false)::l)→wpList P L.toArray Q rest a w) (h0:¬ n < m:=by omega):wpList P L.toArray Q (⟨some d,.binOp .gtr t x y t',ty,pos,af,none⟩::rest) a w:=Gk H hx (Bw hy) (decide_eq_false h0) (Bt hy) fun _ H=>h H
theorem GA {t t':TypeId} {x y:Operand} {m n r:Int} (H:Has N D a l) (hx:ev l x = some (.int .i64 m)) (hy:evN N d l y = some (.int .i64 n)) (h:∀ {a},Has N D a ((d,.int .i64 r)::l)→wpList P L.toArray Q rest a w) (hr:m+n = r:=by omega) (h0:-9223372036854775808≤r:=by omega) (h1:r≤9223372036854775807:=by omega):wpList P L.toArray Q (⟨some d,.binOp .add t x y t',ty,pos,af,none⟩::rest) a w:=y_addi H hx (Bw hy) hr h0 h1 (Bt hy) fun _ H=>h H
theorem zsub {t t':TypeId} {x y:Operand} {m n r:Int} (H:Has N D a l) (hx:ev l x = some (.int .i64 m)) (hy:evN N d l y = some (.int .i64 n)) (h:∀ {a},Has N D a ((d,.int .i64 r)::l)→wpList P L.toArray Q rest a w) (hr:m - n = r:=by omega) (h0:-9223372036854775808≤r:=by omega) (h1:r≤9223372036854775807:=by omega):wpList P L.toArray Q (⟨some d,.binOp .sub t x y t',ty,pos,af,none⟩::rest) a w:=y_subi H hx (Bw hy) hr h0 h1 (Bt hy) fun _ H=>h H
theorem zg {s f k p:Nat} {x:Operand} (hf:Fw P s f k) (H:Has N D a l) (hx:evN N d l x = some (.pointer (some ⟨p,0,none⟩))) (h:∀ {a},Has N D a ((d,.pointer (some ⟨p,k,none⟩))::l)→wpList P L.toArray Q rest a w):wpList P L.toArray Q (⟨some d,.fieldAddr s x f,ty,pos,af,none⟩::rest) a w:=y_field hf H (Bw hx) (Bt hx) fun _ H=>h H
theorem zl {t:TypeId} {x:Operand} {ad:Addr} {v:Value} (ht:CG P t) (H:Has N D a l) (hx:evN N d l x = some (.pointer (some ad))) (hc:w.cell? ad = some v) (h:∀ {a},Has N D a ((d,v)::l)→wpList P L.toArray Q rest a w):wpList P L.toArray Q (⟨some d,.load t x,ty,pos,af,none⟩::rest) a w:=FX ht H (Bw hx) hc (Bt hx) fun _ H=>h H
theorem zL {t e:TypeId} {x:Operand} {g:Nat} {v:Value} {bs:List UInt8} (ht:P.underlying t = some (.slice e)) (H:Has N D a l) (hx:evN N d l x = some v) (hv:View w g v bs) (h:∀ {a},Has N D a ((d,.int .i64 (bs.length:Int))::l)→wpList P L.toArray Q rest a w):wpList P L.toArray Q (⟨some d,.call { callee:=.builtin .len,args:=#[x],argTypes:=#[t] },ty,pos,af,none⟩::rest) a w:=y_len ht H (Bw hx) hv (Bt hx) fun _ H=>h H
theorem zC {f:FuncId} {xs:List Operand} {ts:Array TypeId} {vs:List Value} (hp:Bu P f) (H:Has N D a l) (hx:evs l xs = some vs) (h:Calls P f vs.toArray w fun e w'=>∃ v,e = .returned v∧∀ a,Has N D a ((d,v)::l)→wpList P L.toArray Q rest a w') (hd:Nat.blt d N = true:=by rfl):wpList P L.toArray Q (⟨some d,.call { callee:=.value (.func f),args:=xs.toArray,argTypes:=ts },ty,pos,af,none⟩::rest) a w:=y_call hp H hx hd h
def gdv (l:List (Nat × Value)) (L:List Oper) (j:Nat):Option Value:=match B0 L j with
 | some k=>Bo l k
 | none=>none
theorem Gy {j:Nat} {v:Value} (h:gdv l L j = some v):∃ k,B0 L j = some k∧Bo l k = some v:=by
 unfold gdv at h
 split at h
 ·rename_i k hk; exact ⟨k,hk,h⟩
 ·cases h
theorem zo {dd:Option Tmp} {j:Nat} {b:Bool} (H:Has N D a l) (hg:gdv l L j = some (.bool b)) (h:wpList P L.toArray Q (⟨dd,op,ty,pos,af,none⟩::rest) a w):wpList P L.toArray Q (⟨dd,op,ty,pos,af,some (j,b)⟩::rest) a w:=by
 obtain ⟨k,h1,h2⟩:=Gy hg;exact y_on H h1 h2 h
theorem zf {j:Nat} {b:Bool} (H:Has N D a l) (hg:gdv l L j = some (.bool (!b))) (h:∀ {a},Has N D a ((d,undef)::l)→wpList P L.toArray Q rest a w) (hd:Nat.blt d N = true:=by rfl):wpList P L.toArray Q (⟨some d,op,ty,pos,af,some (j,b)⟩::rest) a w:=by
 obtain ⟨k,h1,h2⟩:=Gy hg;exact y_off H h1 h2 hd fun _ H=>h H
theorem zN {K:Act→World→Prop} (h:K a w):wpList P L.toArray (Exit.then K Q) [] a w:=wpList_nil (FI h)
end
section
variable {P:Program} {L:List Oper} {Q:Exit→Act→World→Prop} {w:World} {id:Nat} {K:Act→World→Prop}
theorem zi {x y:Code} {c:Operand} (H:Has N D a l) (hc:ev l c = some (.bool true)) (h:x.wp P Q a w):(Code.cond c x y).wp P Q a w:=y_ift H hc h
theorem zj {x y:Code} {c:Operand} (H:Has N D a l) (hc:ev l c = some (.bool false)) (h:y.wp P Q a w):(Code.cond c x y).wp P Q a w:=y_iff H hc h
theorem tn (h:K a w):Exit.then K Q .normal a w:=h
theorem tr (h:Q .ret a w):Exit.then K Q .ret a w:=h
theorem te (h:Q (.exit id) a w):Exit.then K Q (.exit id) a w:=h
theorem bn (h:Q .normal a w):Exit.inBlock id Q .normal a w:=h
theorem br (h:Q .ret a w):Exit.inBlock id Q .ret a w:=h
theorem zs {x y:Code} (h:∀ {K:Act→World→Prop},(∀ {a w},y.wp P Q a w→K a w)→x.wp P (Exit.then K Q) a w):(Code.seq x y).wp P Q a w:=wp_seq_k fun _ hK=>h fun {_ _} h=>hK _ _ h
theorem zr {L:List Oper} {y:Code} (h:∀ {K:Act→World→Prop},(∀ {a w},y.wp P Q a w→K a w)→wpList P L.toArray (Exit.then K Q) L a w):(Code.seq (.region id L.toArray false) y).wp P Q a w:=wp_seq_k fun _ hK=>Aj (h fun {_ _} h=>hK _ _ h)
end
section
variable {P:Program} {L:List Oper} {Q:Exit→Act→World→Prop} {S:World→Prop} {w:World} {d fuel:Nat} {op:Op} {ty:TypeId} {pos:String} {af:Array Edge} {listed:Array Bool}
theorem zd {v:Value} (i:Nat) (H:Has N D a l) (hi:L.toArray[i]? = some ⟨some d,op,ty,pos,af,none⟩) (hy:∀ w,S w→(execOp a.eval ⟨some d,op,ty,pos,af,none⟩).run P w = .ok (.value v) w) (hS:S w)
  (h:∀ {a},Has N D a ((d,v)::l)→wpAnyH P .any L.toArray (NoPanic Q) S fuel (listed.setIfInBounds i true) a w) (hs:Region.noSelect L.toArray = true:=by kernel_rfl) (hf:Region.free .any L.toArray listed i = true:=by kernel_rfl) (hr:(Region.ready .any L.toArray listed).contains i = true:=by kernel_rfl) (hd:Nat.blt d N = true:=by rfl):wpAnyH P .any L.toArray (NoPanic Q) S (fuel+1) listed a w:=d_take i H hi hs hf hr hy hS hd fun _ H=>h H
theorem zD (i:Nat) {o:Oper} (hi:L.toArray[i]? = some o) (h:wpList P L.toArray (Exit.then (fun a' w'=>S w'∧wpAnyH P .any L.toArray (NoPanic Q) S fuel (listed.setIfInBounds i true) a' w') (NoPanic Q)) [o] a w) (hr:Region.ready .any L.toArray listed = [i]:=by kernel_rfl) (hg:o.guard = none:=by rfl):wpAnyH P .any L.toArray (NoPanic Q) S (fuel+1) listed a w:=d_one i hr hi hg h
end
end
section
open Go.ChangeShapes Go.WideShapes Go.ChangeAt Go.RowKit
section
variable {N:Nat} {D:List Deferred} {a:Act} {l:List (Nat × Value)} {L rest:List Oper} {Q:Exit→Act→World→Prop} {w:World} {d:Nat} {ty:TypeId} {pos:String} {af:Array Edge}
theorem zR {w':World} {P:Program} {v:Value} (h:∀ {a},Has N D a ((d,v)::l)→wpList P L.toArray Q rest a w'):∃ x,Ending.returned v = .returned x∧∀ a,Has N D a ((d,x)::l)→wpList P L.toArray Q rest a w':=⟨v,rfl,fun _ H=>h H⟩
end
end
section
open Go.ChangeShapes Go.WideShapes Go.ChangeAt Go.RowKit
variable {B p g:Nat} {bs:List UInt8} {vr ve vst vo vi:Value}
theorem DW.c10 {s:DT} {w:World} (h:DW B p g bs vr ve vst vo vi s w):w.cell? ⟨p,10,none⟩ = some vi∧w.frozen? ⟨p,10,none⟩ = false:=h.row 10 _ rfl
theorem Hu (bs:List UInt8) (k n:Nat):(bs.drop k).drop (n+skT false ((bs.drop k).drop n)) = bs.drop (goT bs k n):=by
 rw [List.drop_drop,List.drop_drop]
 congr 1
 unfold goT;omega
theorem goT_le' {bs:List UInt8} {k n:Nat} (h:k+n≤bs.length):goT bs k n≤bs.length:=by
 have:=Fb false (bs.drop (k+n));simp only [List.length_drop] at this;unfold goT;omega
set_option maxRecDepth 100000 in
set_option maxHeartbeats 1000000 in
theorem FV (s:DT) (n:Nat) (w:World) (h:DW B p g bs vr ve vst vo vi s w) (hn:s.k+n≤bs.length) (hm:bs.length≤100000000) :
  Calls Tryd.prog 23 #[.pointer (some ⟨p,0,none⟩),.int .i64 (n:Int)] w fun e w'=>e = .returned (.tuple #[])∧∃ vi',DW B p g bs vr ve vst vo vi' { s with k:=goT bs s.k n } w'∧w.grownBy w' (some p):=by
 obtain ⟨c10,f10⟩:=h.c10;have HC:=hid (Ft vi (bs.drop s.k) n g w h.inn (by simp; omega) (by simp; omega));rw [Hu] at HC;have HH:=hid h;have HL:=hid (goT_le' hn);clear h
 go_enter Tryd.func23,Tryd.ntmps23
 go_wp2_with (first
  | (go_at_call 37; refine (Calls.mono HC.out ?_); rintro e w' ⟨v2,rfl,hv2,rfl⟩; obtain ⟨ao2,n2,cp2,rfl⟩:=View.slice3 hv2; have HV2:=hid hv2; clear hv2)
  | fail)
 refine bodyPost_ret (results_none rfl _ _ _) rfl ?_;exact ⟨rfl,_,HH.out.setIn HV2.out HL.out,BU w p 10 _⟩
end
section
open Go.ChangeShapes Go.WideShapes Go.ChangeAt Go.RowKit
def F9:List UInt8:=[48,49,50,51,52,53,54,55]
def Fm:List UInt8:=[48,49,50,51,52,53,54,55,56,57,97,98,99,100,101,102,65,66,67,68,69,70]
theorem Gn:∀ c:Fin 256,F9.contains (UInt8.ofNat c.val) = Ai (UInt8.ofNat c.val)∧Fm.contains (UInt8.ofNat c.val) = Aq (UInt8.ofNat c.val):=by decide +kernel
theorem set_oct (c:UInt8):F9.contains c = Ai c:=by have:=(Gn ⟨c.toNat,c.toNat_lt⟩).1; simpa using this
theorem set_hex (c:UInt8):Fm.contains c = Aq c:=by have:=(Gn ⟨c.toNat,c.toNat_lt⟩).2; simpa using this
theorem EJ (p:UInt8→Bool) (cs:List UInt8) (h:∀ c,cs.contains c = p c):∀ l:List UInt8,(Lib.trimLeftS l cs).length = l.length - Au p l
 | []=>rfl
 | c::l=>by
  have ih:=EJ p cs h l;have hl:=Bb p l;unfold Lib.trimLeftS at ih ⊢;rw [AK,List.dropWhile_cons,h]
  cases hp:p c with
  | false=>simp
  | true=>simp only [if_true]; rw [ih,List.length_cons]; omega
def LenRes (n:Nat) (w:World) (e:Ending) (w':World):Prop:=∃ ao c,e = .returned (.slice ao n c)∧Below w.heap.size w w'
theorem C5 (p:UInt8→Bool) (cs:List UInt8) (hcs:∀ c,cs.contains c = p c) (hlen:cs.length≤100) (hasc:cs.all (fun c=>decide (c.toNat < 128)) = true) (v:Value) (l:List UInt8) (g:Nat) (w:World) (hv:View w g v l) :
  Calls Tryd.prog 24 #[v,.string ⟨cs.toArray⟩] w (LenRes (l.length - Au p l) w):=by
 obtain ⟨ao,cap,rfl,h1,h2,h3,off,h4,h5⟩:=hv;have hsz:(⟨cs.toArray⟩:ByteArray).size = cs.length:=Am cs
 have h:=Tryd.bytes_TrimLeft ao l.length cap l ⟨cs.toArray⟩ w rfl h1 (by unfold maxLen at h2; exact h2) (fun h0=>⟨g,off,h4 (List.length_pos_iff.1 h0),fun i hi=>by rw [h5 i hi]; simp [List.getD_eq_getElem?_getD,hi]⟩) (by rw [hsz]; omega) (fun j b hj=>by
  have hb:b ∈ cs:=List.mem_of_getElem? (by simpa using hj)
  simpa using List.all_eq_true.1 hasc b hb)
 refine h.mono fun e w' ⟨he,hb⟩=>?_;have hz:=EJ p cs hcs l;have hl:=Bb p l;rw [show (⟨cs.toArray⟩:ByteArray).data.toList = cs by simp,hz] at he
 have e:l.length - (l.length - Au p l) = Au p l:=by omega
 rw [e] at he;unfold Lib.leftV at he;subst he
 by_cases hz0:Au p l = l.length
 ·rw [if_pos hz0,hz0,Nat.sub_self];exact ⟨none,0,rfl,hb⟩
 ·rw [if_neg hz0];exact ⟨_,_,rfl,hb⟩
end
end Go.Proofs.YtgdnpnipahegaaaDoor
