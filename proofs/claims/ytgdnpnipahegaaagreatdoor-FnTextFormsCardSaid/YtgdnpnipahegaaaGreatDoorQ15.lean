/-
 The reference's writer of the text form, walked: TextWrite.
-/
import Derived.Test.YtgdnpnipahegaaaGreatDoorQ9
import Derived.Test.YtgdnpnipahegaaaGreatDoorQ14
import Derived.Test.YtgdnpnipahegaaaGreatDoorQ6
import Derived.Test.YtgdnpnipahegaaaGreatDoorQ4
namespace Go.Proofs.YtgdnpnipahegaaaGreatDoor
open Go.ChangeShapes Go.WideShapes Go.ChangeAt Go.RowKit
theorem y_boxW {N:Nat} {D:List Deferred} {a:Act} {l:List (Nat × Value)} {P:Program} {L rest:List Oper} {Q:Exit→Act→World→Prop} {w:World} {d:Nat} {ty:TypeId} {pos:String} {af:Array Edge} {t:TypeId} {x:Operand} {cs:List Value} (H:Has N D a l) (hx:ev l x = some (.agg cs.toArray)) (hd:Nat.blt d N = true)
  (h:∀ w',RowAt w' w.heap.size cs→Below w.heap.size w w'→w'.heap.size = w.heap.size+1→∀ a,Has N D a ((d,.pointer (some ⟨w.heap.size,0,none⟩))::l)→wpList P L.toArray Q rest a w'):wpList P L.toArray Q (⟨some d,.box t x,ty,pos,af,none⟩::rest) a w:=
 y_wp H hd (w':=w.alloc (.cells cs.toArray t)) (v:=.pointer (some ⟨w.heap.size,0,none⟩)) (by have h1:=H.ev hx; simp [execOp,h1,Instr.box,newVar,newRow,Value.cells,Result.andThen]) (h _ (rowAt_new (heap_alloc_new w _)) ((Below.refl _ w).alloc (Nat.le_refl _) _) (size_allocT w _))
theorem w_built (ao:Option Addr) (n c:Nat):Tryz.prog.built 39 [(0,.slice ao n c),(4,.int .i64 300)] = some #[.slice ao n c,.int .i64 0,.slice none 0 0,.slice none 0 0,.int .i64 300]:=by kernel_rfl
theorem retT2 {P:Program} {N:Nat} {a:Act} {l:List (Nat × Value)} {w:World} {fn:Func} {t u:Tmp} {v x:Value} {R:Ending→World→Prop} (hres:fn.results = #[.tmp t,.tmp u]) (H:Has N [] a l) (h:look l t = some v) (k:look l u = some x) (hR:R (.returned (.tuple #[v,x])) w):bodyPost P fn R .ret a w:=by
 have e:=H.get t v h;have e2:=H.get u x k
 have h3:a.tmps.getD t undef = v:=by simp [e]
 have h4:a.tmps.getD u undef = x:=by simp [e2]
 have:=results_tmp2 hres a.tmps P w;rw [h3,h4] at this;exact bodyPost_ret_by this H.defers hR
theorem fieldsW_any {B p g:Nat} (ps:List UInt8) {vp:Value} (hps:ps.length≤2147483647):∀ (d deep:Nat),d+1+deep = 10→FOk B p g ps vp (fieldsW ps (d+1) deep) deep
 | 0,deep,hd=>fun vo vl s w h hk ho hl=>fields_any (fieldsW ps 0 (deep+1)) deep (by omega) (fun h8=>by omega) (GrowL.fieldsW ps 0 (deep+1)) h hps hk ho hl
 | d+1,deep,hd=>fun vo vl s w h hk ho hl=>fields_any (fieldsW ps (d+1) (deep+1)) deep (by omega) (fun _=>fieldsW_any ps hps d (deep+1) (by omega)) (GrowL.fieldsW ps (d+1) (deep+1)) h hps hk ho hl
def Wrote (ps:List UInt8) (w:World) (e:Ending) (w':World):Prop:=∃ vo vl,e = .returned (.tuple #[vo,vl])∧OwnB w' w.heap.size 5 vo (writeW ps).out∧OwnQ w' w.heap.size vl (writeW ps).l∧Below w.heap.size w w'
theorem writeW_len (ps:List UInt8):(writeW ps).out.length≤3000040∧(writeW ps).l.length≤3000:=by
 have h:=(GrowL.blanks ps false ⟨0,[],[],300⟩).trans (GrowL.fieldsW ps 10 0 _);have h1:=h.len;have h2:=h.ll;simp only [List.length_nil] at h1 h2;have e:fieldsW ps 10 0 (blanksW ps false ⟨0,[],[],300⟩) = writeW ps:=rfl;rw [e] at h1 h2;omega
set_option maxRecDepth 100000 in
set_option maxHeartbeats 100000000 in
theorem textWrite_any (v:Value) (ps:List UInt8) (g:Nat) (w:World) (hv:View w g v ps) (hps:ps.length≤2147483647) (hg:g < w.heap.size) :
  Calls Tryz.prog 6 #[v] w (Wrote ps w):=by
 obtain ⟨ao,n,cap,rfl⟩:=hv.slice3;refine enter1 (M:=20) Tryz.func6 rfl rfl rfl fun a H=>zr fun j1=>za H rfl fun H=>za H rfl fun H=>zN (j1 ?_);refine zr fun j2=>zm H rfl fun H=>zB (w_built _ _ _) H rfl fun H=>?_;obtain ⟨p,hp⟩:∃ p,p = w.heap.size:=⟨_,rfl⟩;refine y_boxW (cs:=[.slice ao n cap,.int .i64 0,.slice none 0 0,.slice none 0 0,.int .i64 300]) H rfl rfl fun w1 hr1 hb1 hs1 a H=>?_;rw [←hp] at H hr1;have hz1:=hb1.size;have hd1:TW w.heap.size p g ps (.slice ao n cap) (.slice none 0 0) (.slice none 0 0) ⟨0,[],[],300⟩ w1:={ row:=hr1,out:=World.ownsRow_nil _ _ _ _,l:=World.ownsRow_nil _ _ _ _,v:=hv.below hb1 ,hp:=by omega,hg:=hg,no:=(by intro h; cases h),nl:=(by intro h; cases h),ol:=(fun k h=>by cases h) };obtain ⟨s0,hs0e⟩:∃ s0:WS,s0 = ⟨0,[],[],300⟩:=⟨_,rfl⟩;rw [←hs0e] at hd1
 have hk0:s0.k≤ps.length:=by rw [hs0e]; exact Nat.zero_le _
 have ho0:s0.out.length+10000 * s0.left = 3000000:=by rw [hs0e]; try rfl
 have hl0:s0.l.length+10 * s0.left = 3000:=by rw [hs0e]; try rfl
 have hs0:=WStep.refl p (.slice none 0 0) (.slice none 0 0) w1;have hlp:=hd1.lt;have hgl:=hd1.gl;refine za H rfl fun H=>zN (j2 ?_);refine zr fun j3=>zm H rfl fun H=>zC pf_blanks H rfl (Calls.mono (blanks_any false hd1 hps hk0 (by omega)) ?_);rintro e w4 ⟨rfl,vo4,vl4,hd4,hds4⟩;refine zR fun H=>?_;have hz5:=hds4.size;have hs6:=WStep.trans hs0 hds4;have hgrs7:GrowL ps _ _ s0 (blanksW ps false s0):=GrowL.blanks ps false s0;generalize hses7:(blanksW ps false s0:WS) = s7 at hd4 hgrs7;obtain ⟨hks7,hos7,hls7,hfs7⟩:=hgrs7.all hk0;refine zN (j3 ?_);refine zK H [0,2,3,4] rfl fun H=>zr fun j8=>zm H rfl fun H=>zC pf_fields H rfl (Calls.mono (fieldsW_any ps hps 9 0 rfl _ _ _ _ hd4 hks7 (by omega) (by omega)) ?_);rintro e w9 ⟨rfl,vo9,vl9,hd9,hds9⟩;refine zR fun H=>?_;have hz10:=hds9.size;have hs11:=WStep.trans hs6 hds9;have hgrs12:GrowL ps _ _ s7 (fieldsW ps 10 0 s7):=GrowL.fieldsW ps 10 0 s7;generalize hses12:(fieldsW ps 10 0 s7:WS) = s12 at hd9 hgrs12;obtain ⟨hks12,hos12,hls12,hfs12⟩:=hgrs12.all hks7;refine zN (j8 ?_);refine zs fun j13=>d_begin (fun w'=>w'.cell? ⟨p,2,none⟩ = some vo9∧w'.cell? ⟨p,3,none⟩ = some vl9) 10 mixedP rfl ?_;have hbd14:Below w9.heap.size w9 w9.drew:=(Below.refl _ _).drew;generalize w9.drew = wd14 at hbd14 ⊢;have hz15:=hbd14.size;have hd16:=TW.below hd9 hbd14;have hs17:=WStep.trans hs11 (WStep.of_below hbd14);have hS:_∧_:=⟨(hd16.row 2 _ rfl).1,(hd16.row 3 _ rfl).1⟩;refine zd 0 H rfl (r_move H rfl) hS fun H=>zd 1 H rfl (r_nilCheck H rfl) hS fun H=>zd 2 H rfl (r_field fld_w2 H rfl) hS fun H=>zd 3 H rfl (r_load one22 H rfl (fun _ h=>h.1)) hS fun H=>zd 4 H rfl (r_move H rfl) hS fun H=>zd 5 H rfl (r_nilCheck H rfl) hS fun H=>zd 6 H rfl (r_field fld_w3 H rfl) hS fun H=>zd 7 H rfl (r_load one23 H rfl (fun _ h=>h.2)) hS fun H=>zd 8 H rfl (r_assign H rfl) hS fun H=>zd 9 H rfl (r_assign H rfl) hS fun H=>d_done (by kernel_rfl) (tn (j13 ?_));refine wp_ret (retT2 (by rfl) H rfl rfl ?_)
 have hW:writeW ps = s12:=by subst hs0e hses7 hses12; rfl
 rw [←hW] at hd16;have hlow:=WStep.low hs17 hd1;exact ⟨_,_,rfl,hd16.out,hd16.l,(hb1.trans hlow:Below w.heap.size w _)⟩
end Go.Proofs.YtgdnpnipahegaaaGreatDoor
namespace Go.Proofs.YtgdnpnipahegaaaGreatDoor
open Go.ChangeShapes Go.WideShapes Go.ChangeAt Go.RowKit
def octSet:List UInt8:=[48,49,50,51,52,53,54,55]
def hexSetT:List UInt8:=[48,49,50,51,52,53,54,55,56,57,97,98,99,100,101,102,65,66,67,68,69,70]
theorem set_all:∀ c:Fin 256,octSet.contains (UInt8.ofNat c.val) = isOct (UInt8.ofNat c.val)∧hexSetT.contains (UInt8.ofNat c.val) = isHex (UInt8.ofNat c.val):=by decide +kernel
theorem set_oct (c:UInt8):octSet.contains c = isOct c:=by have:=(set_all ⟨c.toNat,c.toNat_lt⟩).1; simpa using this
theorem set_hex (c:UInt8):hexSetT.contains c = isHex c:=by have:=(set_all ⟨c.toNat,c.toNat_lt⟩).2; simpa using this
theorem trimS_len (p:UInt8→Bool) (cs:List UInt8) (h:∀ c,cs.contains c = p c):∀ l:List UInt8,(Lib.trimLeftS l cs).length = l.length - runN p l
 | []=>rfl
 | c::l=>by
  have ih:=trimS_len p cs h l;have hl:=runN_le p l;unfold Lib.trimLeftS at ih ⊢;rw [runN_cons,List.dropWhile_cons,h]
  cases hp:p c with
  | false=>simp
  | true=>simp only [if_true]; rw [ih,List.length_cons]; omega
def LenRes (n:Nat) (w:World) (e:Ending) (w':World):Prop:=∃ ao c,e = .returned (.slice ao n c)∧Below w.heap.size w w'
theorem trimLeft_any (p:UInt8→Bool) (cs:List UInt8) (hcs:∀ c,cs.contains c = p c) (hlen:cs.length≤100) (hasc:cs.all (fun c=>decide (c.toNat < 128)) = true) (v:Value) (l:List UInt8) (g:Nat) (w:World) (hv:View w g v l) :
  Calls Tryz.prog 83 #[v,.string ⟨cs.toArray⟩] w (LenRes (l.length - runN p l) w):=by
 obtain ⟨ao,cap,rfl,h1,h2,h3,off,h4,h5⟩:=hv;have hsz:(⟨cs.toArray⟩:ByteArray).size = cs.length:=size_mk cs
 have h:=Tryz.bytes_TrimLeft ao l.length cap l ⟨cs.toArray⟩ w rfl h1 (by unfold maxLen at h2; exact h2) (fun h0=>⟨g,off,h4 (List.length_pos_iff.1 h0),fun i hi=>by rw [h5 i hi]; simp [List.getD_eq_getElem?_getD,hi]⟩) (by rw [hsz]; omega) (fun j b hj=>by
  have hb:b ∈ cs:=List.mem_of_getElem? (by simpa using hj)
  simpa using List.all_eq_true.1 hasc b hb)
 refine h.mono fun e w' ⟨he,hb⟩=>?_;have hz:=trimS_len p cs hcs l;have hl:=runN_le p l;rw [show (⟨cs.toArray⟩:ByteArray).data.toList = cs by simp,hz] at he
 have e:l.length - (l.length - runN p l) = runN p l:=by omega
 rw [e] at he;unfold Lib.leftV at he;subst he
 by_cases hz0:runN p l = l.length
 ·rw [if_pos hz0,hz0,Nat.sub_self];exact ⟨none,0,rfl,hb⟩
 ·rw [if_neg hz0];exact ⟨_,_,rfl,hb⟩
end Go.Proofs.YtgdnpnipahegaaaGreatDoor
