/-
 The law FnTextPeeks: looking ahead changes nothing of what is read.
-/
import Derived.Test.YtgdnpnipahegaaaGreatDoorQ32
import Derived.Test.YtgdnpnipahegaaaGreatDoorOpen
import Derived.Lib.SlBytesConst
import Derived.Lib.SmallJoins
namespace Go.Proofs.YtgdnpnipahegaaaGreatDoor
open Go.ChangeShapes Go.WideShapes Go.ChangeAt Go.RowKit
theorem O7 (bs:List UInt8) (ps:List Bool):∀ (f:Nat) (s:DT) (l:List TT),(FE bs ps f s l).1.length≤l.length+f
 | 0,_,_=>Nat.le_refl _
 | f+1,s,l=>by
  show (match Cx bs (if ps.getD l.length false then Fo bs s else s) with | none=>(l,false) | some s1=>if s1.tok.kind = 1 then (l,true) else FE bs ps f s1 (l++[s1.tok])).1.length≤_
  rcases Cx bs (if ps.getD l.length false then Fo bs s else s) with _ | s1
  ·exact Nat.le_add_right _ _
  ·simp only
   split
   ·exact Nat.le_add_right _ _
   ·have:=O7 bs ps f s1 (l++[s1.tok]);simp only [List.length_append,List.length_cons,List.length_nil] at this;omega
theorem Uy (bs:List UInt8) (ps:List Bool):(Gp bs ps).1.length≤bs.length+1:=by
 have:=O7 bs ps (bs.length+1) DT.new []
 simpa [Gp] using this
def UA (B:Nat) (l:List TT) (b:Bool) (w0:World) (e:Ending) (w':World):Prop:=∃ ao c,e = .returned (.tuple #[.slice ao l.length c,.bool b])∧OwnX w' B (.slice ao l.length c) l∧Below w0.heap.size w0 w'
theorem XRes.told {l:List TT} {b:Bool} {w w':World} {e:Ending} {R:List TT × Bool} (h:XRes w.heap.size R w e w') (hR:R = (l,b)):UA w.heap.size l b w e w':=by
 subst hR;obtain ⟨v,rfl,h2,h3⟩:=h;obtain ⟨ao,c,rfl⟩:=h2.slice;exact ⟨ao,c,rfl,h2,h3⟩
theorem PK:∃ a b,Gp [97,58,32,49] [] = ([a,b],true):=⟨_,_,by rfl⟩
theorem RB (w:World) (bs:List UInt8) (cells:Array Value) (t:TypeId) (fr:Nat × Nat) (hc:cells.toList = byteCells bs) (hm:bs.length≤maxLen):View (w.alloc (.cells cells t fr)) w.heap.size (.slice (some ⟨w.heap.size,0,none⟩) bs.length bs.length) bs:=
 ⟨_,_,rfl,Nat.le_refl _,hm,(fun h=>by cases h),0,(fun _=>rfl),fun j hj=>by
  rw [Go.Joins.cell_alloc_mark_at w cells t fr _ (0+j) rfl,←Array.getElem?_toList,hc]
  simp [byteCells,hj]⟩
set_option maxRecDepth 100000 in
set_option maxHeartbeats 4000000 in
theorem Lb (v vpk:Value) (bs:List UInt8) (ps:List Bool) (g:Nat) (w:World) (hv:View w g v bs) (hps:BView w w.heap.size vpk ps) (hgl:Glob w) (h9:9≤w.heap.size) :
  Calls Tryz.prog 5 #[v,vpk] w fun e w'=>e = .returned (.bool true)∧Below w.heap.size w w':=by
 have hb0:Below w.heap.size w w:=Below.refl _ _;have HV:=hid hv;have HG:=hid hgl;have HP:=hid hps
 obtain ⟨aoP,cP,rfl⟩:∃ ao c,vpk = .slice ao ps.length c:=by obtain ⟨ao,c,e,_⟩:=hps; exact ⟨ao,c,e⟩
 obtain ⟨aoB,cB,rfl⟩:=hv.slice;clear hv hgl hps
 by_cases h1:bs.length≤4000
 ·by_cases h2:ps.length≤2147483647
  ·have hlen:=Uy bs [];obtain ⟨ta,tb,hab⟩:=PK;have HT:Hid (∀ w',Below w.heap.size w w'→Calls Tryz.prog 7 #[.slice aoB bs.length cB] w' (UA w'.heap.size (Gp bs []).1 (Gp bs []).2 w')):=
    hid fun w' hb=>(C9 _ bs g w' (HV.out.below hb) (by omega) (HG.out.below hb) (by have:=hb.size; omega)).mono fun e w2 h=>h.told rfl
   have HK:Hid (∀ w',Below w.heap.size w w'→Calls Tryz.prog 8 #[.slice aoB bs.length cB,.slice aoP ps.length cP] w' (UA w'.heap.size (Gp bs []).1 (Gp bs []).2 w')):=
    hid fun w' hb=>(I2 _ _ bs ps g w' (HV.out.below hb) ((HP.out.below hb).mono hb.size) h2 (by omega) (HG.out.below hb) (by have:=hb.size; omega)).mono fun e w2 h=>h.told (I4 bs ps)
   have HF:Hid (∀ w',Below w.heap.size w w'→Calls Tryz.prog 7 #[.slice (some ⟨w'.heap.size,0,none⟩) 4 4] (w'.alloc (.cells #[.int .u8 97,.int .u8 58,.int .u8 32,.int .u8 49] 5 (4,5))) fun e w2=>(∃ ao c,e = .returned (.tuple #[.slice ao 2 c,.bool true]))∧Below w.heap.size w w2):=
    hid fun w' hb=>by
     have hbA:Below w.heap.size w (w'.alloc (.cells #[.int .u8 97,.int .u8 58,.int .u8 32,.int .u8 49] 5 (4,5))):=hb.alloc hb.size _;refine (C9 _ [97,58,32,49] w'.heap.size _ (RB w' [97,58,32,49] _ _ _ rfl (by simp [maxLen])) (by simp) (HG.out.below hbA) (Nat.le_trans h9 hbA.size)).mono fun e w2 h=>?_;obtain ⟨ao,c,h1,h2,h3⟩:=h.told hab;exact ⟨⟨ao,c,h1⟩,hbA.trans (h3.mono hbA.size)⟩
   have kc:=fun (w:World)=>Lib.run_convert_bytes_const (P:=Tryz.prog) w 22 5 #[.int .u8 97,.int .u8 58,.int .u8 32,.int .u8 49] 4 4 Tryz.underlying22 Tryz.underlying5;simp only [List.size_toArray,List.length_cons,List.length_nil] at kc;generalize (Gp bs []).1 = L at *;generalize (Gp bs []).2 = b at *
   have hlL:L.length≤5000:=by omega
   clear hlen hab
   go_enter Tryz.func5,Tryz.ntmps5
   go_wp2_with (first
    | (go_at_call 7; refine (Calls.mono (HT.out _ hb0) ?_); rintro e w1 ⟨ao1,c1,rfl,ho1,hb1⟩; have HO1:=hid ho1; have HB1:=hid hb1; clear ho1 hb1)
    | (go_at_call 8; refine (Calls.mono (HK.out _ HB1.out) ?_); rintro e w2 ⟨ao2,c2,rfl,ho2,hb2⟩; have HO2:=hid ho2; have HB2:=hid hb2; have HB3:=hid (Ad HB1.out hb2); clear ho2 hb2)
    | (go_at_call 9; refine (Sw _ _ L _ _ _ (HO1.out.below HB2.out) HO2.out (by omega)).mono ?_; rintro e w3 ⟨rfl,hb3⟩; have HB4:=hid (Ad HB3.out hb3); have HBB:=hid (Ad HB2.out hb3); have HBC:=hid hb3; clear hb3)
    | fail)
   obtain ⟨ao1',c1',he1,HC1⟩:=(HO1.out.below HBB.out).cells;obtain ⟨ao2',c2',he2,HC2⟩:=(HO2.out.below HBC.out).cells
   injection he1 with he1 _ he1'
   injection he2 with he2 _ he2'
   subst he1 he1' he2 he2';replace HC1:=hid HC1;replace HC2:=hid HC2
   go_loopw [43] (fun i wr=>∃ j:Nat,j≤L.length∧i = .int .i64 j∧Below w3.heap.size w3 wr) (fun i _=>L.length - (intOf i).toNat)
   case atStart=>exact ⟨0,Nat.zero_le _,rfl,Below.refl _ _⟩
   case round=>
    obtain ⟨j,hj,rfl,hbr⟩:=hrel
    by_cases hlt:j < L.length
    ·obtain ⟨g1,rfl,hg1,k1⟩:=HC1.out j hlt;obtain ⟨g2,rfl,hg2,k2⟩:=HC2.out j hlt;generalize L[j] = t at *;obtain ⟨k,a,p,s,r,x,ht,a0,a1,a2,a3,a4,a5⟩:=IH hbr hg1 k1;obtain ⟨k',a',p',s',r',x',ht',b0,b1,b2,b3,b4,b5⟩:=IH hbr hg2 k2;rw [ht] at ht'
     obtain ⟨rfl,rfl,rfl,rfl,rfl,rfl⟩:k = k'∧a = a'∧p = p'∧s = s'∧r = r'∧x = x':=by simpa using ht'
     clear k1 k2 ht ht';have HBR:=hid hbr;clear hbr
     go_upto_region 12 with fail
     go_quiet (fail)
     go_wp2_with fail
     go_roundw
     case rel=>exact ⟨j+1,by omega,by go_num,HBR.out.trans ⟨rfl,rfl,rfl,Nat.le_refl _,fun _ _=>rfl⟩⟩
     case measure=>simp [intOf]; omega
    ·have HBR:=hid (Ad HB4.out hbr);clear hbr
     go_wp2_with (first
      | (go_at_call 7; refine (Calls.mono (HF.out _ HBR.out) ?_); rintro e w5 ⟨⟨ao5,c5,rfl⟩,hb5⟩)
      | fail)
     go_ret
     exact ⟨rfl,hb5⟩
  ·go_enter Tryz.func5,Tryz.ntmps5
   go_wp2_with fail
   go_ret
   exact ⟨rfl,hb0⟩
 ·by_cases h3:bs.length≤2147483647 <;> by_cases h2:ps.length≤2147483647
  all_goals
   go_enter Tryz.func5,Tryz.ntmps5
   go_wp2_with fail
   go_ret
   exact ⟨rfl,hb0⟩
end Go.Proofs.YtgdnpnipahegaaaGreatDoor
