/-
 The package's reader of the text form, walked: what a token answers.
-/
import Derived.Test.YtgdnpnipahegaaaGreatDoorQ6
import Derived.Test.YtgdnpnipahegaaaGreatDoorQ21
import Derived.Lib.SlBuf
import Derived.Laws.MakeOwn
import Derived.StillTailTactics
import Derived.Test.YtgdnpnipahegaaaGreatDoorQ9
import Derived.Test.YtgdnpnipahegaaaGreatDoorTNumber
import Derived.Test.YtgdnpnipahegaaaGreatDoorTIdent
import Derived.Test.YtgdnpnipahegaaaGreatDoorQ4
namespace Go.Proofs.YtgdnpnipahegaaaGreatDoor
open Go.ChangeShapes Go.WideShapes Go.ChangeAt Go.RowKit
section
def Ans (v:Value) (w:World) (e:Ending) (w':World):Prop:=e = .returned v∧Below w.heap.size w w'
variable {g:Nat} {vr:Value} {t:TT} {w:World}
theorem D5 (w:World) (o:Obj):Below w.heap.size w (w.alloc o):=(Below.refl _ w).alloc (Nat.le_refl _) o
set_option maxRecDepth 100000 in
theorem Er (hv:View w g vr t.raw):Calls Tryz.prog 20 #[EO vr t] w (Ans (.int .u8 (t.kind:Int)) w):=by
 obtain ⟨ao,n,cp,rfl⟩:=View.slice3 hv;clear hv;obtain ⟨kd,at_,sp,na,pos,raw,str⟩:=t;unfold EO AA
 go_enter Tryz.func20,Tryz.ntmps20
 go_wp2
 go_ret
 exact ⟨rfl,D5 _ _⟩
set_option maxRecDepth 100000 in
theorem Jc (hv:View w g vr t.raw):Calls Tryz.prog 29 #[EO vr t] w (Ans (.int .i64 (t.pos:Int)) w):=by
 obtain ⟨ao,n,cp,rfl⟩:=View.slice3 hv;clear hv;obtain ⟨kd,at_,sp,na,pos,raw,str⟩:=t;unfold EO AA
 go_enter Tryz.func29,Tryz.ntmps29
 go_wp2
 go_ret
 exact ⟨rfl,D5 _ _⟩
set_option maxRecDepth 100000 in
theorem F7 (hv:View w g vr t.raw):Calls Tryz.prog 30 #[EO vr t] w (Ans (.string ⟨t.raw.toArray⟩) w):=by
 obtain ⟨ao,n,cp,rfl⟩:=View.slice3 hv;obtain ⟨kd,at_,sp,na,pos,raw,str⟩:=t;have HV:=hid (fun w' (hb:Below w.heap.size w w')=>hv.below hb);clear hv;unfold EO AA
 go_enter Tryz.func30,Tryz.ntmps30
 go_wp2_with (first | ((with_reducible refine Fk ?_); refine Bu _ (by rfl) _ 22 9 5 rfl Tryz.underlying22 Tryz.underlying5 Tryz.underlying9 _ _ _ rfl (HV.out _ (D5 _ _)) ?_) | fail)
 go_ret
 exact ⟨rfl,D5 _ _⟩
set_option maxRecDepth 100000 in
theorem H9 (hv:View w g vr t.raw) (hk:t.kind = 2) (ha:t.att = 1∨t.att = 2∨t.att = 3):Calls Tryz.prog 31 #[EO vr t] w (Ans (.int .u8 (t.att:Int)) w):=by
 obtain ⟨ao,n,cp,rfl⟩:=View.slice3 hv;clear hv;obtain ⟨kd,at_,sp,na,pos,raw,str⟩:=t;unfold EO AA IY;simp only at hk ha;subst hk
 rcases ha with rfl | rfl | rfl
 all_goals
  cases sp
  all_goals
   go_enter Tryz.func31,Tryz.ntmps31
   go_wp2
   go_ret
   exact ⟨rfl,D5 _ _⟩
set_option maxRecDepth 100000 in
theorem P9 (hv:View w g vr t.raw) (hk:t.kind = 2) (ha:t.att = 1∨t.att = 2∨t.att = 3):Calls Tryz.prog 32 #[EO vr t] w (Ans (.bool t.sep) w):=by
 obtain ⟨ao,n,cp,rfl⟩:=View.slice3 hv;clear hv;obtain ⟨kd,at_,sp,na,pos,raw,str⟩:=t;unfold EO AA IY;simp only at hk ha;subst hk
 rcases ha with rfl | rfl | rfl
 all_goals
  cases sp
  all_goals
   go_enter Tryz.func32,Tryz.ntmps32
   go_wp2
   go_ret
   exact ⟨rfl,D5 _ _⟩
set_option maxRecDepth 100000 in
theorem NN (hv:View w g vr t.raw) (hk:t.kind = 2) (ha:t.att = 1):Calls Tryz.prog 33 #[EO vr t] w (Ans (.string ⟨t.raw.toArray⟩) w):=by
 obtain ⟨ao,n,cp,rfl⟩:=View.slice3 hv;obtain ⟨kd,at_,sp,na,pos,raw,str⟩:=t;have HV:=hid (fun w' (hb:Below w.heap.size w w')=>hv.below hb);clear hv;unfold EO AA IY;simp only at hk ha;subst hk ha;cases sp
 all_goals
  go_enter Tryz.func33,Tryz.ntmps33
  go_wp2_with (first | ((with_reducible refine Fk ?_); refine Bu _ (by rfl) _ 22 9 5 rfl Tryz.underlying22 Tryz.underlying5 Tryz.underlying9 _ _ _ rfl (HV.out _ (D5 _ _)) ?_) | fail)
  go_ret
  exact ⟨rfl,D5 _ _⟩
set_option maxRecDepth 100000 in
theorem OP (hv:View w g vr t.raw) (hk:t.kind = 2) (ha:t.att = 2):Calls Tryz.prog 34 #[EO vr t] w (Ans (.string ⟨t.str.toArray⟩) w):=by
 obtain ⟨ao,n,cp,rfl⟩:=View.slice3 hv;clear hv;obtain ⟨kd,at_,sp,na,pos,raw,str⟩:=t;unfold EO AA IY;simp only at hk ha;subst hk ha;cases sp
 all_goals
  go_enter Tryz.func34,Tryz.ntmps34
  go_wp2
  go_ret
  exact ⟨rfl,D5 _ _⟩
end
section
section
variable {P:Program} {ops:Array Oper} {rest:List Oper} {o:Oper} {a:Act} {Q:Exit→Act→World→Prop}
theorem JE (w:World) (hgd:o.guard = none) (x:Operand) (t e:TypeId) (ho:o.op = .makeSlice t x x)
  (ht:P.underlying t = some (.slice e)) (hinfo:(P.info? e).map (fun i=>(i.zero,i.size,i.bytes)) = some (some (.int .u8 0),1,1))
  (n:Nat) (hx:a.eval x = .int .i64 (n:Int)) (hn:n≤100000000)
  (h:∀ w',Lib.Buf w w' w.heap.size n []→wpList P ops Q rest (a.put o.dst (.slice (some ⟨w.heap.size,0,none⟩) n n)) w'):wpList P ops Q (o::rest) a w:=by
 obtain ⟨i,hi,hz,hz1,hz2⟩:=info_parts hinfo;refine wpList_plain hgd fun K hK=>?_;have hr:=run_make (P:=P) w t e i (.int .u8 0) ht hi hz .i64 .i64 (n:Int) (n:Int) (by omega) (Int.le_refl _) (by rw [hz2]; omega) (by omega);simp only [Int.toNat_natCast,hz1,Nat.mul_one] at hr;have hs:(madeCells (Value.int .u8 0).cells n).size = n:=size_madeCells _ _;generalize madeCells (Value.int .u8 0).cells n = cs at hr hs;unfold Oper.wp;simp [execOp,ho,hx,hr,Result.andThen];refine hK _ _ (h _ ?_);have:=Lib.Buf.start w cs e n 0 (by omega);exact this
end
section
variable {P:Program}
theorem RD {w:World} {g:Nat} {v:Value} {bs:List UInt8} (hv:View w g v bs) (t e:TypeId) (ht:P.underlying t = some (.slice e)) (hinfo:(P.info? e).map (fun i=>(i.zero,i.size,i.bytes)) = some (some (.int .u8 0),1,1))
  (k k':IntKind) (l m:Int) (n j:Nat) (hl:l = (n:Int)) (hj:m = (j:Int)) (hn:n≤j) (hm:j≤bs.length):∃ v',(∀ W,(Instr.slice t v (some (.int k l)) (some (.int k' m)) none).run P W = .ok v' W)∧View w g v' ((bs.drop n).take (j - n)):=by
 subst hl hj;obtain ⟨ao,cap,rfl,h3,h4,hn0,off,h5,h6⟩:=hv;obtain ⟨inf,hi1,hz,hz1,hz2⟩:=info_parts hinfo
 have hlen:((bs.drop n).take (j - n)).length = j - n:=by simp; omega
 refine ⟨sliced ao n j cap 1,fun W=>?_,?_⟩
 ·have hs:P.underlying t = some (.slice (P.elem t)):=by simp [Program.elem,ht]
  have he:P.elem t = e:=by simp [Program.elem,ht]
  have hsz:(sizeOf (P.elem t)).run P W = .ok 1 W:=by simp [sizeOf,typeInfo,he,hi1,hz1]
  rw [run_slice_lh W t ao bs.length cap hs k k' (n:Int) (j:Int) (by omega) (by omega) (by omega),hsz];simp [Result.andThen]
 ·refine ⟨_,_,by rw [hlen]; try rfl,by omega,by omega,by intro he; cases ao with
   | none=>have:=hn0 rfl; omega
   | some ad=>split at he <;> simp at he,off+n,?_,?_⟩
  ·intro hne
   have:j - n≠0:=by intro e; apply hne; exact List.eq_nil_of_length_eq_zero (by omega)
   have hbs:bs≠[]:=by intro e; subst e; simp at hm; omega
   rw [if_neg (by omega),h5 hbs];simp [Addr.add_lit]
  ·intro i hi;rw [hlen] at hi
   have e1:off+n+i = off+(n+i):=by omega
   rw [e1,h6 (n+i) (by omega)];simp
end
theorem part_eq (l:List UInt8) (Z sp:Nat):(l.take Z).drop (sp+1) = (l.drop (sp+1)).take (Z - (sp+1)):=by rw [List.drop_take]
theorem QC {w:World} {g:Nat} {v:Value} {l:List UInt8} (h:View w g v l):Lib.HoldsBytes w v l:=by
 obtain ⟨ao,cap,rfl,h1,h2,h3,off,h4,h5⟩:=h;refine ⟨ao,cap,rfl,fun e=>?_,fun a ha i x hx=>?_⟩
 ·by_cases hl:l = []
  ·exact hl
  ·rw [h4 hl] at e; cases e
 ·have hi:i < l.length:=(List.getElem?_eq_some_iff.1 hx).1
  have hne:l≠[]:=by intro e; rw [e] at hi; simp at hi
  rw [h4 hne] at ha
  injection ha with ha
  subst ha;rw [Addr.add_lit,h5 i hi];rw [List.getElem?_eq_getElem hi] at hx
  injection hx with hx
  rw [hx]
theorem Uv {w0 w:World} {h N:Nat} {acc:List UInt8} (hb:Lib.Buf w0 w h N acc) (hN:acc.length = N) (hm:N≤100000000):View w h (.slice (some ⟨h,0,none⟩) N N) acc:=by
 subst hN;refine ⟨_,_,rfl,Nat.le_refl _,by unfold maxLen; omega,(fun e=>by cases e),0,fun _=>rfl,fun j hj=>?_⟩;rw [Nat.zero_add];exact hb.holds j _ (List.getElem?_eq_getElem hj)
theorem Uw {w0 w:World} {h N:Nat} (hb:Lib.Buf w0 w h N []) (hN:0 < N) (c:UInt8):Lib.Buf w0 (w.setCell ⟨h,0,none⟩ (.int .u8 (c.toNat:Int))) h N [c] where
 below:=hb.below.setCell (p:=⟨h,0,none⟩) (Nat.le_refl _) _
 there:=fun j hj=>by
  by_cases h0:j = 0
  ·subst h0;obtain ⟨u,hu⟩:=Option.isSome_iff_exists.1 (hb.there 0 hN);rw [World.cell?_setCell_same w _ _ hu]
   try rfl
  ·rw [World.cell?_setCell_other w _ _ _ (by intro e; injection e with _ e; exact h0 e.symm)];exact hb.there j hj
 free:=fun j hj=>by rw [World.frozen?_setCell]; exact hb.free j hj
 holds:=fun j x hx=>by
  cases j with
  | zero=>
   obtain ⟨u,hu⟩:=Option.isSome_iff_exists.1 (hb.there 0 hN);rw [World.cell?_setCell_same w _ _ hu];simp at hx;rw [hx]
  | succ j=>simp at hx
 fits:=by simp; omega
set_option maxRecDepth 100000 in
set_option maxHeartbeats 10000000 in
theorem DD (x:NT) (l:List UInt8) (v:Value) (g:Nat) (w:World) (hv:View w g v l) (hx:EP l = some x) (hm:l.length≤90000000) :
  Calls Tryz.prog 54 #[numV (some x),v] w (Ans (.string ⟨(Fp x l).toArray⟩) w):=by
 obtain ⟨h1,h2,h3,h4⟩:=E9 hx;obtain ⟨kd,neg,sz,sp⟩:=x;simp only at h1 h2 h3 h4;clear hx
 have hzl:((sz:Int) - 1).toNat < l.length:=by omega
 have hgd:l.getD (sz - 1) 0 = l[((sz:Int) - 1).toNat]:=by
  rw [List.getD_eq_getElem?_getD,List.getElem?_eq_getElem (by omega)];simp only [Option.getD_some]
  congr 1
  omega
 obtain ⟨fB,hfB⟩:∃ fB:Bool,fB = (kd == 4 && isF (l[((sz:Int) - 1).toNat])):=⟨_,rfl⟩
 obtain ⟨Z,hZ⟩:∃ Z,Z = if fB then sz - 1 else sz:=⟨_,rfl⟩
 have HS:Hid (Fp ⟨kd,neg,sz,sp⟩ l = if neg = true∧0 < sp then l.getD 0 0::((l.take Z).drop (sp+1)) else l.take Z):=hid (by
  unfold Fp;simp only;rw [hgd]
  have:(if kd = 4∧isF (l[((sz:Int) - 1).toNat]) = true then sz - 1 else sz) = Z:=by
   rw [hZ,hfB]
   by_cases hk:kd = 4
   ·simp [hk]
   ·simp [hk]
  rw [this])
 generalize Fp ⟨kd,neg,sz,sp⟩ l = S at *;unfold numV;simp only;obtain ⟨w1,hw1⟩:∃ w1,w1 = w.alloc (.cells #[.int .u8 (kd:Int),.bool neg,.int .i64 (sz:Int),.int .i64 (sp:Int)] 80):=⟨_,rfl⟩
 have hb1:Below w.heap.size w w1:=by rw [hw1]; exact (Below.refl _ w).alloc (Nat.le_refl _) _
 have hr:RowAt w1 w.heap.size [.int .u8 (kd:Int),.bool neg,.int .i64 (sz:Int),.int .i64 (sp:Int)]:=by rw [hw1]; exact BW (heap_alloc_new w _)
 have hlt1:w.heap.size < w1.heap.size:=by rw [hw1,BV]; omega
 have HW:=hid hw1;have HB1:=hid hb1;have hv1:=hv.below hb1;have HV1:=hid hv1;obtain ⟨a0,_⟩:=hr 0 _ rfl;obtain ⟨a1,_⟩:=hr 1 _ rfl;obtain ⟨a2,_⟩:=hr 2 _ rfl;obtain ⟨a3,_⟩:=hr 3 _ rfl;have R0:=hid hr;obtain ⟨ao,cp,rfl⟩:=hv1.slice;have hcp:=hv1.cap;clear hw1 hb1 hv hv1 hr hgd;have HFB:=hid hfB;have HZ:=hid hZ
 have hsz2:sz≤90000000:=by omega
 have bcz:=AM l[((sz:Int) - 1).toNat];clear hfB hZ
 go_enter Tryz.func54,Tryz.ntmps54
 go_upto_region 1 with fail
 rw [←HW.out];clear HW
 go_upto_region 3 with fail
 go_cut [30] (fun t wx=>t = .bool fB∧w1 = wx)
 case first=>
  as_aux_lemma=>
  by_cases hk:kd = 4
  ·have e1:((kd:Int) == 4) = true:=by simp; omega
   have HF:Hid (fB = isF (l[((sz:Int) - 1).toNat])):=hid (by rw [HFB.out,hk]; try rfl);clear hk;generalize hc:l[((sz:Int) - 1).toNat] = c at *
   by_cases h102:c.toNat = 102
   ·have e2:((c.toNat:Int) == 102) = true:=by simp; omega
    have HF2:Hid (fB = true):=hid (by rw [HF.out]; unfold isF; rw [h102]; try rfl);clear h102
    go_wp2_with (first | ((with_reducible refine A0 ?_); refine Ai _ (by rfl) _ _ 22 5 rfl Tryz.underlying22 Ag _ _ _ rfl HV1.out _ ((sz:Int) - 1) rfl (by omega) hzl ?_; intro ad1 hc1; rw [hc] at hc1) | fail)
    go_meet
    exact ⟨by rw [HF2.out],rfl⟩
   ·have e2:((c.toNat:Int) == 102) = false:=by simp; omega
    by_cases h70:c.toNat = 70
    ·have e3:((c.toNat:Int) == 70) = true:=by simp; omega
     have HF2:Hid (fB = true):=hid (by rw [HF.out]; unfold isF; rw [h70]; try rfl);clear h70 h102
     go_wp2_with (first | ((with_reducible refine A0 ?_); refine Ai _ (by rfl) _ _ 22 5 rfl Tryz.underlying22 Ag _ _ _ rfl HV1.out _ ((sz:Int) - 1) rfl (by omega) hzl ?_; intro ad1 hc1; rw [hc] at hc1) | fail)
     go_meet
     exact ⟨by rw [HF2.out],rfl⟩
    ·have e3:((c.toNat:Int) == 70) = false:=by simp; omega
     have HF2:Hid (fB = false):=hid (by rw [HF.out]; unfold isF; simp [h70,h102]);clear h70 h102
     go_wp2_with (first | ((with_reducible refine A0 ?_); refine Ai _ (by rfl) _ _ 22 5 rfl Tryz.underlying22 Ag _ _ _ rfl HV1.out _ ((sz:Int) - 1) rfl (by omega) hzl ?_; intro ad1 hc1; rw [hc] at hc1) | fail)
     go_meet
     exact ⟨by rw [HF2.out],rfl⟩
  ·have e1:((kd:Int) == 4) = false:=by simp; omega
   have HF2:Hid (fB = false):=hid (by rw [HFB.out]; simp [hk]);clear hk
   go_wp2_with fail
   go_meet
   exact ⟨by rw [HF2.out],rfl⟩
  --END
 case rest=>
  obtain ⟨rfl,rfl⟩:=hcut
  go_upto_if 30 with fail
  go_cut [5] (fun z wx=>z = .int .i64 (Z:Int)∧w1 = wx)
  case first=>
   as_aux_lemma=>
   cases fB with
   | true=>
    have HZ2:Hid ((sz:Int) - 1 = (Z:Int)):=hid (by have:=HZ.out; simp at this; omega)
    go_wp2_with fail
    go_meet
    exact ⟨by rw [HZ2.out],rfl⟩
   | false=>
    have HZ2:Hid ((sz:Int) = (Z:Int)):=hid (by have:=HZ.out; simp at this; omega)
    go_wp2_with fail
    go_meet
    exact ⟨by rw [HZ2.out],rfl⟩
   --END
  case rest=>
   obtain ⟨rfl,rfl⟩:=hcut
   have hZs:Z≤sz∧sz≤Z+1:=by have:=HZ.out; split at this <;> omega
   clear HZ HFB bcz hzl
   by_cases hns:neg = true∧0 < sp
   ·obtain ⟨rfl,hsp⟩:=hns;have HF:Hid (S = l.getD 0 0::((l.take Z).drop (sp+1))):=hid (by rw [HS.out,if_pos ⟨rfl,hsp⟩]);have h3':=h3 rfl
    have hspI:(0:Int) < (sp:Int):=by omega
    obtain ⟨N,hN⟩:∃ N,N = Z - sp:=⟨_,rfl⟩
    have hNI:(Z:Int) - (sp:Int) = (N:Int):=by omega
    have hN0:0 < N:=by omega
    have hNm:N≤90000000:=by omega
    obtain ⟨c0,l0,hl⟩:∃ c0 l0,l = c0::l0:=by
     cases l with
     | nil=>simp at h2; omega
     | cons a b=>exact ⟨a,b,rfl⟩
    have h00:(0:Int).toNat < l.length:=by simp; omega
    have hg0:l[(0:Int).toNat]'h00 = c0:=by subst hl; rfl
    have bc0:=AM c0;have HL:=hid hl;have HN:=hid hN;clear h3 hl hN h4
    go_upto_region 7 with fail
    try rw [hNI]
    go_upto_region 9 with (first
     | (refine JE _ (by rfl) _ 22 5 (by rfl) Tryz.underlying22 Ag N rfl (by omega) ?_; intro w2 hbuf; obtain ⟨u0,hu0⟩:=Option.isSome_iff_exists.1 (hbuf.there 0 hN0); have f0:=hbuf.free 0 hN0; have HBUF:=hid hbuf; have HV2:=hid (HV1.out.below hbuf.below); have HA3:=hid (show w2.cell? ⟨w.heap.size,3,none⟩ = some (.int .i64 (sp:Int)) from (hbuf.below.cell (p:=⟨w.heap.size,3,none⟩) hlt1).trans a3); clear hbuf)
     | ((with_reducible refine A0 ?_); refine Ai _ (by rfl) _ _ 22 5 rfl Tryz.underlying22 Ag _ _ _ rfl HV2.out _ 0 rfl (by omega) h00 ?_; intro ad1 hc1; rw [hg0] at hc1)
     | fail)
    obtain ⟨wS,hwS⟩:∃ wS,wS = w2.setCell ⟨w1.heap.size,0,none⟩ (.int .u8 (c0.toNat:Int)):=⟨_,rfl⟩
    have HBS:Hid (Lib.Buf w1 wS w1.heap.size N [c0]):=hid (by
     rw [hwS]
     exact Uw HBUF.out hN0 c0)
    have aS3:wS.cell? ⟨w.heap.size,3,none⟩ = some (.int .i64 (sp:Int)):=(HBS.out.below.cell (p:=⟨w.heap.size,3,none⟩) hlt1).trans a3;rw [←hwS];obtain ⟨w3,hw3⟩:∃ w3,w3 = wS.drew:=⟨_,rfl⟩
    have HB3:Hid (Lib.Buf w1 w3 w1.heap.size N [c0]):=hid (by
     have h:=HBS.out;rw [hw3]
     exact ⟨h.below.drew,h.there,h.free,h.holds,h.fits⟩)
    have hgl:=HV1.out.lt (by intro e; rw [e] at h00; simp at h00);have HG1:=hid hgl;clear hgl;have HV3:=hid (HV1.out.kept (HB3.out.below.block g HG1.out))
    have h1Z:(sp:Int)+1≤(Z:Int):=by have:=HN.out; omega
    have hZl:(Z:Int)≤(l.length:Int):=by omega
    obtain ⟨v2,hs2,hv2⟩:=RD (P:=Tryz.prog) HV3.out 22 5 Tryz.underlying22 Ag .i64 .i64 ((sp:Int)+1) (Z:Int) (sp+1) Z (by simp) rfl (by omega) (by omega);obtain ⟨v1,hv1⟩:∃ v1,v1 = Lib.tailV w1.heap.size N 1:=⟨_,rfl⟩;have hs1:=fun W:World=>Lib.run_slice_tailV (P:=Tryz.prog) W 22 5 Tryz.underlying22 (fun w=>by kernel_rfl) w1.heap.size N 1 (by omega);rw [←hv1] at hs1
    change ∀ W:World,(Instr.slice 22 (.slice (some ⟨w1.heap.size,0,none⟩) N N) (some (.int .i64 (1:Int))) none none).run Tryz.prog W = .ok v1 W at hs1
    obtain ⟨w4,hr4,hb4⟩:=Lib.copy_part (P:=Tryz.prog) w1 w3 w1.heap.size N [c0] _ v2 22 3 5 Tryz.underlying22 (by kernel_rfl) (Nat.le_refl _) HB3.out (QC (hv2.kept (HB3.out.below.block g HG1.out).symm)) (by simp; have:=HN.out; omega);simp only [List.length_cons,List.length_nil,Nat.zero_add] at hr4;rw [←hv1] at hr4;have HR4:=hid hr4;have HV4:=hid (Uv hb4 (by simp; have:=HN.out; omega) (by omega));have HB4:=hid hb4.below;have HF2:Hid (S = [c0]++((l.drop (sp+1)).take (Z - (sp+1)))):=hid (by rw [HF.out,part_eq,HL.out]; try rfl);clear hv1 hr4 hb4 hv2 hwS a0 a1 a2 a3 HA3 HV2 hu0 f0 hc1;have hwr:IntKind.i64.wrap ((sp:Int)+1) = (sp:Int)+1:=IntWalk.i64_in _ (by omega)
    go_still_tail 8,(by kernel_rfl)
    change wpList _ _ _ _ _ wS.drew
    rw [←hw3];clear hw3 hs1 hs2 aS3;refine Lib.wpList_copy_run _ rfl _ _ 22 22 rfl v1 v2 rfl rfl HR4.out ?_
    go_wp2_with (first
     | ((with_reducible refine Fk ?_); refine Bu _ (by rfl) _ 22 9 5 rfl Tryz.underlying22 Tryz.underlying5 Tryz.underlying9 _ _ _ rfl HV4.out ?_)
     | fail)
    go_ret
    exact ⟨by rw [HF2.out]; try rfl,HB1.out.trans (HB4.out.mono (by omega))⟩
   ·have HF:Hid (S = l.take Z):=hid (by rw [HS.out,if_neg hns])
    have hZl:(Z:Int)≤(l.length:Int):=by omega
    cases neg with
    | false=>
     clear hns
     go_wp2_with (first | ((with_reducible refine Rj ?_); refine Fx _ (by rfl) _ _ 22 5 rfl Tryz.underlying22 Ag _ _ _ rfl HV1.out _ (Z:Int) rfl (by omega) hZl ?_; intro vs2 hvs2; simp only [Int.toNat_natCast] at hvs2) | ((with_reducible refine Fk ?_); refine Bu _ (by rfl) _ 22 9 5 rfl Tryz.underlying22 Tryz.underlying5 Tryz.underlying9 _ _ _ rfl hvs2 ?_) | fail)
     go_ret
     exact ⟨by rw [HF.out]; try rfl,HB1.out⟩
    | true=>
     have hsp:¬ (0:Int) < (sp:Int):=by have:¬ 0 < sp:=fun h=>hns ⟨rfl,h⟩; omega
     clear hns
     go_wp2_with (first | ((with_reducible refine Rj ?_); refine Fx _ (by rfl) _ _ 22 5 rfl Tryz.underlying22 Ag _ _ _ rfl HV1.out _ (Z:Int) rfl (by omega) hZl ?_; intro vs2 hvs2; simp only [Int.toNat_natCast] at hvs2) | ((with_reducible refine Fk ?_); refine Bu _ (by rfl) _ 22 9 5 rfl Tryz.underlying22 Tryz.underlying5 Tryz.underlying9 _ _ _ rfl hvs2 ?_) | fail)
     go_ret
     exact ⟨by rw [HF.out]; try rfl,HB1.out⟩
end
section
def I5 (bs:List UInt8) (k:Nat):Option (TT × Nat):=match EP (bs.drop k) with
 | none=>none
 | some x=>some (⟨3,1,false,x.kind+(if x.neg then 128 else 0),k,(bs.drop k).take x.size,Fp x (bs.drop k)⟩,goT bs k x.size)
theorem Nd {l:List UInt8} {k n:Nat} (h:Cs l = some (k,n)):k = 0∨k = 1∨k = 2∨k = 4:=by
 have hR:∀ (K n:Nat) (S:List UInt8) (k m:Nat),(K = 0∨K = 4)→BX K n S = some (k,m)→k = 0∨k = 4:=by
  intro K n S k m hK h;unfold BX at h
  rcases hf:Ev K S with _ | ⟨k1,n1⟩
  ·rw [hf] at h; cases h
  ·rw [hf] at h;simp only at h
   have hk1:k1 = 0∨k1 = 4:=by
    rcases S with _ | ⟨c,r⟩
    ·injection hf with hf; injection hf with h1 h2; omega
    ·rw [DS] at hf
     split at hf
     ·split at hf
      ·cases hf
      ·injection hf with hf; injection hf with h1 h2; omega
     ·injection hf with hf; injection hf with h1 h2; omega
   rcases he:He k1 (S.drop n1) with _ | ⟨k2,n2⟩
   ·rw [he] at h; cases h
   ·rw [he] at h;simp only at h
    have hk2:k2 = 0∨k2 = 4:=by
     rcases hS:S.drop n1 with _ | ⟨c,_ | ⟨d,r⟩⟩
     ·rw [hS] at he; injection he with he; injection he with h1 h2; omega
     ·rw [hS] at he; injection he with he; injection he with h1 h2; omega
     ·rw [hS,Fs] at he
      split at he
      ·split at he
       ·split at he
        ·cases he
        ·injection he with he; injection he with h1 h2; omega
       ·injection he with he; injection he with h1 h2; omega
      ·injection he with he; injection he with h1 h2; omega
    have hk3:(Fq k2 (S.drop (n1+n2))).1 = 0∨(Fq k2 (S.drop (n1+n2))).1 = 4:=by
     rcases hS:S.drop (n1+n2) with _ | ⟨c,r⟩
     ·exact hk2
     ·rw [FV]
      split
      ·exact .inr rfl
      ·exact hk2
    split at h
    ·injection h with h; injection h with h1 h2; omega
    ·cases h
 rcases l with _ | ⟨c,r⟩
 ·cases h
 ·rw [CP] at h
  split at h
  ·rcases r with _ | ⟨d,r2⟩
   ·have:=hR 0 1 [] k n (.inl rfl) h; omega
   ·simp only at h
    split at h
    ·unfold Iw at h
     split at h
     ·cases h
     ·split at h
      ·injection h with h; injection h with h1 h2; omega
      ·cases h
    ·split at h
     ·unfold Jo at h
      split at h
      ·injection h with h; injection h with h1 h2; omega
      ·cases h
     ·have:=hR 0 1 (d::r2) k n (.inl rfl) h; omega
  ·split at h
   ·have:=hR 0 _ _ k n (.inl rfl) h; omega
   ·split at h
    ·have:=hR 4 _ _ k n (.inr rfl) h; omega
    ·cases h
theorem Nc {l:List UInt8} {x:NT} (h:EP l = some x):x.kind = 0∨x.kind = 1∨x.kind = 2∨x.kind = 4:=by
 rcases l with _ | ⟨c,r⟩
 ·cases h
 ·rw [DC] at h
  split at h
  ·rcases hb:Cs (r.drop (skT false r)) with _ | ⟨k,n⟩
   ·rw [hb] at h; cases h
   ·rw [hb] at h
    injection h with h
    subst h;exact Nd hb
  ·rcases hb:Cs (c::r) with _ | ⟨k,n⟩
   ·rw [hb] at h; cases h
   ·rw [hb] at h
    injection h with h
    subst h;exact Nd hb
theorem or_kind {k:Nat} (h:k = 0∨k = 1∨k = 2∨k = 4):bits .or .u8 (k:Int) 128 = ((k+128:Nat):Int):=by
 rcases h with rfl | rfl | rfl | rfl <;> kernel_rfl
theorem Kr:Av Tryz.prog 53:=⟨_,Tryz.func53,by kernel_rfl,by kernel_rfl⟩
theorem FQ:Av Tryz.prog 54:=⟨_,Tryz.func54,by kernel_rfl,by kernel_rfl⟩
variable {B p g:Nat} {bs:List UInt8} {vr ve vst vo vi:Value} {s:DT} {w:World}
set_option maxRecDepth 100000 in
set_option maxHeartbeats 100000000 in
theorem Ia (h:DW B p g bs vr ve vst vo vi s w) (hm:bs.length≤90000000) :
  Calls Tryz.prog 59 #[.pointer (some ⟨p,0,none⟩)] w (Rt B p g bs vr ve vst vo vi s w (I5 bs s.k)):=by
 suffices key:∀ Z,Hid (I5 bs s.k = Z)→Calls Tryz.prog 59 #[.pointer (some ⟨p,0,none⟩)] w (Rt B p g bs vr ve vst vo vi s w Z) from key _ (hid rfl)
 intro Z HZ;have hlp:=h.lt;have hgl:=h.gl;have hgp:g≠p:=h.gp;have HO:=hid h.ownLt
 have h9:9≤w.heap.size:=by have:=h.base; have:=h.b9; omega
 have hle:=h.le;have hlk:(bs.drop s.k).length = bs.length - s.k:=List.length_drop;have hg0:w.grownBy w (some p):=Bx (Below.refl _ _) _;refine enter1 (M:=55) Tryz.func59 rfl rfl rfl fun a H=>zr fun j1=>?_;obtain ⟨q2,hq2⟩:∃ q,q = w.heap.size:=⟨_,rfl⟩;refine Az Bj H rfl fun w2 hr2 hb2 hs2 a H=>?_;rw [←hq2] at H hr2;have hz3:=hb2.size;have hd4:=DW.below h hb2;have hg5:=Aa hg0 (Below.mono hb2 (by omega));refine za H rfl fun H=>zN (j1 ?_);refine zr fun j6=>zm H rfl fun H=>zc H rfl fun H=>zg Be H rfl fun H=>Ah AH H rfl (DW.c10 hd4).1 rfl fun a H=>za H rfl fun H=>zN (j6 ?_);refine zs fun j7=>?_;have Hs8:=H
 rcases hN:EP (bs.drop s.k) with _ | ⟨kd,neg,sz,sp⟩
 ·have H:=Hs8;refine Ac (zm H rfl fun H=>zC Kr H rfl (Calls.mono (CO _ _ g w2 (DW.inn hd4) (by rw [hlk]; omega)) ?_));rintro e w9 ⟨rfl,hb9⟩;refine zR fun H=>?_;have hz10:=hb9.size;have hr11:=RowAt.bl hr2 hb9;have hd12:=DW.below hd4 hb9;have hg13:=Aa hg5 (Below.mono hb9 (by omega));rw [hN] at H;obtain ⟨q14,hq14⟩:∃ q,q = w9.heap.size:=⟨_,rfl⟩;refine Az Ey H rfl fun w14 hr14 hb14 hs14 a H=>?_;rw [←hq14] at H hr14;have hz15:=hb14.size;have hr16:=RowAt.bl hr11 hb14;have hd17:=DW.below hd12 hb14;have hg18:=Aa hg13 (Below.mono hb14 (by omega));refine AJ (vs:=[.int .u8 (0:Int),.bool false,.int .i64 (0:Int),.int .i64 (0:Int)]) H rfl rfl hr14 rfl (FU _ _ _ _) (by simp [Value.oneCell']) fun w19 hr19 hg19=>?_;have hz20:=hg19.size;have hB20:=Ae (N:=w.heap.size) hg19 (by omega) (by omega);have hr21:=RowAt.gr hr16 hg19;have hd22:=DW.belowAt hd17 w.heap.size hlp hgl HO.out hB20;have hg23:=Aa hg18 hB20;refine zN (j7 ?_);refine zK H [0,2,3,5] rfl fun H=>zs fun j24=>zr fun j25=>zg Fh H rfl fun H=>Ah Ca H rfl (hr19 2 _ rfl).1 rfl fun a H=>zet H rfl rfl fun H=>zN (j25 ?_);refine zi H rfl (zr fun j26=>zB Ao H rfl fun H=>zT H rfl rfl hr21 fun {w27} hr27 hg27=>?_);have hz28:=hg27.size;have hB28:=Ae (N:=w.heap.size) hg27 (by omega) (by omega);have hd30:=DW.belowAt hd22 w.heap.size hlp hgl HO.out hB28;have hg31:=Aa hg23 hB28;refine za H rfl fun H=>zN (j26 ?_);refine wp_ret (tr (?_));refine AR H rfl rfl hr27 ?_;rw [show Z = none from by rw [←HZ.out]; unfold I5; rw [hN]];exact ⟨rfl,hd30,hg31⟩
 ·have H:=Hs8;have hnz:=E9 hN;have hkd:=Nc hN;simp only at hnz hkd;have hnz1:=hnz.1;have hnz2:=hnz.2.1;rw [hlk] at hnz2;have Hs32:=H
  cases neg with
  | true=>
   have H:=Hs32;refine Ac (zm H rfl fun H=>zC Kr H rfl (Calls.mono (CO _ _ g w2 (DW.inn hd4) (by rw [hlk]; omega)) ?_));rintro e w33 ⟨rfl,hb33⟩;refine zR fun H=>?_;have hz34:=hb33.size;have hr35:=RowAt.bl hr2 hb33;have hd36:=DW.below hd4 hb33;have hg37:=Aa hg5 (Below.mono hb33 (by omega));rw [hN] at H;obtain ⟨q38,hq38⟩:∃ q,q = w33.heap.size:=⟨_,rfl⟩;refine Az Ey H rfl fun w38 hr38 hb38 hs38 a H=>?_;rw [←hq38] at H hr38;have hz39:=hb38.size;have hr40:=RowAt.bl hr35 hb38;have hd41:=DW.below hd36 hb38;have hg42:=Aa hg37 (Below.mono hb38 (by omega));refine AJ (vs:=[.int .u8 ((kd:Nat):Int),.bool true,.int .i64 ((sz:Nat):Int),.int .i64 ((sp:Nat):Int)]) H rfl rfl hr38 rfl (FU _ _ _ _) (by simp [Value.oneCell']) fun w43 hr43 hg43=>?_;have hz44:=hg43.size;have hB44:=Ae (N:=w.heap.size) hg43 (by omega) (by omega);have hr45:=RowAt.gr hr40 hg43;have hd46:=DW.belowAt hd41 w.heap.size hlp hgl HO.out hB44;have hg47:=Aa hg42 hB44;refine zN (j7 ?_);refine zK H [0,2,3,5] rfl fun H=>zs fun j48=>zr fun j49=>zg Fh H rfl fun H=>Ah Ca H rfl (hr43 2 _ rfl).1 rfl fun a H=>zef H rfl rfl fun H=>zN (j49 ?_);refine zj H rfl (wp_skip (tn (j48 ?_)));refine zr fun j50=>zg Oo H rfl fun H=>Ah A5 H rfl (hr43 0 _ rfl).1 rfl fun a H=>za H rfl fun H=>zN (j50 ?_);refine zK H [0,2,3,5,6] rfl fun H=>zs fun j51=>zr fun j52=>zg Mw H rfl fun H=>Ah Hx H rfl (hr43 1 _ rfl).1 rfl fun a H=>zN (j52 ?_);refine zi H rfl (Ac (zm H rfl fun H=>y_or (r:=((kd+128:Nat):Int)) H rfl rfl (or_kind hkd) rfl fun a H=>za H rfl fun H=>zN (j51 ?_)));refine zs fun j53=>AE (fun w'=>w'.cell? ⟨p,9,none⟩ = some vo∧w'.cell? ⟨p,10,none⟩ = some vi∧RowAt w' q38 [.int .u8 ((kd:Nat):Int),.bool true,.int .i64 ((sz:Nat):Int),.int .i64 ((sp:Nat):Int)]) 28 AO rfl ?_;have hbd54:Below w43.heap.size w43 w43.drew:=(Below.refl _ _).drew;generalize w43.drew = wd54 at hbd54 ⊢;have hz55:=hbd54.size;have hr56:=RowAt.bl hr45 hbd54;have hr57:=RowAt.bl hr43 hbd54;have hd58:=DW.below hd46 hbd54;have hg59:=Aa hg47 (Below.mono hbd54 (by omega));refine zd 0 H rfl (Al H rfl) ⟨(DW.c9 hd58).1,(DW.c10 hd58).1,hr57⟩ fun H=>zd 1 H rfl (Ak H rfl) ⟨(DW.c9 hd58).1,(DW.c10 hd58).1,hr57⟩ fun H=>zd 2 H rfl (Ap EJ H rfl) ⟨(DW.c9 hd58).1,(DW.c10 hd58).1,hr57⟩ fun H=>zd 3 H rfl (Au AH H rfl (fun _ h=>h.1)) ⟨(DW.c9 hd58).1,(DW.c10 hd58).1,hr57⟩ fun H=>zd 4 H rfl (Gd Tryz.underlying22 H rfl (DW.orig hd58)) ⟨(DW.c9 hd58).1,(DW.c10 hd58).1,hr57⟩ fun H=>zd 5 H rfl (Al H rfl) ⟨(DW.c9 hd58).1,(DW.c10 hd58).1,hr57⟩ fun H=>zd 6 H rfl (Ak H rfl) ⟨(DW.c9 hd58).1,(DW.c10 hd58).1,hr57⟩ fun H=>zd 7 H rfl (Ap Be H rfl) ⟨(DW.c9 hd58).1,(DW.c10 hd58).1,hr57⟩ fun H=>zd 8 H rfl (Au AH H rfl (fun _ h=>h.2.1)) ⟨(DW.c9 hd58).1,(DW.c10 hd58).1,hr57⟩ fun H=>zd 9 H rfl (Gd Tryz.underlying22 H rfl (DW.inn hd58)) ⟨(DW.c9 hd58).1,(DW.c10 hd58).1,hr57⟩ fun H=>zd 10 H rfl (Ht (r:=((s.k:Nat):Int)) H rfl rfl (by omega) (by omega) (by omega)) ⟨(DW.c9 hd58).1,(DW.c10 hd58).1,hr57⟩ fun H=>zd 11 H rfl (Al H rfl) ⟨(DW.c9 hd58).1,(DW.c10 hd58).1,hr57⟩ fun H=>zd 12 H rfl (Ak H rfl) ⟨(DW.c9 hd58).1,(DW.c10 hd58).1,hr57⟩ fun H=>zd 13 H rfl (Ap Be H rfl) ⟨(DW.c9 hd58).1,(DW.c10 hd58).1,hr57⟩ fun H=>?_;refine zd 14 H rfl (Au AH H rfl (fun _ h=>h.2.1)) ⟨(DW.c9 hd58).1,(DW.c10 hd58).1,hr57⟩ fun H=>zd 15 H rfl (Ap Fh H rfl) ⟨(DW.c9 hd58).1,(DW.c10 hd58).1,hr57⟩ fun H=>zd 16 H rfl (Au Ca H rfl (fun _ h=>(h.2.2 2 _ rfl).1)) ⟨(DW.c9 hd58).1,(DW.c10 hd58).1,hr57⟩ fun H=>?_;obtain ⟨aoR,cR,hrunR,hvR⟩:=View.uptoRun (P:=Tryz.prog) (DW.inn hd58) Tryz.underlying22 Ag .i64 sz (by rw [hlk]; omega);refine zd 17 H rfl (Qi H rfl rfl hrunR) ⟨(DW.c9 hd58).1,(DW.c10 hd58).1,hr57⟩ fun H=>zd 18 H rfl (Dz Tryz.underlying80 rfl (J1 _ rfl) H rfl (fun _ h j v hj=>by rw [Nat.zero_add]; exact (h.2.2 j v hj).1)) ⟨(DW.c9 hd58).1,(DW.c10 hd58).1,hr57⟩ fun H=>zd 19 H rfl (Al H rfl) ⟨(DW.c9 hd58).1,(DW.c10 hd58).1,hr57⟩ fun H=>zd 20 H rfl (Ak H rfl) ⟨(DW.c9 hd58).1,(DW.c10 hd58).1,hr57⟩ fun H=>zd 21 H rfl (Ap Be H rfl) ⟨(DW.c9 hd58).1,(DW.c10 hd58).1,hr57⟩ fun H=>zd 22 H rfl (Au AH H rfl (fun _ h=>h.2.1)) ⟨(DW.c9 hd58).1,(DW.c10 hd58).1,hr57⟩ fun H=>zd 24 H rfl (Al H rfl) ⟨(DW.c9 hd58).1,(DW.c10 hd58).1,hr57⟩ fun H=>Gm 23 26 (by kernel_rfl) rfl rfl rfl rfl ?_ ?_
   ·refine zC FQ H rfl (Calls.mono (DD ⟨kd,true,sz,sp⟩ _ _ g wd54 (DW.inn hd58) hN (by rw [hlk]; omega)) ?_);rintro e w60 ⟨rfl,hb60⟩;refine zR fun H=>?_;have hz61:=hb60.size;have hv62:=View.below hvR hb60;have hr63:=RowAt.bl hr56 hb60;have hr64:=RowAt.bl hr57 hb60;have hd65:=DW.below hd58 hb60;have hg66:=Aa hg59 (Below.mono hb60 (by omega));refine wpList_nil ⟨⟨(DW.c9 hd65).1,(DW.c10 hd65).1,hr64⟩,?_⟩;refine zd 25 H rfl (Cy (H5 _ _ _ _ _ _ _ _) H rfl) ⟨(DW.c9 hd65).1,(DW.c10 hd65).1,hr64⟩ fun H=>zD 26 rfl ?_;obtain ⟨q67,hq67⟩:∃ q,q = w60.heap.size:=⟨_,rfl⟩;refine Az Bj H rfl fun w67 hr67 hb67 hs67 a H=>?_;rw [←hq67] at H hr67;have hz68:=hb67.size;have hv69:=View.below hv62 hb67;have hr70:=RowAt.bl hr63 hb67;have hr71:=RowAt.bl hr64 hb67;have hd72:=DW.below hd65 hb67;have hg73:=Aa hg66 (Below.mono hb67 (by omega));refine wpList_nil ⟨⟨(DW.c9 hd72).1,(DW.c10 hd72).1,hr71⟩,?_⟩;refine zD 27 rfl (zT H rfl rfl hr67 fun {w74} hr74 hg74=>?_);have hz75:=hg74.size;have hB75:=Ae (N:=w.heap.size) hg74 (by omega) (by omega);have hv76:=View.kg hv69 hg74;have hr77:=RowAt.gr hr70 hg74;have hr78:=RowAt.gr hr71 hg74;have hd79:=DW.belowAt hd72 w.heap.size hlp hgl HO.out hB75;have hg80:=Aa hg73 hB75;refine wpList_nil ⟨⟨(DW.c9 hd79).1,(DW.c10 hd79).1,hr78⟩,?_⟩;refine Ay (by kernel_rfl) (tn (j53 ?_));refine zK H [0,2,3,5,7] rfl fun H=>zr fun j81=>zm H rfl fun H=>zg Fh H rfl fun H=>Ah Ca H rfl (hr78 2 _ rfl).1 rfl fun a H=>zC DQ H rfl (Calls.mono (CC _ sz w74 hd79 (by show s.k+sz≤bs.length; omega) (by omega)) ?_);rintro e w82 ⟨rfl,vi3,hd82,hgc82⟩;refine zR fun H=>?_;have hz83:=hgc82.size;have hv84:=View.kept hv76 (World.grownBy.block hgc82 g (by omega) (fun e=>by injection e with e; exact hgp e));have hr85:=RowAt.gr hr77 hgc82;have hr87:=RowAt.gr hr74 hgc82;have hg88:=Bg hg80 hgc82;refine zN (j81 ?_);refine zr fun j89=>AV Tryz.underlying50 rfl (AP _ rfl) H rfl hr87 rfl fun a H=>zT H rfl rfl hr85 fun {w90} hr90 hg90=>?_;have hz91:=hg90.size;have hB91:=Ae (N:=w.heap.size) hg90 (by omega) (by omega);have hv92:=View.kg hv84 hg90;have hd95:=DW.belowAt hd82 w.heap.size hlp hgl HO.out hB91;have hg96:=Aa hg88 hB91;refine za H rfl fun H=>zN (j89 ?_);refine wp_ret (?_);refine AR H rfl rfl hr90 ?_;rw [show Z = some (⟨3,1,false,kd+(if true then 128 else 0),s.k,(bs.drop s.k).take sz,Fp ⟨kd,true,sz,sp⟩ (bs.drop s.k)⟩,goT bs s.k sz) from by rw [←HZ.out]; unfold I5; rw [hN]];exact ⟨_,_,rfl,hv92,hd95,hg96⟩
   ·obtain ⟨q97,hq97⟩:∃ q,q = wd54.heap.size:=⟨_,rfl⟩;refine Az Bj H rfl fun w97 hr97 hb97 hs97 a H=>?_;rw [←hq97] at H hr97;have hz98:=hb97.size;have hv99:=View.below hvR hb97;have hr100:=RowAt.bl hr56 hb97;have hr101:=RowAt.bl hr57 hb97;have hd102:=DW.below hd58 hb97;have hg103:=Aa hg59 (Below.mono hb97 (by omega));refine wpList_nil ⟨⟨(DW.c9 hd102).1,(DW.c10 hd102).1,hr101⟩,?_⟩;refine zD 23 rfl (zC FQ H rfl (Calls.mono (DD ⟨kd,true,sz,sp⟩ _ _ g w97 (DW.inn hd102) hN (by rw [hlk]; omega)) ?_));rintro e w104 ⟨rfl,hb104⟩;refine zR fun H=>?_;have hz105:=hb104.size;have hv106:=View.below hv99 hb104;have hr107:=RowAt.bl hr100 hb104;have hr108:=RowAt.bl hr101 hb104;have hr109:=RowAt.bl hr97 hb104;have hd110:=DW.below hd102 hb104;have hg111:=Aa hg103 (Below.mono hb104 (by omega));refine wpList_nil ⟨⟨(DW.c9 hd110).1,(DW.c10 hd110).1,hr108⟩,?_⟩;refine zd 25 H rfl (Cy (H5 _ _ _ _ _ _ _ _) H rfl) ⟨(DW.c9 hd110).1,(DW.c10 hd110).1,hr108⟩ fun H=>zD 27 rfl (zT H rfl rfl hr109 fun {w112} hr112 hg112=>?_);have hz113:=hg112.size;have hB113:=Ae (N:=w.heap.size) hg112 (by omega) (by omega);have hv114:=View.kg hv106 hg112;have hr115:=RowAt.gr hr107 hg112;have hr116:=RowAt.gr hr108 hg112;have hd117:=DW.belowAt hd110 w.heap.size hlp hgl HO.out hB113;have hg118:=Aa hg111 hB113;refine wpList_nil ⟨⟨(DW.c9 hd117).1,(DW.c10 hd117).1,hr116⟩,?_⟩;refine Ay (by kernel_rfl) (tn (j53 ?_));refine zK H [0,2,3,5,7] rfl fun H=>zr fun j119=>zm H rfl fun H=>zg Fh H rfl fun H=>Ah Ca H rfl (hr116 2 _ rfl).1 rfl fun a H=>zC DQ H rfl (Calls.mono (CC _ sz w112 hd117 (by show s.k+sz≤bs.length; omega) (by omega)) ?_);rintro e w120 ⟨rfl,vi3,hd120,hgc120⟩;refine zR fun H=>?_;have hz121:=hgc120.size;have hv122:=View.kept hv114 (World.grownBy.block hgc120 g (by omega) (fun e=>by injection e with e; exact hgp e));have hr123:=RowAt.gr hr115 hgc120;have hr125:=RowAt.gr hr112 hgc120;have hg126:=Bg hg118 hgc120;refine zN (j119 ?_);refine zr fun j127=>AV Tryz.underlying50 rfl (AP _ rfl) H rfl hr125 rfl fun a H=>zT H rfl rfl hr123 fun {w128} hr128 hg128=>?_;have hz129:=hg128.size;have hB129:=Ae (N:=w.heap.size) hg128 (by omega) (by omega);have hv130:=View.kg hv122 hg128;have hd133:=DW.belowAt hd120 w.heap.size hlp hgl HO.out hB129;have hg134:=Aa hg126 hB129;refine za H rfl fun H=>zN (j127 ?_);refine wp_ret (?_);refine AR H rfl rfl hr128 ?_;rw [show Z = some (⟨3,1,false,kd+(if true then 128 else 0),s.k,(bs.drop s.k).take sz,Fp ⟨kd,true,sz,sp⟩ (bs.drop s.k)⟩,goT bs s.k sz) from by rw [←HZ.out]; unfold I5; rw [hN]];exact ⟨_,_,rfl,hv130,hd133,hg134⟩
  | false=>
   have H:=Hs32;refine Ac (zm H rfl fun H=>zC Kr H rfl (Calls.mono (CO _ _ g w2 (DW.inn hd4) (by rw [hlk]; omega)) ?_));rintro e w135 ⟨rfl,hb135⟩;refine zR fun H=>?_;have hz136:=hb135.size;have hr137:=RowAt.bl hr2 hb135;have hd138:=DW.below hd4 hb135;have hg139:=Aa hg5 (Below.mono hb135 (by omega));rw [hN] at H;obtain ⟨q140,hq140⟩:∃ q,q = w135.heap.size:=⟨_,rfl⟩;refine Az Ey H rfl fun w140 hr140 hb140 hs140 a H=>?_;rw [←hq140] at H hr140;have hz141:=hb140.size;have hr142:=RowAt.bl hr137 hb140;have hd143:=DW.below hd138 hb140;have hg144:=Aa hg139 (Below.mono hb140 (by omega));refine AJ (vs:=[.int .u8 ((kd:Nat):Int),.bool false,.int .i64 ((sz:Nat):Int),.int .i64 ((sp:Nat):Int)]) H rfl rfl hr140 rfl (FU _ _ _ _) (by simp [Value.oneCell']) fun w145 hr145 hg145=>?_;have hz146:=hg145.size;have hB146:=Ae (N:=w.heap.size) hg145 (by omega) (by omega);have hr147:=RowAt.gr hr142 hg145;have hd148:=DW.belowAt hd143 w.heap.size hlp hgl HO.out hB146;have hg149:=Aa hg144 hB146;refine zN (j7 ?_);refine zK H [0,2,3,5] rfl fun H=>zs fun j150=>zr fun j151=>zg Fh H rfl fun H=>Ah Ca H rfl (hr145 2 _ rfl).1 rfl fun a H=>zef H rfl rfl fun H=>zN (j151 ?_);refine zj H rfl (wp_skip (tn (j150 ?_)));refine zr fun j152=>zg Oo H rfl fun H=>Ah A5 H rfl (hr145 0 _ rfl).1 rfl fun a H=>za H rfl fun H=>zN (j152 ?_);refine zK H [0,2,3,5,6] rfl fun H=>zs fun j153=>zr fun j154=>zg Mw H rfl fun H=>Ah Hx H rfl (hr145 1 _ rfl).1 rfl fun a H=>zN (j154 ?_);refine zj H rfl (wp_skip (tn (j153 ?_)));refine zs fun j155=>AE (fun w'=>w'.cell? ⟨p,9,none⟩ = some vo∧w'.cell? ⟨p,10,none⟩ = some vi∧RowAt w' q140 [.int .u8 ((kd:Nat):Int),.bool false,.int .i64 ((sz:Nat):Int),.int .i64 ((sp:Nat):Int)]) 28 AO rfl ?_;have hbd156:Below w145.heap.size w145 w145.drew:=(Below.refl _ _).drew;generalize w145.drew = wd156 at hbd156 ⊢;have hz157:=hbd156.size;have hr158:=RowAt.bl hr147 hbd156;have hr159:=RowAt.bl hr145 hbd156;have hd160:=DW.below hd148 hbd156;have hg161:=Aa hg149 (Below.mono hbd156 (by omega));refine zd 0 H rfl (Al H rfl) ⟨(DW.c9 hd160).1,(DW.c10 hd160).1,hr159⟩ fun H=>zd 1 H rfl (Ak H rfl) ⟨(DW.c9 hd160).1,(DW.c10 hd160).1,hr159⟩ fun H=>zd 2 H rfl (Ap EJ H rfl) ⟨(DW.c9 hd160).1,(DW.c10 hd160).1,hr159⟩ fun H=>zd 3 H rfl (Au AH H rfl (fun _ h=>h.1)) ⟨(DW.c9 hd160).1,(DW.c10 hd160).1,hr159⟩ fun H=>zd 4 H rfl (Gd Tryz.underlying22 H rfl (DW.orig hd160)) ⟨(DW.c9 hd160).1,(DW.c10 hd160).1,hr159⟩ fun H=>zd 5 H rfl (Al H rfl) ⟨(DW.c9 hd160).1,(DW.c10 hd160).1,hr159⟩ fun H=>zd 6 H rfl (Ak H rfl) ⟨(DW.c9 hd160).1,(DW.c10 hd160).1,hr159⟩ fun H=>zd 7 H rfl (Ap Be H rfl) ⟨(DW.c9 hd160).1,(DW.c10 hd160).1,hr159⟩ fun H=>zd 8 H rfl (Au AH H rfl (fun _ h=>h.2.1)) ⟨(DW.c9 hd160).1,(DW.c10 hd160).1,hr159⟩ fun H=>zd 9 H rfl (Gd Tryz.underlying22 H rfl (DW.inn hd160)) ⟨(DW.c9 hd160).1,(DW.c10 hd160).1,hr159⟩ fun H=>zd 10 H rfl (Ht (r:=((s.k:Nat):Int)) H rfl rfl (by omega) (by omega) (by omega)) ⟨(DW.c9 hd160).1,(DW.c10 hd160).1,hr159⟩ fun H=>zd 11 H rfl (Al H rfl) ⟨(DW.c9 hd160).1,(DW.c10 hd160).1,hr159⟩ fun H=>zd 12 H rfl (Ak H rfl) ⟨(DW.c9 hd160).1,(DW.c10 hd160).1,hr159⟩ fun H=>zd 13 H rfl (Ap Be H rfl) ⟨(DW.c9 hd160).1,(DW.c10 hd160).1,hr159⟩ fun H=>?_;refine zd 14 H rfl (Au AH H rfl (fun _ h=>h.2.1)) ⟨(DW.c9 hd160).1,(DW.c10 hd160).1,hr159⟩ fun H=>zd 15 H rfl (Ap Fh H rfl) ⟨(DW.c9 hd160).1,(DW.c10 hd160).1,hr159⟩ fun H=>zd 16 H rfl (Au Ca H rfl (fun _ h=>(h.2.2 2 _ rfl).1)) ⟨(DW.c9 hd160).1,(DW.c10 hd160).1,hr159⟩ fun H=>?_;obtain ⟨aoR,cR,hrunR,hvR⟩:=View.uptoRun (P:=Tryz.prog) (DW.inn hd160) Tryz.underlying22 Ag .i64 sz (by rw [hlk]; omega)
   refine zd 17 H rfl (Qi H rfl rfl hrunR) ⟨(DW.c9 hd160).1,(DW.c10 hd160).1,hr159⟩ fun H=>zd 18 H rfl (Dz Tryz.underlying80 rfl (J1 _ rfl) H rfl (fun _ h j v hj=>by rw [Nat.zero_add]; exact (h.2.2 j v hj).1)) ⟨(DW.c9 hd160).1,(DW.c10 hd160).1,hr159⟩ fun H=>zd 19 H rfl (Al H rfl) ⟨(DW.c9 hd160).1,(DW.c10 hd160).1,hr159⟩ fun H=>zd 20 H rfl (Ak H rfl) ⟨(DW.c9 hd160).1,(DW.c10 hd160).1,hr159⟩ fun H=>zd 21 H rfl (Ap Be H rfl) ⟨(DW.c9 hd160).1,(DW.c10 hd160).1,hr159⟩ fun H=>zd 22 H rfl (Au AH H rfl (fun _ h=>h.2.1)) ⟨(DW.c9 hd160).1,(DW.c10 hd160).1,hr159⟩ fun H=>zd 24 H rfl (Al H rfl) ⟨(DW.c9 hd160).1,(DW.c10 hd160).1,hr159⟩ fun H=>Gm 23 26 (by kernel_rfl) rfl rfl rfl rfl ?_ ?_
   ·refine zC FQ H rfl (Calls.mono (DD ⟨kd,false,sz,sp⟩ _ _ g wd156 (DW.inn hd160) hN (by rw [hlk]; omega)) ?_);rintro e w162 ⟨rfl,hb162⟩;refine zR fun H=>?_;have hz163:=hb162.size;have hv164:=View.below hvR hb162;have hr165:=RowAt.bl hr158 hb162;have hr166:=RowAt.bl hr159 hb162;have hd167:=DW.below hd160 hb162;have hg168:=Aa hg161 (Below.mono hb162 (by omega));refine wpList_nil ⟨⟨(DW.c9 hd167).1,(DW.c10 hd167).1,hr166⟩,?_⟩;refine zd 25 H rfl (Cy (H5 _ _ _ _ _ _ _ _) H rfl) ⟨(DW.c9 hd167).1,(DW.c10 hd167).1,hr166⟩ fun H=>zD 26 rfl ?_;obtain ⟨q169,hq169⟩:∃ q,q = w162.heap.size:=⟨_,rfl⟩;refine Az Bj H rfl fun w169 hr169 hb169 hs169 a H=>?_;rw [←hq169] at H hr169;have hz170:=hb169.size;have hv171:=View.below hv164 hb169;have hr172:=RowAt.bl hr165 hb169;have hr173:=RowAt.bl hr166 hb169;have hd174:=DW.below hd167 hb169;have hg175:=Aa hg168 (Below.mono hb169 (by omega));refine wpList_nil ⟨⟨(DW.c9 hd174).1,(DW.c10 hd174).1,hr173⟩,?_⟩;refine zD 27 rfl (zT H rfl rfl hr169 fun {w176} hr176 hg176=>?_);have hz177:=hg176.size;have hB177:=Ae (N:=w.heap.size) hg176 (by omega) (by omega);have hv178:=View.kg hv171 hg176;have hr179:=RowAt.gr hr172 hg176;have hr180:=RowAt.gr hr173 hg176;have hd181:=DW.belowAt hd174 w.heap.size hlp hgl HO.out hB177;have hg182:=Aa hg175 hB177;refine wpList_nil ⟨⟨(DW.c9 hd181).1,(DW.c10 hd181).1,hr180⟩,?_⟩;refine Ay (by kernel_rfl) (tn (j155 ?_));refine zK H [0,2,3,5,7] rfl fun H=>zr fun j183=>zm H rfl fun H=>zg Fh H rfl fun H=>Ah Ca H rfl (hr180 2 _ rfl).1 rfl fun a H=>zC DQ H rfl (Calls.mono (CC _ sz w176 hd181 (by show s.k+sz≤bs.length; omega) (by omega)) ?_);rintro e w184 ⟨rfl,vi3,hd184,hgc184⟩;refine zR fun H=>?_;have hz185:=hgc184.size;have hv186:=View.kept hv178 (World.grownBy.block hgc184 g (by omega) (fun e=>by injection e with e; exact hgp e));have hr187:=RowAt.gr hr179 hgc184;have hr189:=RowAt.gr hr176 hgc184;have hg190:=Bg hg182 hgc184;refine zN (j183 ?_);refine zr fun j191=>AV Tryz.underlying50 rfl (AP _ rfl) H rfl hr189 rfl fun a H=>zT H rfl rfl hr187 fun {w192} hr192 hg192=>?_;have hz193:=hg192.size;have hB193:=Ae (N:=w.heap.size) hg192 (by omega) (by omega);have hv194:=View.kg hv186 hg192;have hd197:=DW.belowAt hd184 w.heap.size hlp hgl HO.out hB193;have hg198:=Aa hg190 hB193;refine za H rfl fun H=>zN (j191 ?_);refine wp_ret (?_);refine AR H rfl rfl hr192 ?_;rw [show Z = some (⟨3,1,false,kd+(if false then 128 else 0),s.k,(bs.drop s.k).take sz,Fp ⟨kd,false,sz,sp⟩ (bs.drop s.k)⟩,goT bs s.k sz) from by rw [←HZ.out]; unfold I5; rw [hN]];exact ⟨_,_,rfl,hv194,hd197,hg198⟩
   ·obtain ⟨q199,hq199⟩:∃ q,q = wd156.heap.size:=⟨_,rfl⟩;refine Az Bj H rfl fun w199 hr199 hb199 hs199 a H=>?_;rw [←hq199] at H hr199;have hz200:=hb199.size;have hv201:=View.below hvR hb199;have hr202:=RowAt.bl hr158 hb199;have hr203:=RowAt.bl hr159 hb199;have hd204:=DW.below hd160 hb199;have hg205:=Aa hg161 (Below.mono hb199 (by omega));refine wpList_nil ⟨⟨(DW.c9 hd204).1,(DW.c10 hd204).1,hr203⟩,?_⟩;refine zD 23 rfl (zC FQ H rfl (Calls.mono (DD ⟨kd,false,sz,sp⟩ _ _ g w199 (DW.inn hd204) hN (by rw [hlk]; omega)) ?_));rintro e w206 ⟨rfl,hb206⟩;refine zR fun H=>?_;have hz207:=hb206.size;have hv208:=View.below hv201 hb206;have hr209:=RowAt.bl hr202 hb206;have hr210:=RowAt.bl hr203 hb206;have hr211:=RowAt.bl hr199 hb206;have hd212:=DW.below hd204 hb206;have hg213:=Aa hg205 (Below.mono hb206 (by omega));refine wpList_nil ⟨⟨(DW.c9 hd212).1,(DW.c10 hd212).1,hr210⟩,?_⟩;refine zd 25 H rfl (Cy (H5 _ _ _ _ _ _ _ _) H rfl) ⟨(DW.c9 hd212).1,(DW.c10 hd212).1,hr210⟩ fun H=>zD 27 rfl (zT H rfl rfl hr211 fun {w214} hr214 hg214=>?_);have hz215:=hg214.size;have hB215:=Ae (N:=w.heap.size) hg214 (by omega) (by omega);have hv216:=View.kg hv208 hg214;have hr217:=RowAt.gr hr209 hg214;have hr218:=RowAt.gr hr210 hg214;have hd219:=DW.belowAt hd212 w.heap.size hlp hgl HO.out hB215;have hg220:=Aa hg213 hB215;refine wpList_nil ⟨⟨(DW.c9 hd219).1,(DW.c10 hd219).1,hr218⟩,?_⟩;refine Ay (by kernel_rfl) (tn (j155 ?_));refine zK H [0,2,3,5,7] rfl fun H=>zr fun j221=>zm H rfl fun H=>zg Fh H rfl fun H=>Ah Ca H rfl (hr218 2 _ rfl).1 rfl fun a H=>zC DQ H rfl (Calls.mono (CC _ sz w214 hd219 (by show s.k+sz≤bs.length; omega) (by omega)) ?_);rintro e w222 ⟨rfl,vi3,hd222,hgc222⟩;refine zR fun H=>?_;have hz223:=hgc222.size;have hv224:=View.kept hv216 (World.grownBy.block hgc222 g (by omega) (fun e=>by injection e with e; exact hgp e));have hr225:=RowAt.gr hr217 hgc222;have hr227:=RowAt.gr hr214 hgc222;have hg228:=Bg hg220 hgc222;refine zN (j221 ?_);refine zr fun j229=>AV Tryz.underlying50 rfl (AP _ rfl) H rfl hr227 rfl fun a H=>zT H rfl rfl hr225 fun {w230} hr230 hg230=>?_;have hz231:=hg230.size;have hB231:=Ae (N:=w.heap.size) hg230 (by omega) (by omega);have hv232:=View.kg hv224 hg230;have hd235:=DW.belowAt hd222 w.heap.size hlp hgl HO.out hB231;have hg236:=Aa hg228 hB231;refine za H rfl fun H=>zN (j229 ?_);refine wp_ret (?_);refine AR H rfl rfl hr230 ?_;rw [show Z = some (⟨3,1,false,kd+(if false then 128 else 0),s.k,(bs.drop s.k).take sz,Fp ⟨kd,false,sz,sp⟩ (bs.drop s.k)⟩,goT bs s.k sz) from by rw [←HZ.out]; unfold I5; rw [hN]];exact ⟨_,_,rfl,hv232,hd235,hg236⟩
end
section
section
variable {P:Program} {ops:Array Oper} {rest:List Oper} {o:Oper} {a:Act} {Q:Exit→Act→World→Prop}
theorem JG (w:World) (hgd:o.guard = none) (s x:Operand) (t u:TypeId) (ho:o.op = .call { callee:=.builtin .append,args:=#[s,x],argTypes:=#[t,u] })
  (e:TypeId) (ht:P.underlying t = some (.slice e)) (hu:P.underlying u = some .string) (hinfo:(P.info? e).map (fun i=>(i.zero,i.size,i.bytes)) = some (some (.int .u8 0),1,1))
  (ad:Addr) (bs:List UInt8) (hs:a.eval s = .slice (some ad) bs.length bs.length) (hc:∀ j (hj:j < bs.length),w.cell? (ad.add j) = some (.int .u8 (bs[j].toNat:Int)))
  (ys:ByteArray) (hx:a.eval x = .string ys) (h0:0 < ys.size) (hlen:bs.length+ys.size≤100000000)
  (h:∀ v' w',Below w.heap.size w w'→wpList P ops Q rest (a.put o.dst v') w'):wpList P ops Q (o::rest) a w:=by
 obtain ⟨i,hi,hz,hz1,hz2⟩:=info_parts hinfo;refine wpList_plain hgd fun K hK=>?_
 have hr:=Lib.run_append_grow_string (P:=P) w t u o.type e i (.int .u8 0) ht hu hi hz ad bs.length bs.length (byteCells bs) (by rw [hz1]; simp [byteCells]) (fun j v hv=>by
   unfold byteCells at hv;rw [List.getElem?_map] at hv
   by_cases hj:j < bs.length
   ·rw [List.getElem?_eq_getElem hj] at hv;simp at hv;rw [←hv];exact hc j hj
   ·rw [List.getElem?_eq_none (by omega)] at hv
    cases hv) ys (by omega) (by omega) (by rw [hz2]; exact growslice_fits (by omega) (by omega))
 unfold Oper.wp execOp;simp only [ho,resolve,invoke,builtin,Sem.run_bind,Sem.run_pure,Result.andThen_ok,List.map_toArray,List.map_cons,List.map_nil,hs,hx,hr];exact hK _ _ (h _ _ (((Below.refl _ _).drew).alloc (Nat.le_refl _) _))
end
theorem RF {l:List UInt8} {c n:Nat} (h:BI l = some (c,n)):c < 2097152:=by
 cases l with
 | nil=>simp [BI] at h
 | cons d l=>
  rw [Bo] at h
  split at h
  ·simp at h; omega
  ·split at h
   ·cases h
   ·split at h
    ·cases h
    ·split at h
     ·rename_i hok
      simp at h;simp [K7] at hok;omega
     ·cases h
theorem chr_lt (l:List UInt8):(chr l).1 < 2097152:=by
 unfold chr
 rcases h:BI l with _ | ⟨c,n⟩
 ·simp
 ·exact RF h
def SomeV (w:World) (e:Ending) (w':World):Prop:=(∃ x,e = .returned x)∧Below w.heap.size w w'
set_option maxRecDepth 100000 in
set_option maxHeartbeats 4000000 in
theorem Nv (v:Value) (l:List UInt8) (g:Nat) (w:World) (hv:View w g v l) (hm:l.length≤90000000) (hgl:Glob w) (hg:g < w.heap.size) :
  Calls Tryz.prog 56 #[v] w (SomeV w):=by
 have HT:=hid hgl.tabs;have HV:=hid hv;obtain ⟨ao,cp,rfl,hlc,hcm,hn0,off,hao,hcell⟩:=hv;have HC:=hid hcell;clear hcell hgl
 go_enter Tryz.func56,Tryz.ntmps56
 go_wp2_with fail
 go_loopw [3] (fun i wr=>∃ k:Nat,k≤l.length∧i = .int .i64 (k:Int)∧Below w.heap.size w wr) (fun i _=>l.length - (intOf i).toNat)
 case atStart=>exact ⟨0,Nat.zero_le _,rfl,Below.refl _ _⟩
 case round=>
  obtain ⟨k,hk,rfl,hb⟩:=hrel;have HB:=hid hb
  by_cases hlt:k < l.length
  ·have hne:l≠[]:=by intro e; rw [e] at hlt; simp at hlt
   obtain rfl:=hao hne
   have hltI:(k:Int) < (l.length:Int):=by omega
   have hkc:(k:Int)≤(cp:Int):=by omega
   by_cases h32:(32:Int) < (k:Int)
   ·have hcw:∀ j (hj:j < (l.take k).length),wr.cell? ((⟨g,off,none⟩:Addr).add j) = some (.int .u8 ((l.take k)[j].toNat:Int)):=fun j hj=>by
     have hj2:j < l.length:=by simp at hj; omega
     rw [Addr.add_lit,hb.cell (p:=⟨g,off+j,none⟩) hg,HC.out j hj2];simp
    have HCW:=hid hcw
    have hkl:(l.take k).length = k:=by simp; omega
    clear hcw
    go_wp2_with (first
     | (at_builtin; refine JG _ rfl _ _ 22 9 rfl 5 Tryz.underlying22 Tryz.underlying9 Ag ⟨g,off,none⟩ (l.take k) (by rw [hkl]; try rfl) HCW.out _ rfl (by decide) (by rw [hkl]; show k+3≤_; omega) ?_; intro v1 w1 hb1)
     | fail)
    go_ret
    exact ⟨⟨_,rfl⟩,HB.out.trans (hb1.mono HB.out.size)⟩
   ·have hnd:l.drop k≠[]:=by intro e; have:=congrArg List.length e; simp at this; omega
    have HDEC:=fun u (hu:View wr g u (l.drop k))=>IC u (l.drop k) g wr hu hnd (by simp; omega) (Utf8Tabs_below HT.out hb);have hcp:=chr_pos hnd;have hcl:=chr_lt (l.drop k);unfold Ov at HDEC;rw [List.length_drop] at hcp;generalize (chr (l.drop k)).1 = r at *;generalize (chr (l.drop k)).2 = n1 at *;have HDEC:=hid HDEC
    have hc3:(k:Int)+(n1:Int)≤(cp:Int):=by omega
    have hc4:(n1:Int)≤(cp:Int):=by omega
    have hc5:(k:Int)+(n1:Int)≤90000000:=by omega
    have HVW:=hid (HV.out.below hb)
    have hrep:(0:Int)≤(r:Int):=by omega
    clear hnd hb
    by_cases h128:(128:Int) < (r:Int)
    ·by_cases hk0:k = 0
     ·have ek:((k:Int) == 0) = true:=by simp; omega
      go_wp2_with (first | ((with_reducible refine DL ?_); refine AL _ (by rfl) _ _ 22 5 rfl Tryz.underlying22 Ag _ _ _ rfl HVW.out _ (k:Int) rfl (by omega) (by omega) ?_; intro vs2 hvs2; try simp only [Int.toNat_natCast] at hvs2) | (go_at_call 71; refine (Calls.mono (HDEC.out _ hvs2) ?_); rintro e w2 ⟨rfl,hbd⟩) | fail)
      go_ret
      exact ⟨⟨_,rfl⟩,HB.out.trans (hbd.mono HB.out.size)⟩
     ·have ek:((k:Int) == 0) = false:=by simp; omega
      go_wp2_with (first | ((with_reducible refine DL ?_); refine AL _ (by rfl) _ _ 22 5 rfl Tryz.underlying22 Ag _ _ _ rfl HVW.out _ (k:Int) rfl (by omega) (by omega) ?_; intro vs2 hvs2; try simp only [Int.toNat_natCast] at hvs2) | (go_at_call 71; refine (Calls.mono (HDEC.out _ hvs2) ?_); rintro e w2 ⟨rfl,hbd⟩) | fail)
      go_ret
      exact ⟨⟨_,rfl⟩,HB.out.trans (hbd.mono HB.out.size)⟩
    ·by_cases h47:r = 47
     ·have e47:((r:Int) == 47) = true:=by simp; omega
      go_wp2_with (first | ((with_reducible refine DL ?_); refine AL _ (by rfl) _ _ 22 5 rfl Tryz.underlying22 Ag _ _ _ rfl HVW.out _ (k:Int) rfl (by omega) (by omega) ?_; intro vs2 hvs2; try simp only [Int.toNat_natCast] at hvs2) | (go_at_call 71; refine (Calls.mono (HDEC.out _ hvs2) ?_); rintro e w2 ⟨rfl,hbd⟩) | fail)
      go_roundw
      case rel=>exact ⟨k+n1,by omega,by go_num,HB.out.trans (hbd.mono HB.out.size)⟩
      case measure=>simp [intOf]; omega
     ·have e47:((r:Int) == 47) = false:=by simp; omega
      have n47:((r:Int) != 47) = true:=by simp; omega
      obtain ⟨c,hc⟩:∃ c:UInt8,c.toNat = r:=⟨UInt8.ofNat r,by rw [UInt8.toNat_ofNat']; omega⟩;subst hc;have bc:=AM c;clear hcl;have HDL:=hid (CU c)
      cases hde:DI c with
      | true=>
       rw [hde] at HDL
       by_cases hk0:k = 0
       ·have ek:((k:Int) == 0) = true:=by simp; omega
        go_wp2_with (first | ((with_reducible refine DL ?_); refine AL _ (by rfl) _ _ 22 5 rfl Tryz.underlying22 Ag _ _ _ rfl HVW.out _ (k:Int) rfl (by omega) (by omega) ?_; intro vs2 hvs2; try simp only [Int.toNat_natCast] at hvs2) | (go_at_call 71; refine (Calls.mono (HDEC.out _ hvs2) ?_); rintro e w2 ⟨rfl,hbd⟩) | (go_at_call 68; refine (HDL.out _).mono ?_; rintro e w' ⟨rfl,rfl⟩) | fail)
        go_ret
        exact ⟨⟨_,rfl⟩,HB.out.trans (hbd.mono HB.out.size)⟩
       ·have ek:((k:Int) == 0) = false:=by simp; omega
        go_wp2_with (first | ((with_reducible refine DL ?_); refine AL _ (by rfl) _ _ 22 5 rfl Tryz.underlying22 Ag _ _ _ rfl HVW.out _ (k:Int) rfl (by omega) (by omega) ?_; intro vs2 hvs2; try simp only [Int.toNat_natCast] at hvs2) | (go_at_call 71; refine (Calls.mono (HDEC.out _ hvs2) ?_); rintro e w2 ⟨rfl,hbd⟩) | (go_at_call 68; refine (HDL.out _).mono ?_; rintro e w' ⟨rfl,rfl⟩) | fail)
        go_ret
        exact ⟨⟨_,rfl⟩,HB.out.trans (hbd.mono HB.out.size)⟩
      | false=>
       rw [hde] at HDL
       go_wp2_with (first | ((with_reducible refine DL ?_); refine AL _ (by rfl) _ _ 22 5 rfl Tryz.underlying22 Ag _ _ _ rfl HVW.out _ (k:Int) rfl (by omega) (by omega) ?_; intro vs2 hvs2; try simp only [Int.toNat_natCast] at hvs2) | (go_at_call 71; refine (Calls.mono (HDEC.out _ hvs2) ?_); rintro e w2 ⟨rfl,hbd⟩) | (go_at_call 68; refine (HDL.out _).mono ?_; rintro e w' ⟨rfl,rfl⟩) | fail)
       go_roundw
       case rel=>exact ⟨k+n1,by omega,by go_num,HB.out.trans (hbd.mono HB.out.size)⟩
       case measure=>simp [intOf]; omega
  ·go_wp2_with fail
   go_ret
   exact ⟨⟨_,rfl⟩,HB.out⟩
end
end Go.Proofs.YtgdnpnipahegaaaGreatDoor
