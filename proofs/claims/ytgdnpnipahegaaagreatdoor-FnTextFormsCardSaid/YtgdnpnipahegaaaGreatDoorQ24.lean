/-
 The package's reader of the text form, walked: a scalar.
-/
import Derived.Test.YtgdnpnipahegaaaGreatDoorQ9
import Derived.Test.YtgdnpnipahegaaaGreatDoorQ21
import Derived.Test.YtgdnpnipahegaaaGreatDoorQ23
import Derived.Lib.ParseIntB
import Derived.Test.YtgdnpnipahegaaaGreatDoorQ4
import Derived.Test.YtgdnpnipahegaaaGreatDoorQ6
import Derived.Test.YtgdnpnipahegaaaGreatDoorTSwitch
import Derived.Deep.AppendLies
namespace Go.Proofs.YtgdnpnipahegaaaGreatDoor
section
open Go.ChangeShapes Go.WideShapes Go.ChangeAt Go.RowKit
theorem Gw {bs r:List UInt8} {k:Nat} {c:UInt8} (h:bs.drop k = c::r) (hq:c.toNat = 34∨c.toNat = 39):Bi bs k = JQ bs k:=by unfold Bi JQ; rw [h]; simp only; rw [if_pos hq]; try rfl
theorem Sb {bs r:List UInt8} {k:Nat} {c:UInt8} (h:bs.drop k = c::r) {x:TT × Nat} (hl:Mi bs k = some x):Bb true (c::r)≠0∧x = AD bs k 3 (Bb true (c::r)) 3:=by
 unfold Mi at hl;rw [h] at hl
 split at hl
 ·rename_i hn; injection hl with hl; exact ⟨hn,hl.symm⟩
 ·cases hl
theorem Sc {bs r:List UInt8} {k:Nat} {c:UInt8} (h:bs.drop k = c::r) (hl:Mi bs k = none):Bb true (c::r) = 0:=by
 unfold Mi at hl;rw [h] at hl
 split at hl
 ·cases hl
 ·rename_i hn; simpa using hn
theorem O4 {bs r:List UInt8} {k:Nat} {c:UInt8} (h:bs.drop k = c::r) (hq:¬ (c.toNat = 34∨c.toNat = 39)) {x:TT × Nat} (hl:Mi bs k = some x):Bi bs k = some x:=by
 obtain ⟨h1,h2⟩:=Sb h hl;unfold Bi;rw [h];simp only;rw [if_neg hq,if_pos h1,h2]
theorem KM {bs r:List UInt8} {k:Nat} {c:UInt8} (h:bs.drop k = c::r) (hq:¬ (c.toNat = 34∨c.toNat = 39)) (hl:Mi bs k = none):Bi bs k = I5 bs k:=by
 unfold Bi I5;rw [h];simp only;rw [if_neg hq,if_neg (by rw [Sc h hl]; simp)]
 try rfl
theorem Li:Av Tryz.prog 57:=⟨_,Tryz.func57,by kernel_rfl,by kernel_rfl⟩
theorem Tl:Av Tryz.prog 58:=⟨_,Tryz.func58,by kernel_rfl,by kernel_rfl⟩
theorem Q8:Av Tryz.prog 59:=⟨_,Tryz.func59,by kernel_rfl,by kernel_rfl⟩
theorem Pe:Av Tryz.prog 56:=⟨_,Tryz.func56,by kernel_rfl,by kernel_rfl⟩
theorem CD:Av Tryz.prog 47:=⟨_,Tryz.func47,by kernel_rfl,by kernel_rfl⟩
theorem infoAny:(Tryz.prog.info? 20).map (fun i=>(i.zero,i.size,i.bytes)) = some (some .nilIface,1,16):=by kernel_rfl
theorem ET {N:Nat} {D:List Deferred} {a:Act} {l:List (Nat × Value)} {L rest:List Oper} {Q:Exit→Act→World→Prop} {w:World} {d:Nat} {ty:TypeId} {pos:String} {af:Array Edge} {x:Operand} {t:TypeId} {v:Value} (H:Has N D a l) (hx:ev l x = some (.iface t v)) (hd:Nat.blt d N = true)
  (h:∀ w' u,Below w.heap.size w w'→∀ a,Has N D a ((d,u)::l)→wpList Tryz.prog L.toArray Q rest a w'):wpList Tryz.prog L.toArray Q (⟨some d,.buildSlice 87 1 #[(0,x)],ty,pos,af,none⟩::rest) a w:=by
 obtain ⟨inf,hi1,hz,hz1,hz2⟩:∃ i,Tryz.prog.info? 20 = some i∧i.zero = some .nilIface∧i.size = 1∧i.bytes = 16:=by
  have:=infoAny
  cases hi:Tryz.prog.info? 20 with
  | none=>rw [hi] at this; cases this
  | some i=>rw [hi] at this; simp at this; exact ⟨i,rfl,this.1,this.2.1,this.2.2⟩
 have h1:=H.ev hx;have:=run_buildSlice (P:=Tryz.prog) w 87 20 1 #[(0,.iface t v)] #[.iface t v] inf .nilIface Tryz.underlying87 hi1 hz (by rw [hz1]; decide) (by rw [hz1]; decide) (by rw [hz1]; kernel_rfl);refine Cj H hd (v:=.slice (some ⟨w.heap.size,0,none⟩) 1 1) (w':=w.alloc (.cells #[.iface t v] 20)) (by simp [execOp,h1,this,Result.andThen]) ?_;exact h _ _ ((Below.refl _ w).alloc (Nat.le_refl _) _)
variable {B p g:Nat} {bs:List UInt8} {vr ve vst vo vi:Value} {s:DT} {w:World}
set_option maxRecDepth 100000 in
set_option maxHeartbeats 100000000 in
theorem FA (h:DW B p g bs vr ve vst vo vi s w) (hm:bs.length≤10000000) (c:UInt8) (r:List UInt8) (hbk:bs.drop s.k = c::r) :
  Calls Tryz.prog 43 #[.pointer (some ⟨p,0,none⟩)] w (NB B p g bs vr ve vst vo s w (Bi bs s.k)):=by
 suffices key:∀ Z,Hid (Bi bs s.k = Z)→Calls Tryz.prog 43 #[.pointer (some ⟨p,0,none⟩)] w (NB B p g bs vr ve vst vo s w Z) from key _ (hid rfl)
 intro Z HZ;have hlp:=h.lt;have hgl:=h.gl;have hgp:g≠p:=h.gp;have HO:=hid h.ownLt
 have h9:9≤w.heap.size:=by have:=h.base; have:=h.b9; omega
 have hle:=h.le;have hlk:(bs.drop s.k).length = bs.length - s.k:=List.length_drop;have hg0:w.grownBy w (some p):=Bx (Below.refl _ _) _
 have hlcr:r.length+1≤bs.length:=by have:=congrArg List.length hbk; simp at this; omega
 have hlI:(c::r).length = r.length+1:=rfl;have bc:=AM c;refine enter1 (M:=52) Tryz.func43 rfl rfl rfl fun a H=>zr fun j1=>?_;obtain ⟨q2,hq2⟩:∃ q,q = w.heap.size:=⟨_,rfl⟩;refine Az Bj H rfl fun w2 hr2 hb2 hs2 a H=>?_;rw [←hq2] at H hr2;have hz3:=hb2.size;have hd4:=DW.below h hb2;have hg5:=Aa hg0 (Below.mono hb2 (by omega));refine za H rfl fun H=>zN (j1 ?_);refine zs fun j6=>zr fun j7=>zm H rfl fun H=>zc H rfl fun H=>zg Be H rfl fun H=>?_;have hvI8:View w2 g vi (c::r):=(DW.inn hd4).eq hbk;refine Ah AH H rfl (DW.c10 hd4).1 rfl fun a H=>zI H rfl rfl hvI8 rfl fun H hc9=>zl A5 H rfl hc9 fun H=>?_
 by_cases q10:((c.toNat:Int)) = ((34:Int))
 ·refine zet H rfl rfl fun H=>zm H rfl fun H=>zf H rfl fun H=>zf H rfl fun H=>zf H rfl fun H=>zf H rfl fun H=>zf H rfl fun H=>zf H rfl fun H=>zf H rfl fun H=>zp H rfl rfl fun H=>zN (j7 ?_)
  have hq:c.toNat = 34∨c.toNat = 39:=by omega
  refine zi H rfl (zs fun j11=>?_);have Hs12:=H
  rcases hSS:JQ bs s.k with _ | ⟨tS,kS⟩
  ·have H:=Hs12;refine Ac (zm H rfl fun H=>?_);have HP13:=Eh hd4 hm;rw [hSS] at HP13;refine zC Li H rfl (Calls.mono HP13 ?_);rintro e w13 ⟨⟨te,xe,rfl⟩,⟨vi13,k13,hd13⟩,hgc13⟩;refine zR fun H=>?_;have hz14:=hgc13.size;have hr15:=RowAt.gr hr2 hgc13;have hg16:=Bg hg5 hgc13;refine zx H rfl rfl fun H=>zx H rfl rfl fun H=>zT H rfl rfl hr15 fun {w17} hr17 hg17=>?_;have hz18:=hg17.size;have hB18:=Ae (N:=w.heap.size) hg17 (by omega) (by omega);have hd19:=DW.belowAt hd13 w.heap.size hlp hgl HO.out hB18;have hg20:=Aa hg16 hB18;refine za H rfl fun H=>zN (j11 ?_);refine zK H [0,2,3] rfl fun H=>wp_ret (tr (?_));refine AR H rfl rfl hr17 ?_;rw [show Z = none from by rw [←HZ.out,Gw hbk hq,hSS]];exact ⟨⟨_,_,rfl⟩,⟨_,_,hd19⟩,hg20⟩
  ·have H:=Hs12;refine Ac (zm H rfl fun H=>?_);have HP21:=Eh hd4 hm;rw [hSS] at HP21;refine zC Li H rfl (Calls.mono HP21 ?_);rintro e w21 ⟨vt21,vi21,rfl,hvt21,hd21,hgc21⟩;have Hs22:=H;obtain ⟨ao21,n21,c21,rfl⟩:=View.slice3 hvt21;have H:=Hs22;refine zR fun H=>?_;have hz23:=hgc21.size;have hr24:=RowAt.gr hr2 hgc21;have hg25:=Bg hg5 hgc21;refine zx H rfl rfl fun H=>zx H rfl rfl fun H=>zT H rfl rfl hr24 fun {w26} hr26 hg26=>?_;have hz27:=hg26.size;have hB27:=Ae (N:=w.heap.size) hg26 (by omega) (by omega);have hv28:=View.kg hvt21 hg26;have hd29:=DW.belowAt hd21 w.heap.size hlp hgl HO.out hB27;have hg30:=Aa hg25 hB27;refine za H rfl fun H=>zN (j11 ?_);refine wp_ret (tr (?_));refine AR H rfl rfl hr26 ?_;rw [show Z = some (tS,kS) from by rw [←HZ.out,Gw hbk hq,hSS]];exact ⟨_,_,rfl,hv28,hd29,hg30⟩
 ·refine zef H rfl rfl fun H=>zm H rfl fun H=>zo H rfl (zm H rfl fun H=>zo H rfl (zc H rfl fun H=>zo H rfl (zg Be H rfl fun H=>zo H rfl ?_)));have hvI31:View w2 g vi (c::r):=(DW.inn hd4).eq hbk;refine Ah AH H rfl (DW.c10 hd4).1 rfl fun a H=>zo H rfl (zI H rfl rfl hvI31 rfl fun H hc32=>zo H rfl (zl A5 H rfl hc32 fun H=>zo H rfl ?_))
  by_cases q33:((c.toNat:Int)) = ((39:Int))
  ·refine zet H rfl rfl fun H=>zp H rfl rfl fun H=>zN (j7 ?_);refine zK H [0,2,3,23] rfl fun H=>?_
   have hq:c.toNat = 34∨c.toNat = 39:=by omega
   refine zi H rfl (zs fun j34=>?_);have Hs35:=H
   rcases hSS:JQ bs s.k with _ | ⟨tS,kS⟩
   ·have H:=Hs35;refine Ac (zm H rfl fun H=>?_);have HP36:=Eh hd4 hm;rw [hSS] at HP36;refine zC Li H rfl (Calls.mono HP36 ?_);rintro e w36 ⟨⟨te,xe,rfl⟩,⟨vi36,k36,hd36⟩,hgc36⟩;refine zR fun H=>?_;have hz37:=hgc36.size;have hr38:=RowAt.gr hr2 hgc36;have hg39:=Bg hg5 hgc36;refine zx H rfl rfl fun H=>zx H rfl rfl fun H=>zT H rfl rfl hr38 fun {w40} hr40 hg40=>?_;have hz41:=hg40.size;have hB41:=Ae (N:=w.heap.size) hg40 (by omega) (by omega);have hd42:=DW.belowAt hd36 w.heap.size hlp hgl HO.out hB41;have hg43:=Aa hg39 hB41;refine za H rfl fun H=>zN (j34 ?_);refine wp_ret (tr (?_));refine AR H rfl rfl hr40 ?_;rw [show Z = none from by rw [←HZ.out,Gw hbk hq,hSS]];exact ⟨⟨_,_,rfl⟩,⟨_,_,hd42⟩,hg43⟩
   ·have H:=Hs35;refine Ac (zm H rfl fun H=>?_);have HP44:=Eh hd4 hm;rw [hSS] at HP44;refine zC Li H rfl (Calls.mono HP44 ?_);rintro e w44 ⟨vt44,vi44,rfl,hvt44,hd44,hgc44⟩;have Hs45:=H;obtain ⟨ao44,n44,c44,rfl⟩:=View.slice3 hvt44;have H:=Hs45;refine zR fun H=>?_;have hz46:=hgc44.size;have hr47:=RowAt.gr hr2 hgc44;have hg48:=Bg hg5 hgc44;refine zx H rfl rfl fun H=>zx H rfl rfl fun H=>zT H rfl rfl hr47 fun {w49} hr49 hg49=>?_;have hz50:=hg49.size;have hB50:=Ae (N:=w.heap.size) hg49 (by omega) (by omega);have hv51:=View.kg hvt44 hg49;have hd52:=DW.belowAt hd44 w.heap.size hlp hgl HO.out hB50;have hg53:=Aa hg48 hB50;refine za H rfl fun H=>zN (j34 ?_);refine wp_ret (tr (?_));refine AR H rfl rfl hr49 ?_;rw [show Z = some (tS,kS) from by rw [←HZ.out,Gw hbk hq,hSS]];exact ⟨_,_,rfl,hv51,hd52,hg53⟩
  ·refine zef H rfl rfl fun H=>zp H rfl rfl fun H=>zN (j7 ?_)
   have hq:¬ (c.toNat = 34∨c.toNat = 39):=by omega
   refine zj H rfl (wp_skip (tn (j6 ?_)));refine zs fun j54=>zs fun j55=>?_;have Hs56:=H
   rcases hSL:Mi bs s.k with _ | ⟨tL,kL⟩
   ·have H:=Hs56;refine Ac (zm H rfl fun H=>?_);have HP57:=Ha hd4 (by omega);rw [hSL] at HP57;refine zC Tl H rfl (Calls.mono HP57 ?_);rintro e w57 ⟨rfl,hd57,hb57⟩;refine zR fun H=>?_;have hz58:=hb57.size;have hr59:=RowAt.bl hr2 hb57;have hd60:=DW.below hd4 hb57;have hg61:=Aa hg5 (Below.mono hb57 (by omega));refine zm H rfl fun H=>zx H rfl rfl fun H=>zx H rfl rfl fun H=>?_;obtain ⟨q62,hq62⟩:∃ q,q = w57.heap.size:=⟨_,rfl⟩;refine Az Bj H rfl fun w62 hr62 hb62 hs62 a H=>?_;rw [←hq62] at H hr62;have hz63:=hb62.size;have hr64:=RowAt.bl hr59 hb62;have hd65:=DW.below hd60 hb62;have hg66:=Aa hg61 (Below.mono hb62 (by omega));refine zT H rfl rfl hr62 fun {w67} hr67 hg67=>?_;have hz68:=hg67.size;have hB68:=Ae (N:=w.heap.size) hg67 (by omega) (by omega);have hr69:=RowAt.gr hr64 hg67;have hd70:=DW.belowAt hd65 w.heap.size hlp hgl HO.out hB68;have hg71:=Aa hg66 hB68;refine za H rfl fun H=>zN (j55 ?_);refine zK H [0,2,3,4,5] rfl fun H=>zr fun j72=>zm H rfl fun H=>zN (j72 ?_);refine zj H rfl (wp_skip (tn (j54 ?_)));refine zs fun j73=>zs fun j74=>?_;have Hs75:=H
    rcases hSN:I5 bs s.k with _ | ⟨tN,kN⟩
    ·have H:=Hs75;refine Ac (zm H rfl fun H=>?_);have HP76:=Ia hd70 (by omega);rw [hSN] at HP76;refine zC Q8 H rfl (Calls.mono HP76 ?_);rintro e w76 ⟨rfl,hd76,hgc76⟩;refine zR fun H=>?_;have hz77:=hgc76.size;have hr78:=RowAt.gr hr69 hgc76;have hg80:=Bg hg71 hgc76;refine zm H rfl fun H=>zx H rfl rfl fun H=>zx H rfl rfl fun H=>?_;obtain ⟨q81,hq81⟩:∃ q,q = w76.heap.size:=⟨_,rfl⟩;refine Az Bj H rfl fun w81 hr81 hb81 hs81 a H=>?_;rw [←hq81] at H hr81;have hz82:=hb81.size;have hr83:=RowAt.bl hr78 hb81;have hd85:=DW.below hd76 hb81;have hg86:=Aa hg80 (Below.mono hb81 (by omega));refine zT H rfl rfl hr81 fun {w87} hr87 hg87=>?_;have hz88:=hg87.size;have hB88:=Ae (N:=w.heap.size) hg87 (by omega) (by omega);have hr89:=RowAt.gr hr83 hg87;have hd91:=DW.belowAt hd85 w.heap.size hlp hgl HO.out hB88;have hg92:=Aa hg86 hB88;refine za H rfl fun H=>zN (j74 ?_);refine zK H [0,2,3,6,7] rfl fun H=>zr fun j93=>zm H rfl fun H=>zN (j93 ?_);refine zj H rfl (wp_skip (tn (j73 ?_)));refine zr fun j94=>zB Ao H rfl fun H=>zm H rfl fun H=>zm H rfl fun H=>zc H rfl fun H=>zg Be H rfl fun H=>?_;have hvI95:View w87 g vi (c::r):=(DW.inn hd91).eq hbk;refine Ah AH H rfl (DW.c10 hd91).1 rfl fun a H=>zC Pe H rfl (Calls.mono (Nv _ _ g w87 hvI95 (by first | omega | (simp only [List.length_cons]; omega)) (DW.glob hd91) (by omega)) ?_);rintro e w96 ⟨⟨v96,rfl⟩,hb96⟩;refine zR fun H=>?_;have hz97:=hb96.size;have hr99:=RowAt.bl hr89 hb96;have hd102:=DW.below hd91 hb96;have hg103:=Aa hg92 (Below.mono hb96 (by omega));refine AU Tryz.underlying22 rfl H rfl rfl fun a H=>ET H rfl rfl fun w104 u104 hb104 a H=>?_;have hz105:=hb104.size;have hr107:=RowAt.bl hr99 hb104;have hd110:=DW.below hd102 hb104;have hg111:=Aa hg103 (Below.mono hb104 (by omega));refine zC CD H rfl (Calls.mono (Aq _ _ _ w104 (by decide)) ?_);rintro e w112 ⟨⟨xe,rfl⟩,hb112⟩;refine zR fun H=>?_;have hz113:=hb112.size;have hr115:=RowAt.bl hr107 hb112;have hd118:=DW.below hd110 hb112;have hg119:=Aa hg111 (Below.mono hb112 (by omega));refine zT H rfl rfl hr115 fun {w120} hr120 hg120=>?_;have hz121:=hg120.size;have hB121:=Ae (N:=w.heap.size) hg120 (by omega) (by omega);have hd125:=DW.belowAt hd118 w.heap.size hlp hgl HO.out hB121;have hg126:=Aa hg119 hB121;refine za H rfl fun H=>zN (j94 ?_);refine zK H [0,2,3] rfl fun H=>wp_ret (?_);refine AR H rfl rfl hr120 ?_;rw [show Z = none from by rw [←HZ.out,KM hbk hq hSL,hSN]];exact ⟨⟨_,_,rfl⟩,⟨_,_,hd125⟩,hg126⟩
    ·have H:=Hs75;refine Ac (zm H rfl fun H=>?_);have HP127:=Ia hd70 (by omega);rw [hSN] at HP127;refine zC Q8 H rfl (Calls.mono HP127 ?_);rintro e w127 ⟨vt127,vi127,rfl,hvt127,hd127,hgc127⟩;have Hs128:=H;obtain ⟨ao127,n127,c127,rfl⟩:=View.slice3 hvt127;have H:=Hs128;refine zR fun H=>?_;have hz129:=hgc127.size;have hr130:=RowAt.gr hr69 hgc127;have hg132:=Bg hg71 hgc127;refine zm H rfl fun H=>zx H rfl rfl fun H=>zx H rfl rfl fun H=>?_;obtain ⟨q133,hq133⟩:∃ q,q = w127.heap.size:=⟨_,rfl⟩;refine Az Bj H rfl fun w133 hr133 hb133 hs133 a H=>?_;rw [←hq133] at H hr133;have hz134:=hb133.size;have hv135:=View.below hvt127 hb133;have hr136:=RowAt.bl hr130 hb133;have hd138:=DW.below hd127 hb133;have hg139:=Aa hg132 (Below.mono hb133 (by omega));refine zT H rfl rfl hr133 fun {w140} hr140 hg140=>?_;have hz141:=hg140.size;have hB141:=Ae (N:=w.heap.size) hg140 (by omega) (by omega);have hv142:=View.kg hv135 hg140;have hr143:=RowAt.gr hr136 hg140;have hd145:=DW.belowAt hd138 w.heap.size hlp hgl HO.out hB141;have hg146:=Aa hg139 hB141;refine za H rfl fun H=>zN (j74 ?_);refine zr fun j147=>zm H rfl fun H=>zN (j147 ?_);refine zi H rfl (zr fun j148=>AV Tryz.underlying50 rfl (AP _ rfl) H rfl hr140 rfl fun a H=>zT H rfl rfl hr143 fun {w149} hr149 hg149=>?_);have hz150:=hg149.size;have hB150:=Ae (N:=w.heap.size) hg149 (by omega) (by omega);have hv151:=View.kg hv142 hg149;have hd154:=DW.belowAt hd145 w.heap.size hlp hgl HO.out hB150;have hg155:=Aa hg146 hB150;refine za H rfl fun H=>zN (j148 ?_);refine zK H [0,2,3] rfl fun H=>wp_ret (tr (?_));refine AR H rfl rfl hr149 ?_;rw [show Z = some (tN,kN) from by rw [←HZ.out,KM hbk hq hSL,hSN]];exact ⟨_,_,rfl,hv151,hd154,hg155⟩
   ·have H:=Hs56;refine Ac (zm H rfl fun H=>?_);have HP156:=Ha hd4 (by omega);rw [hSL] at HP156;refine zC Tl H rfl (Calls.mono HP156 ?_);rintro e w156 ⟨vt156,vi156,rfl,hvt156,hd156,hgc156⟩;have Hs157:=H;obtain ⟨ao156,n156,c156,rfl⟩:=View.slice3 hvt156;have H:=Hs157;refine zR fun H=>?_;have hz158:=hgc156.size;have hr159:=RowAt.gr hr2 hgc156;have hg160:=Bg hg5 hgc156;refine zm H rfl fun H=>zx H rfl rfl fun H=>zx H rfl rfl fun H=>?_;obtain ⟨q161,hq161⟩:∃ q,q = w156.heap.size:=⟨_,rfl⟩;refine Az Bj H rfl fun w161 hr161 hb161 hs161 a H=>?_;rw [←hq161] at H hr161;have hz162:=hb161.size;have hv163:=View.below hvt156 hb161;have hr164:=RowAt.bl hr159 hb161;have hd165:=DW.below hd156 hb161;have hg166:=Aa hg160 (Below.mono hb161 (by omega));refine zT H rfl rfl hr161 fun {w167} hr167 hg167=>?_;have hz168:=hg167.size;have hB168:=Ae (N:=w.heap.size) hg167 (by omega) (by omega);have hv169:=View.kg hv163 hg167;have hr170:=RowAt.gr hr164 hg167;have hd171:=DW.belowAt hd165 w.heap.size hlp hgl HO.out hB168;have hg172:=Aa hg166 hB168;refine za H rfl fun H=>zN (j55 ?_);refine zK H [0,2,3,4,5] rfl fun H=>zr fun j173=>zm H rfl fun H=>zN (j173 ?_);refine zi H rfl (zr fun j174=>AV Tryz.underlying50 rfl (AP _ rfl) H rfl hr167 rfl fun a H=>zT H rfl rfl hr170 fun {w175} hr175 hg175=>?_);have hz176:=hg175.size;have hB176:=Ae (N:=w.heap.size) hg175 (by omega) (by omega);have hv177:=View.kg hv169 hg175;have hd179:=DW.belowAt hd171 w.heap.size hlp hgl HO.out hB176;have hg180:=Aa hg172 hB176;refine za H rfl fun H=>zN (j174 ?_);refine wp_ret (tr (?_));refine AR H rfl rfl hr175 ?_;rw [show Z = some (tL,kL) from by rw [←HZ.out,O4 hbk hq hSL]];exact ⟨_,_,rfl,hv177,hd179,hg180⟩
end
section
open Go.ChangeShapes Go.WideShapes Go.ChangeAt Go.RowKit
variable {B p g:Nat} {bs:List UInt8} {vr ve vst vo vi:Value} {s:DT} {w:World}
def UF (B p g:Nat) (bs:List UInt8) (vr ve vst vo:Value) (s:DT) (t:TT) (vt:Value) (q2 q3:Nat) (w:World) (e:Ending) (w':World):Prop:=e = .returned (.tuple #[])∧∃ w1 vi' t' k',(t',k') = Fy bs (t,s.k)∧DW B p g bs vr ve vst vo vi' { s with k:=k' } w'∧RowAt w' q2 (AA vt t')∧RowAt w' q3 [.nilIface]∧w.grownBy w1 (some p)∧w1.grownBy w' (some q2)∧View w' g vt t'.raw
theorem or_att {k:Nat} (h:k≤3):bits .or .u8 (k:Int) 128 = ((k+128:Nat):Int):=by
 obtain rfl | rfl | rfl | rfl:k = 0∨k = 1∨k = 2∨k = 3:=by omega
 all_goals kernel_rfl
theorem Hi {fn:Func} {N:Nat} {a:Act} {l:List (Nat × Value)} {R:Ending→World→Prop} {w:World} (hres:fn.results = #[]) (H:Has N [] a l) (h:R (.returned (.tuple #[])) w):bodyPost Tryz.prog fn R .normal a w:=
 bodyPost_end (results_none hres _ _ _) H.defers h
set_option maxRecDepth 100000 in
set_option maxHeartbeats 100000000 in
theorem PO {q1 q2 q3 N0:Nat} {t:TT} {vt:Value} {u:FrameMode} (h:DW B p g bs vr ve vst vo vi s w) (hm:bs.length≤90000000) (h3:RowAt w q3 [.nilIface]) (h1:RowAt w q1 [.pointer (some ⟨p,0,none⟩)]) (h2:RowAt w q2 (AA vt t)) (hv:View w g vt t.raw)
  (hsep:t.sep = false) (hat:t.att≤3) (hq2:q2≠p) (hq3:q3≠p) (hq23:q3≠q2) (hpn:p < N0) (hgn:g < N0) (hon:∀ k,vst.ownBlock = some k→k < N0) (hqn:N0≤q2) :
  CallsD Tryz.prog 49 #[.pointer (some ⟨q3,0,none⟩),.pointer (some ⟨q1,0,none⟩),.pointer (some ⟨q2,0,none⟩)] u w fun e u' w'=>u' = u∧UF B p g bs vr ve vst vo s t vt q2 q3 w e w':=by
 have hl2:=World.block_lt_of_cell? _ _ (h2 0 _ rfl).1;have hl3:=World.block_lt_of_cell? _ _ (h3 0 _ rfl).1;have hgl:=h.gl
 have hm:bs.length≤100000000:=by omega
 have hl2:q2 < w.heap.size:=hl2;have hl3:q3 < w.heap.size:=hl3
 have hatt:IY t≤3:=by unfold IY; rw [hsep]; simpa using hat
 have hsep9:(AA vt t).set 1 (.int .u8 ((IY t+128:Nat):Int)) = AA vt { t with sep:=true }:=by
  unfold AA IY;rw [hsep];simp
 refine Rp Tryz.func49 rfl rfl rfl fun a H=>zr fun j1=>Ah Cg H rfl (h3 0 _ rfl).1 rfl fun a H=>Ld (b:=true) H rfl (.inl ⟨rfl,rfl⟩) rfl fun a H=>zm H rfl fun H=>zo H rfl (Ah Ba H rfl (h1 0 _ rfl).1 rfl fun a H=>zo H rfl ?_);have HT:=LF 58 h hm h.le;rw [show (((58:UInt8).toNat:Nat):Int) = 58 from rfl] at HT;refine zC pf_try H rfl (Calls.mono HT ?_);rintro e w2 ⟨b,vi2,k2,rfl,hbk2,hd2,hg2⟩;refine zR fun H=>?_;have Hs2:=H
 rcases hbk:bs.drop s.k with _ | ⟨c,r⟩
 ·have H:=Hs2;rw [hbk] at hbk2;have Hs3:=H
  obtain ⟨rfl,rfl⟩:b = false∧k2 = s.k:=by simpa using hbk2
  have H:=Hs3;refine zp H rfl rfl fun H=>zN (j1 ?_);refine zj H rfl (wp_skip (Hi (by rfl) H ?_));have hz2:=hg2.size;exact ⟨rfl,w2,_,t,s.k,Eq.symm (show Fy bs (t,s.k) = (t,s.k) from LQ hbk),hd2,h2.grown hg2 hl2 hq2,h3.grown hg2 hl3 hq3,hg2,Bx (Below.refl _ _) _,hv.kept (hg2.block g hgl (fun e=>by injection e with e; exact h.gp e))⟩
 ·have H:=Hs2
  by_cases hc:c.toNat = 58
  ·rw [hbk] at hbk2;have Hs4:=H
   obtain ⟨rfl,rfl⟩:b = true∧k2 = goT bs s.k 1:=by simp only [show (58:UInt8).toNat = 58 from rfl,if_pos hc] at hbk2; simpa using hbk2
   have H:=Hs4;refine zp H rfl rfl fun H=>zN (j1 ?_);refine zi H rfl (Ac ?_);have hr2:=h2.grown hg2 hl2 hq2;refine zg Ud H rfl fun H=>Ah A5 H rfl (hr2 1 _ rfl).1 rfl fun a H=>y_or (r:=((IY t+128:Nat):Int)) H rfl rfl (or_att hatt) rfl fun a H=>zg Ud H rfl fun H=>Aj u8_size H rfl rfl rfl (hr2 1 _ rfl).1 (hr2 1 _ rfl).2 rfl ?_;have hr9:=hr2.set 1 (by simp [AA]) (.int .u8 ((IY t+128:Nat):Int));have hg9:=AF w2 q2 1 (.int .u8 ((IY t+128:Nat):Int));generalize w2.setCell ⟨q2,1,none⟩ (.int .u8 ((IY t+128:Nat):Int)) = w9 at hr9 hg9 ⊢;refine wpList_nil (Hi (by rfl) H ?_);have hz2:=hg2.size;have hB9:=Ae (N:=N0) hg9 hqn (by omega);exact ⟨rfl,w2,_,{ t with sep:=true },goT bs s.k 1,Eq.symm (show Fy bs (t,s.k) = ({ t with sep:=true },goT bs s.k 1) from by rw [Es hbk,if_pos hc]),hd2.belowAt N0 hpn hgn hon hB9,by rw [hsep9] at hr9; exact hr9,(h3.grown hg2 hl3 hq3).grown hg9 (by omega) hq23,hg2,hg9,(hv.kept (hg2.block g hgl (fun e=>by injection e with e; exact h.gp e))).kept (hB9.block g hgn)⟩
  ·rw [hbk] at hbk2;have Hs5:=H
   obtain ⟨rfl,rfl⟩:b = false∧k2 = s.k:=by simp only [show (58:UInt8).toNat = 58 from rfl,if_neg hc] at hbk2; simpa using hbk2
   have H:=Hs5;refine zp H rfl rfl fun H=>zN (j1 ?_);refine zK H [0,1,2,8] rfl fun H=>zj H rfl (wp_skip (Hi (by rfl) H ?_));have hz2:=hg2.size;exact ⟨rfl,w2,_,t,s.k,Eq.symm (show Fy bs (t,s.k) = (t,s.k) from by rw [Es hbk,if_neg hc]),hd2,h2.grown hg2 hl2 hq2,h3.grown hg2 hl3 hq3,hg2,Bx (Below.refl _ _) _,hv.kept (hg2.block g hgl (fun e=>by injection e with e; exact h.gp e))⟩
set_option maxRecDepth 100000 in
set_option maxHeartbeats 100000000 in
theorem Ot {q1 q2 q3:Nat} {te:TypeId} {xe:Value} {u:FrameMode} (h3:RowAt w q3 [.iface te xe]) :
  CallsD Tryz.prog 49 #[.pointer (some ⟨q3,0,none⟩),.pointer (some ⟨q1,0,none⟩),.pointer (some ⟨q2,0,none⟩)] u w fun e u' w'=>u' = u∧(e = .returned (.tuple #[])∧w' = w):=by
 refine Rp Tryz.func49 rfl rfl rfl fun a H=>zr fun j6=>Ah Cg H rfl (h3 0 _ rfl).1 rfl fun a H=>Ld (b:=false) H rfl (.inr ⟨_,_,rfl,rfl⟩) rfl fun a H=>zm H rfl fun H=>zf H rfl fun H=>zf H rfl fun H=>zp H rfl rfl fun H=>zN (j6 ?_);refine zj H rfl (wp_skip (Hi (by rfl) H ?_));exact ⟨rfl,rfl⟩
end
section
theorem QV:∀ (l:List UInt8) (acc:Nat),acc≤Ik acc l
 | [],acc=>Nat.le_refl _
 | c::l,acc=>by
  unfold Ik;have:=QV l (acc * 10+(c.toNat - 48));omega
theorem JH:∀ (l:List UInt8) (acc:Nat),(∀ c ∈ l,AZ c = true)→acc≤4294967295→Lib.parseUintM 4294967295 acc l = if Ik acc l≤4294967295 then .ok (Ik acc l) else .range
 | [],acc,_,h=>by unfold Lib.parseUintM Ik; rw [if_pos h]
 | c::l,acc,hd,h=>by
  have hc:=hd c (by simp)
  have hc2:48≤c.toNat∧c.toNat≤57:=by unfold AZ at hc; simpa using hc
  unfold Lib.parseUintM Ik;rw [if_pos hc2,if_neg (by omega)]
  by_cases hv:4294967295 < acc * 10+(c.toNat - 48)
  ·rw [if_pos hv,if_neg (by have:=QV l (acc * 10+(c.toNat - 48)); omega)]
  ·rw [if_neg hv];exact JH l _ (fun d hd'=>hd d (by simp [hd'])) (by omega)
theorem Oe {l:List UInt8} (hne:l≠[]) (hd:∀ c ∈ l,AZ c = true):Lib.parseIntB 32 l = if Ik 0 l≤2147483647 then .ok ((Ik 0 l:Nat):Int) else .range:=by
 obtain ⟨c,r,rfl⟩:=List.exists_cons_of_ne_nil hne;have hc:=hd c (by simp)
 have hc2:48≤c.toNat∧c.toNat≤57:=by unfold AZ at hc; simpa using hc
 have h1:=JH (c::r) 0 hd (by omega);unfold Lib.parseIntB;simp only;rw [if_neg (by omega)];unfold Lib.parseUintB;rw [if_neg (by simp),show 2 ^ 32 - 1 = 4294967295 from rfl,h1]
 by_cases hv:Ik 0 (c::r)≤4294967295
 ·rw [if_pos hv];simp only
  by_cases h2:Ik 0 (c::r)≤2147483647
  ·rw [if_neg (by omega),if_neg (by omega),if_neg (by omega),if_pos h2]
  ·rw [if_pos (by omega),if_neg h2]
 ·rw [if_neg hv,if_neg (by omega)]
theorem Iv {n m:Nat} {s:List UInt8} (h:BX 0 n s = some (0,m)):m = n:=by
 unfold BX at h
 rcases hf:Ev 0 s with _ | ⟨k1,n1⟩
 ·rw [hf] at h; cases h
 ·rw [hf] at h;simp only at h
  have h1:(k1 = 0∧n1 = 0)∨k1 = 4:=by
   rcases s with _ | ⟨c,r⟩
   ·injection hf with hf; injection hf with a b; exact .inl ⟨a.symm,b.symm⟩
   ·rw [DS] at hf
    split at hf
    ·split at hf
     ·cases hf
     ·injection hf with hf; injection hf with a b; exact .inr a.symm
    ·injection hf with hf; injection hf with a b; exact .inl ⟨a.symm,b.symm⟩
  rcases he:He k1 (s.drop n1) with _ | ⟨k2,n2⟩
  ·rw [he] at h; cases h
  ·rw [he] at h;simp only at h
   have h2:(k2 = k1∧n2 = 0)∨k2 = 4:=by
    rcases hS:s.drop n1 with _ | ⟨c,_ | ⟨d,r⟩⟩
    ·rw [hS] at he; injection he with he; injection he with a b; exact .inl ⟨a.symm,b.symm⟩
    ·rw [hS] at he; injection he with he; injection he with a b; exact .inl ⟨a.symm,b.symm⟩
    ·rw [hS,Fs] at he
     split at he
     ·split at he
      ·split at he
       ·cases he
       ·injection he with he; injection he with a b; exact .inr a.symm
      ·injection he with he; injection he with a b; exact .inr a.symm
     ·injection he with he; injection he with a b; exact .inl ⟨a.symm,b.symm⟩
   have h3:(Fq k2 (s.drop (n1+n2)) = (k2,0))∨(Fq k2 (s.drop (n1+n2))).1 = 4:=by
    rcases hS:s.drop (n1+n2) with _ | ⟨c,r⟩
    ·exact .inl rfl
    ·rw [FV]
     split
     ·exact .inr rfl
     ·exact .inl rfl
   split at h
   ·injection h with h
    injection h with a b
    rcases h3 with h3 | h3
    ·rw [h3] at a b;simp only at a b;omega
    ·omega
   ·cases h
theorem M0 {p:UInt8→Bool}:∀ (l:List UInt8) (c:UInt8),c ∈ l.take (As p l)→p c = true
 | [],c,h=>by simp at h
 | d::l,c,h=>by
  rw [As] at h
  split at h
  ·rename_i hp
   rw [List.take_succ_cons] at h
   rcases List.mem_cons.1 h with rfl | h
   ·exact hp
   ·exact M0 l c h
  ·simp at h
theorem Tw {l:List UInt8} {x:NT} (h:EP l = some x) (hn:x.neg = false) (hk:x.kind = 0):Fp x l = l.take x.size∧(∀ c ∈ l.take x.size,AZ c = true):=by
 rcases l with _ | ⟨c,r⟩
 ·cases h
 ·refine ⟨?_,?_⟩
  ·unfold Fp;simp only;rw [hn,hk,if_neg (by simp),if_neg (by simp)]
  ·rw [DC] at h
   split at h
   ·rcases hb:Cs (r.drop (skT false r)) with _ | ⟨k,n⟩
    ·rw [hb] at h; cases h
    ·rw [hb] at h; injection h with h; subst h; cases hn
   ·rcases hb:Cs (c::r) with _ | ⟨k,n⟩
    ·rw [hb] at h; cases h
    ·rw [hb] at h
     injection h with h
     subst h;simp only at hk ⊢;subst hk;rw [CP] at hb
     split at hb
     ·rename_i h48
      have hone:n = 1→∀ d ∈ (c::r).take n,AZ d = true:=by
       intro hn1 d hd;rw [hn1] at hd;simp at hd;subst hd;unfold AZ;simp;omega
      rcases r with _ | ⟨d,r2⟩
      ·exact hone (Iv hb)
      ·simp only at hb
       split at hb
       ·unfold Iw at hb
        split at hb
        ·cases hb
        ·split at hb
         ·injection hb with hb; injection hb with a b; cases a
         ·cases hb
       ·split at hb
        ·unfold Jo at hb
         split at hb
         ·injection hb with hb; injection hb with a b; cases a
         ·cases hb
        ·exact hone (Iv hb)
     ·split at hb
      ·rename_i h49
       have hn1:=Iv hb;intro d hd;rw [hn1,Nat.add_comm,List.take_succ_cons] at hd
       rcases List.mem_cons.1 hd with rfl | hd
       ·unfold AZ; simp; omega
       ·exact M0 r d hd
      ·split at hb
       ·exfalso
        have:∀ (n m:Nat) (s:List UInt8),BX 4 n s = some (0,m)→False:=by
         intro n m s h;unfold BX at h
         rcases hf:Ev 4 s with _ | ⟨k1,n1⟩
         ·rw [hf] at h; cases h
         ·rw [hf] at h;simp only at h
          have h1:k1 = 4:=by
           rcases s with _ | ⟨c,r⟩
           ·injection hf with hf; injection hf with a b; exact a.symm
           ·rw [DS] at hf
            split at hf
            ·split at hf
             ·cases hf
             ·injection hf with hf; injection hf with a b; exact a.symm
            ·injection hf with hf; injection hf with a b; exact a.symm
          subst h1
          rcases he:He 4 (s.drop n1) with _ | ⟨k2,n2⟩
          ·rw [he] at h; cases h
          ·rw [he] at h;simp only at h
           have h2:k2 = 4:=by
            rcases hS:s.drop n1 with _ | ⟨c,_ | ⟨d,r⟩⟩
            ·rw [hS] at he; injection he with he; injection he with a b; exact a.symm
            ·rw [hS] at he; injection he with he; injection he with a b; exact a.symm
            ·rw [hS,Fs] at he
             split at he
             ·split at he
              ·split at he
               ·cases he
               ·injection he with he; injection he with a b; exact a.symm
              ·injection he with he; injection he with a b; exact a.symm
             ·injection he with he; injection he with a b; exact a.symm
           subst h2
           split at h
           ·injection h with h
            injection h with a b
            rcases hS:s.drop (n1+n2) with _ | ⟨c,r⟩
            ·rw [hS] at a; cases a
            ·rw [hS,FV] at a
             split at a <;> cases a
           ·cases h
        exact this _ _ _ hb
       ·cases hb
def CJ (bs:List UInt8) (k:Nat):Option (TT × Nat):=match bs.drop k with
 | []=>none
 | c::r=>if c.toNat = 91 then D8 bs k else if Bb false (c::r)≠0 then some (AD bs k 2 (Bb false (c::r)) 1)
  else match EP (c::r) with
   | none=>none
   | some x=>if x.neg = false∧x.kind = 0∧Ik 0 (Fp x (c::r))≤2147483647 then some (AD bs k 2 x.size 3) else none
theorem D2 (bs:List UInt8) (k:Nat):Bh bs k = (CJ bs k).map (Fy bs):=by
 unfold Bh CJ
 rcases bs.drop k with _ | ⟨c,r⟩
 ·rfl
 ·rfl
end
section
open Go.ChangeShapes Go.WideShapes Go.ChangeAt Go.RowKit
set_option maxRecDepth 100000 in
set_option maxHeartbeats 4000000 in
theorem PC (c:UInt8) (w:World):Calls Tryz.prog 62 #[.int .u8 (c.toNat:Int)] w fun e w'=>e = .returned (.bool (tnC c))∧w = w':=by
 have bc:=AM c;have hn:tnC c = (c.toNat == 45 || (c.toNat == 95 || ((decide (48≤c.toNat) && decide (c.toNat≤57)) || (decide (97≤c.toNat) && decide (c.toNat≤122) || decide (65≤c.toNat) && decide (c.toNat≤90))))):=rfl;generalize c.toNat = n at *;have HN:=hid hn;clear hn
 go_enter Tryz.func62,Tryz.ntmps62
 go_wp2
 all_goals
  go_ret
  refine ⟨?_,rfl⟩;rw [HN.out]
  first
  | (refine Fm ?_; simp; omega)
  | (refine Fm ?_; simp)
set_option maxRecDepth 100000 in
set_option maxHeartbeats 4000000 in
theorem Mq (c:UInt8) (w:World):Calls Tryz.prog 64 #[.int .u8 (c.toNat:Int)] w fun e w'=>e = .returned (.bool (AQ c))∧w = w':=by
 have bc:=AM c;have hn:AQ c = (decide (48≤c.toNat) && decide (c.toNat≤57) || (decide (97≤c.toNat) && decide (c.toNat≤102) || decide (65≤c.toNat) && decide (c.toNat≤70))):=rfl;generalize c.toNat = n at *;have HN:=hid hn;clear hn
 go_enter Tryz.func64,Tryz.ntmps64
 go_wp2
 all_goals
  go_ret
  refine ⟨?_,rfl⟩;rw [HN.out]
  first
  | (refine Fm ?_; simp; omega)
  | (refine Fm ?_; simp)
set_option maxRecDepth 100000 in
set_option maxHeartbeats 4000000 in
theorem Jq (c:UInt8) (w:World):Calls Tryz.prog 63 #[.int .u8 (c.toNat:Int)] w fun e w'=>e = .returned (.bool (EN c))∧w = w':=by
 have bc:=AM c;have hn:EN c = (c.toNat == 46 || (c.toNat == 126 || (c.toNat == 33 || (c.toNat == 36 || (c.toNat == 38 || (c.toNat == 40 || (c.toNat == 41 || (c.toNat == 42 || (c.toNat == 43 || (c.toNat == 44 || (c.toNat == 59 || c.toNat == 61))))))))))):=rfl;generalize c.toNat = n at *;have HN:=hid hn;clear hn
 go_enter Tryz.func63,Tryz.ntmps63
 go_wp2
 all_goals
  go_ret
  refine ⟨?_,rfl⟩;rw [HN.out];clear HN
  first
  | (refine Fm ?_; (try simp only [beq_iff_eq,beq_eq_false_iff_ne,ne_eq] at *); simp; omega)
  | (refine Fm ?_; simp)
end
section
open Go.ChangeShapes Go.WideShapes Go.ChangeAt Go.RowKit
variable {B p g:Nat} {bs:List UInt8} {vr ve vst vo vi:Value} {s:DT} {w:World}
def ErrV (w:World) (e:Ending) (w':World):Prop:=(∃ t x,e = .returned (.iface t x))∧Below w.heap.size w w'
set_option maxRecDepth 100000 in
set_option maxHeartbeats 4000000 in
theorem Bd (h:DW B p g bs vr ve vst vo vi s w) (v:Value) (l:List UInt8) (hv:View w g v l) (hl:l.length≤bs.length - s.k) (hm:bs.length≤90000000) (n:Nat) :
  Calls Tryz.prog 65 #[.pointer (some ⟨p,0,none⟩),v,.int .i64 (n:Int)] w (ErrV w):=by
 obtain ⟨c10,f10⟩:=h.c10;have hlp:=h.lt;obtain ⟨ao,cp,rfl⟩:=h.inn.slice;obtain ⟨ao2,cp2,rfl⟩:=hv.slice;have hcap:=h.inn.cap;have hlen:(bs.drop s.k).length = bs.length - s.k:=List.length_drop
 obtain ⟨q,hq⟩:∃ q:Nat,min (n:Int) (l.length:Int) = (q:Int)∧q≤l.length:=by
  by_cases h1:(n:Int)≤(l.length:Int)
  ·exact ⟨n,Int.min_eq_left h1,by omega⟩
  ·exact ⟨l.length,Int.min_eq_right (by omega),Nat.le_refl _⟩
 obtain ⟨hq1,hq2⟩:=hq;generalize (bs.drop s.k).length = L at *;generalize l.length = m at *
 have hk0:(0:Int)≤(L:Int) - (m:Int)+(q:Int):=by omega
 have hk1:(L:Int) - (m:Int)+(q:Int)≤(cp:Int):=by omega
 have hk2:(L:Int)≤90000000:=by omega
 have hk3:(m:Int)≤(L:Int):=by omega
 clear h hv hlen
 go_enter Tryz.func65,Tryz.ntmps65
 go_upto_region 1 with fail
 have hw1:IntKind.i64.wrap ((L:Int) - (m:Int)) = (L:Int) - (m:Int):=IntWalk.i64_in _ (by omega);have hw2:IntKind.i64.wrap ((L:Int) - (m:Int)+(q:Int)) = (L:Int) - (m:Int)+(q:Int):=IntWalk.i64_in _ (by omega);have KA:=hid fun (o:Obj)=>(((Below.refl _ w).alloc (Nat.le_refl _) o).cell (p:=⟨p,10,none⟩) hlp).trans c10
 go_region_held3 (fun w'=>w'.cell? ⟨p,10,none⟩ = some (.slice ao L cp)) (first | with_reducible exact c10 | with_reducible exact KA.out _ | with_reducible exact K4.out | go_keep)
  ((go_at_call 47; refine (Aq _ _ _ _ (by decide)).mono ?_; rintro e w4 ⟨⟨x,rfl⟩,hb4⟩; have K4:=hid ((hb4.cell (p:=⟨p,10,none⟩) (by first | exact hlp | (simp; omega))).trans (by first | exact c10 | exact KA.out _)); have HB4:Hid (Below w.heap.size w w4):=hid (by first | exact hb4 | exact ((Below.refl _ w).alloc (Nat.le_refl _) _).trans (hb4.mono (by simp)) | exact (((Below.refl _ w).alloc (Nat.le_refl _) _).drew).trans (hb4.mono (by simp)))))
 all_goals
  go_wp2_with fail
  go_ret
  exact ⟨⟨_,_,rfl⟩,HB4.out⟩
end
section
open Go.ChangeShapes Go.WideShapes Go.ChangeAt Go.RowKit
def GO (l:List UInt8):Int:=match DO l with
 | none=>-1
 | some (p,_)=>(p.length:Int)
theorem Kn:∀ (l:List UInt8),(∀ j (h:j < l.length),l[j].toNat≠47)→DO l = none
 | [],_=>rfl
 | c::l,h=>by
  have h0:c.toNat≠47:=h 0 (by simp);have ih:=Kn l (fun j hj=>h (j+1) (by simp; omega));unfold DO;rw [ih];simp [h0]
theorem LO:∀ (l:List UInt8) (j:Nat) (h:j < l.length),l[j].toNat = 47→(∀ i (hi:i < l.length),j < i→l[i].toNat≠47)→DO l = some (l.take j,l.drop (j+1))
 | [],j,h,_,_=>by simp at h
 | c::l,0,_,h1,h2=>by
  have ih:=Kn l (fun i hi=>h2 (i+1) (by simp; omega) (by omega));have h0:c.toNat = 47:=h1;unfold DO;rw [ih];simp [h0]
 | c::l,j+1,h,h1,h2=>by
  have ih:=LO l j (by simp at h; omega) h1 (fun i hi hj=>h2 (i+1) (by simp; omega) (by omega));unfold DO;rw [ih]
  try rfl
set_option maxRecDepth 100000 in
theorem Oc (v:Value) (l:List UInt8) (g:Nat) (w:World) (hv:View w g v l) (hm:l.length≤100000000) :
  Calls Tryz.prog 75 #[v,.int .u8 47] w fun e w'=>e = .returned (.int .i64 (GO l))∧w = w':=by
 obtain ⟨ao,cp,rfl⟩:=hv.slice;have HV:=hid hv;clear hv
 go_enter Tryz.func75,Tryz.ntmps75
 go_wp2_with fail
 go_loop [5] (fun i=>∃ k:Nat,k≤l.length∧i = .int .i64 ((k:Int) - 1)∧∀ j (h:j < l.length),k≤j→l[j].toNat≠47) (fun i=>(intOf i+1).toNat)
 case atStart=>exact ⟨l.length,Nat.le_refl _,rfl,fun j h hk=>by omega⟩
 case round=>
  obtain ⟨k,hk,rfl,hno⟩:=hrel;have HNO:=hid hno;clear hno
  by_cases h0:k = 0
  ·have hge:¬ (0:Int)≤(k:Int) - 1:=by omega
   have HF:Hid (GO l = -1):=hid (by unfold GO; rw [Kn l (fun j h=>HNO.out j h (by omega))])
   go_wp2_with fail
   go_ret
   exact ⟨by rw [HF.out]; try rfl,rfl⟩
  ·obtain ⟨m,rfl⟩:∃ m,k = m+1:=⟨k - 1,by omega⟩;rw [show ((m+1:Nat):Int) - 1 = (m:Int) by omega]
   have hlt:m < l.length:=by omega
   have hlt2:(m:Int).toNat < l.length:=by omega
   have hge2:l[(m:Int).toNat]'hlt2 = l[m]:=rfl
   have hmI:(0:Int)≤(m:Int):=by omega
   obtain ⟨c,hc⟩:∃ c,c = l[m]:=⟨_,rfl⟩;rw [←hc] at hge2;have HC:=hid hc;have bc:=AM c;clear hc h0
   by_cases h47:c.toNat = 47
   ·have e1:((c.toNat:Int) == 47) = true:=by simp; omega
    have HF:Hid (GO l = (m:Int)):=hid (by
     unfold GO;rw [LO l m hlt (by rw [←HC.out]; exact h47) (fun i hi hj=>HNO.out i hi (by omega))];simp
     omega)
    clear h47
    go_wp2_with (first | ((with_reducible refine A0 ?_); refine Ai _ (by rfl) _ _ 22 5 rfl Tryz.underlying22 Ag _ _ _ rfl HV.out _ (m:Int) rfl (by omega) hlt2 ?_; intro ad1 hc1; rw [hge2] at hc1) | fail)
    go_ret
    exact ⟨by rw [HF.out]; try rfl,rfl⟩
   ·have e1:((c.toNat:Int) == 47) = false:=by simp; omega
    have HX:=hid h47;clear h47
    go_wp2_with (first | ((with_reducible refine A0 ?_); refine Ai _ (by rfl) _ _ 22 5 rfl Tryz.underlying22 Ag _ _ _ rfl HV.out _ (m:Int) rfl (by omega) hlt2 ?_; intro ad1 hc1; rw [hge2] at hc1) | fail)
    go_round
    case rel=>
     refine ⟨m,by omega,by first | rfl | simp,fun j h hj=>?_⟩
     by_cases hjk:m+1≤j
     ·exact HNO.out j h hjk
     ·obtain rfl:j = m:=by omega
      rw [←HC.out];exact HX.out
    case measure=>first | (simp [intOf]; done) | (simp [intOf]; omega)
end
section
open Go.ChangeShapes Go.WideShapes Go.ChangeAt Go.RowKit
def BO:Nat→List UInt8→List Nat
 | n,[]=>[n]
 | n,c::l=>if c.toNat = 46 then n::BO 0 l else BO (n+1) l
theorem Ji:∀ (l:List UInt8) (n:Nat),GR (decide (0 < n)) l = (BO n l).all (fun m=>decide (0 < m))
 | [],n=>by simp [GR,BO]
 | c::l,n=>by
  unfold GR BO
  split
  ·have:=Ji l 0;simp at this;simp [this]
  ·have:=Ji l (n+1);simp at this;simp [this]
theorem Qy (l:List UInt8) (s i:Nat) (hi:i < l.length) (h:s≤i):BO (i - s) (l.drop i) = if l[i].toNat = 46 then (i - s)::BO 0 (l.drop (i+1)) else BO (i+1 - s) (l.drop (i+1)):=by
 rw [List.drop_eq_getElem_cons hi]
 show (if l[i].toNat = 46 then (i - s)::BO 0 (l.drop (i+1)) else BO (i - s+1) (l.drop (i+1))) = _
 rw [show i+1 - s = i - s+1 by omega]
def LensAt (xs:List Value) (ns:List Nat):Prop:=xs.length = ns.length∧∀ (j n:Nat),ns[j]? = some n→∃ (ao:Option Addr) (cp:Nat),xs[j]? = some (Value.slice ao n cp)
theorem LensAt.nil:LensAt [] []:=⟨rfl,fun j n h=>by simp at h⟩
theorem LensAt.add {xs:List Value} {ns:List Nat} (h:LensAt xs ns) (ao:Option Addr) (n cp:Nat):LensAt (xs++[Value.slice ao n cp]) (ns++[n]):=by
 refine ⟨by simp [h.1],fun j m hj=>?_⟩
 by_cases hl:j < ns.length
 ·rw [List.getElem?_append_left hl] at hj;obtain ⟨a,c,hx⟩:=h.2 j m hj;exact ⟨a,c,by rw [List.getElem?_append_left (by rw [h.1]; exact hl)]; exact hx⟩
 ·rw [List.getElem?_append_right (by omega)] at hj
  have h0:j - ns.length = 0:=by
   rcases hk:j - ns.length with _ | k
   ·rfl
   ·rw [hk] at hj; simp at hj
  rw [h0] at hj;simp at hj;subst hj;exact ⟨ao,cp,by rw [List.getElem?_append_right (by rw [h.1]; omega),h.1,h0]; rfl⟩
section
variable {P:Program} {ops:Array Oper} {rest:List Oper} {o:Oper} {a:Act} {Q:Exit→Act→World→Prop}
theorem Gr (w:World) (hgd:o.guard = none) (s x:Operand) (t:TypeId) (ho:o.op = .call { callee:=.builtin .append,args:=#[s,x],argTypes:=#[t,t] })
  (B:Nat) (e:TypeId) (ht:P.underlying t = some (.slice e)) (hinfo:(P.info? e).map (fun i=>(i.zero,i.size,i.bytes)) = some (some (.slice none 0 0),1,24))
  (v:Value) (n:Nat) (xs:List Value) (hs:a.eval s = v) (hown:w.ownsRow B e 1 v n xs) {w0:World} (hb:Below B w0 w) (hB:B≤w0.heap.size)
  (ao:Option Addr) (m cp c:Nat) (hx:a.eval x = .slice (some ⟨w.heap.size,0,none⟩) 1 c) (hn:n≤100000000)
  (h:∀ v' w',w'.ownsRow B e 1 v' (n+1) (xs++[.slice ao m cp])→Below B w0 w'→(∃ q cap,v' = .slice (some ⟨q,0,none⟩) (n+1) cap)→wpList P ops Q rest (a.put o.dst v') w') :
  wpList P ops Q (o::rest) a (w.alloc (.cells #[.slice ao m cp] e)):=by
 obtain ⟨i,hi,hz,hz1,hz2⟩:∃ i,P.info? e = some i∧i.zero = some (.slice none 0 0)∧i.size = 1∧i.bytes = 24:=by
  cases hi:P.info? e with
  | none=>rw [hi] at hinfo; cases hinfo
  | some i=>rw [hi] at hinfo; simp at hinfo; exact ⟨i,rfl,hinfo.1,hinfo.2.1,hinfo.2.2⟩
 have hsz:=hb.size;refine wpList_append_lies _ hgd s x t ho B e i (.slice none 0 0) 1 24 ht hi hz hz1 hz2 rfl (by decide) v n xs hs (World.ownsRow.alloc hown _) ⟨w.heap.size,0,none⟩ 1 c [.slice ao m cp] hx rfl ?_ (by intro u hu; simp at hu; subst hu; rfl) (by decide) (by unfold maxLen; omega) (by omega) (by simp; omega) _ rfl ?_
 ·intro j u hj
  match j,hj with
  | 0,hj=>simp at hj; subst hj; simp [Addr.add]
 ·intro q cap w' hown' hgrow _ _;refine h _ w' hown' ?_ ⟨q,cap,rfl⟩;exact (hb.alloc (by omega) _).grown hgrow (by simp; omega) (fun k hk=>(World.ownsRow.lt hown k hk).1)
end
theorem Rn:(Tryz.prog.info? 22).map (fun i=>(i.zero,i.size,i.bytes)) = some (some (.slice none 0 0),1,24):=by kernel_rfl
def UD (ns:List Nat) (w:World) (e:Ending) (w':World):Prop:=∃ v xs,e = .returned v∧w'.ownsRow w.heap.size 22 1 v ns.length xs∧LensAt xs ns∧Below w.heap.size w w'
theorem nilRow (w:World) (B:Nat) (e:TypeId):w.ownsRow B e 1 (.slice none 0 0) 0 []:=⟨rfl,.inl ⟨rfl,rfl⟩⟩
set_option maxRecDepth 100000 in
set_option maxHeartbeats 4000000 in
theorem MY (v:Value) (l:List UInt8) (g:Nat) (w:World) (hv:View w g v l) (hm:l.length≤90000000) :
  Calls Tryz.prog 67 #[v,.int .u8 46] w (UD (BO 0 l) w):=by
 obtain ⟨ao,cp,rfl⟩:=hv.slice;have hcp:=hv.cap;have HV:=hid fun w' (hb:Below w.heap.size w w')=>hv.below hb;clear hv
 go_enter Tryz.func67,Tryz.ntmps67
 go_wp2_with fail
 go_loopw [5,6,11] (fun ps st i wr=>∃ (k j:Nat) (xs:List Value) (ns:List Nat),k≤j∧j≤l.length∧ns.length≤j∧st = .int .i64 (k:Int)∧i = .int .i64 (j:Int)∧(∃ ao' cp',ps = .slice ao' ns.length cp')∧wr.ownsRow w.heap.size 22 1 ps ns.length xs∧LensAt xs ns∧BO 0 l = ns++BO (j - k) (l.drop j)∧Below w.heap.size w wr) (fun _ _ i _=>l.length - (intOf i).toNat)
 case atStart=>exact ⟨0,0,[],[],Nat.le_refl _,Nat.zero_le _,Nat.zero_le _,rfl,rfl,⟨_,_,rfl⟩,nilRow _ _ _,LensAt.nil,by simp,Below.refl _ _⟩
 case round=>
  obtain ⟨k,j,xs,ns,hkj,hj,hnl,rfl,rfl,⟨ao',cp',rfl⟩,hown,hla,hE,hb⟩:=hrel;have HO:=hid hown;have HL:=hid hla;have HE:=hid hE;have HB:=hid hb;clear hown hla hE hb
  have hkI:(k:Int)≤(j:Int):=by omega
  have hjI:(j:Int)≤(l.length:Int):=by omega
  have hkL:(k:Int)≤(l.length:Int):=by omega
  by_cases hlt:j < l.length
  ·have hlt2:(j:Int).toNat < l.length:=by omega
   have hge2:l[(j:Int).toNat]'hlt2 = l[j]:=rfl;have HS:=hid (Qy l k j hlt hkj);obtain ⟨c,hc⟩:∃ c,c = l[j]:=⟨_,rfl⟩;rw [←hc] at hge2 HS;have bc:=AM c;clear hc
   by_cases h46:c.toNat = 46
   ·have e1:((c.toNat:Int) == 46) = true:=by simp; omega
    have HS2:Hid (BO (j - k) (l.drop j) = (j - k)::BO 0 (l.drop (j+1))):=hid (by rw [HS.out,if_pos h46]);clear h46
    go_wp2_with (first | ((with_reducible refine A0 ?_); refine Ai _ (by rfl) _ _ 22 5 rfl Tryz.underlying22 Ag _ _ _ rfl (HV.out _ HB.out) _ (j:Int) rfl (by omega) hlt2 ?_; intro ad1 hc1; rw [hge2] at hc1) | ((with_reducible refine is_both ?_); refine Gq _ (by rfl) _ _ _ 22 5 rfl Tryz.underlying22 Ag _ _ _ rfl (HV.out _ HB.out) _ _ (k:Int) (j:Int) rfl rfl (by omega) hkI hjI ?_; intro vs2 hvs2; obtain ⟨aoS,cpS,rfl⟩:=hvs2.slice; rw [show ((l.drop (k:Int).toNat).take ((j:Int).toNat - (k:Int).toNat)).length = j - k by simp; omega]) | (at_builtin; refine Gr _ rfl _ _ 90 rfl w.heap.size 22 Tryz.underlying90 Rn _ ns.length xs rfl HO.out HB.out (Nat.le_refl _) aoS _ cpS 1 rfl (by omega) ?_; intro v1 w1 hown1 hb1 hv1; obtain ⟨q1,cap1,rfl⟩:=hv1; have HO1:=hid hown1; have HB1:=hid hb1; clear hown1 hb1) | fail)
    go_roundw
    case rel=>exact ⟨j+1,j+1,_,ns++[j - k],Nat.le_refl _,by omega,by simp; omega,by go_num,by go_num,⟨_,_,by rw [List.length_append]; try rfl⟩,by rw [List.length_append]; exact HO1.out,HL.out.add aoS (j - k) cpS,by rw [HE.out,HS2.out]; simp,HB1.out⟩
    case measure=>simp [intOf]; omega
   ·have e1:((c.toNat:Int) == 46) = false:=by simp; omega
    have HS2:Hid (BO (j - k) (l.drop j) = BO (j+1 - k) (l.drop (j+1))):=hid (by rw [HS.out,if_neg h46]);clear h46
    go_wp2_with (first | ((with_reducible refine A0 ?_); refine Ai _ (by rfl) _ _ 22 5 rfl Tryz.underlying22 Ag _ _ _ rfl (HV.out _ HB.out) _ (j:Int) rfl (by omega) hlt2 ?_; intro ad1 hc1; rw [hge2] at hc1) | fail)
    go_roundw
    case rel=>exact ⟨k,j+1,xs,ns,by omega,by omega,by omega,rfl,by go_num,⟨_,_,rfl⟩,HO.out,HL.out,by rw [HE.out,HS2.out],HB.out⟩
    case measure=>simp [intOf]; omega
  ·go_wp2_with (first | ((with_reducible refine DL ?_); refine AL _ (by rfl) _ _ 22 5 rfl Tryz.underlying22 Ag _ _ _ rfl (HV.out _ HB.out) _ (k:Int) rfl (by omega) hkL ?_; intro vs2 hvs2; obtain ⟨aoS,cpS,rfl⟩:=hvs2.slice; rw [show (l.drop (k:Int).toNat).length = l.length - k by simp]) | (at_builtin; refine Gr _ rfl _ _ 90 rfl w.heap.size 22 Tryz.underlying90 Rn _ ns.length xs rfl HO.out HB.out (Nat.le_refl _) aoS _ cpS 1 rfl (by omega) ?_; intro v1 w1 hown1 hb1 hv1; obtain ⟨q1,cap1,rfl⟩:=hv1; have HO1:=hid hown1; have HB1:=hid hb1; clear hown1 hb1) | fail)
   go_ret
   have hE2:BO 0 l = ns++[l.length - k]:=by rw [HE.out,show j = l.length by omega,List.drop_length]; try rfl
   rw [hE2];exact ⟨_,_,rfl,by rw [List.length_append]; exact HO1.out,HL.out.add aoS (l.length - k) cpS,HB1.out⟩
end
end Go.Proofs.YtgdnpnipahegaaaGreatDoor
