/-
 The law FnTextFormsCut: a message that is written in any of the ways, and is cut within a message or a list of it, is refused.
-/
import Derived.Test.YtgdnpnipahegaaaGreatDoorQ9
import Derived.Test.YtgdnpnipahegaaaGreatDoorQ35
import Derived.Test.YtgdnpnipahegaaaGreatDoorTFCut
namespace Go.Proofs.YtgdnpnipahegaaaGreatDoor
open Go.ChangeShapes Go.WideShapes Go.ChangeAt Go.RowKit
theorem LR (odd:Bool) (x:Nat × Nat):∀ (l:List (Nat × Nat)) (s:Int × Int × Int),KL odd (l++[x]) s = DN odd x (KL odd l s)
 | [],_=>rfl
 | y::l,s=>LR odd x l (DN odd y s)
theorem Et {odd:Bool} {l:List TX} {j:Nat} (h:j < l.length) {d f e d2 f2 e2:Int} (h1:KL odd ((l.take j).map kpX) (0,-1,-1) = (d,f,e)) (h2:DN odd (kpX l[j]) (d,f,e) = (d2,f2,e2)):KL odd ((l.take (j+1)).map kpX) (0,-1,-1) = (d2,f2,e2):=by
 rw [←List.take_append_getElem h,List.map_append,List.map_cons,List.map_nil,LR,h1,h2]
theorem rowQ {w:World} {BQ cQ N:Nat} {aoQ:Option Addr} {l:List TX} (hl:l.length = N) (hQ:OwnQ w BQ (.slice aoQ N cQ) l) (j:Nat) (hj:j < N):∃ gQ,aoQ = some ⟨gQ,0,none⟩∧gQ < w.heap.size∧∀ w',Below w.heap.size w w'→∃ (b:Int) (s:Bool) (r y:ByteArray),Six w' gQ (j * 6) ((l[j]'(by omega)).kind:Int) b ((l[j]'(by omega)).pos:Int) s r y:=by
 obtain ⟨aQ,dQ,eQ,fQ⟩:=hQ.cells
 injection eQ with eQ _ _
 subst eQ;obtain ⟨gQ,qQ,lQ,kQ⟩:=fQ j (by omega);exact ⟨gQ,qQ,lQ,fun w' hb=>⟨_,_,_,_,NY hb lQ rfl kQ⟩⟩
def WroteC (out:List UInt8) (l:List TX) (N:Nat) (w:World) (e:Ending) (w':World):Prop:=∃ ao n c ao2 c2 g,e = .returned (.tuple #[.slice ao n c,.slice ao2 N c2])∧View w' g (.slice ao n c) out∧OwnQ w' w.heap.size (.slice ao2 N c2) l∧Below w.heap.size w w'
theorem Wrote.wroteC {ps:List UInt8} {N:Nat} {w w':World} {e:Ending} (h:Wrote ps w e w') (hN:(BL ps).l.length = N):WroteC (BL ps).out (BL ps).l N w e w':=by
 obtain ⟨vo,vl,rfl,h1,h2,h3⟩:=h;obtain ⟨g,hv,_⟩:=h1.view;obtain ⟨ao,n,c,rfl⟩:=hv.slice3;obtain ⟨ao2,c2,rfl⟩:=h2.slice;subst hN;exact ⟨ao,n,c,ao2,c2,g,rfl,hv,h2,h3⟩
theorem XRes.flag {R:List TT × Bool} {w0 w':World} {e:Ending} {b:Bool} (h:XRes w0.heap.size R w0 e w') (hb:R.2 = b):∃ v,e = .returned (.tuple #[v,.bool b])∧Below w0.heap.size w0 w':=by
 obtain ⟨v,h1,_,h3⟩:=h;exact ⟨v,by rw [h1,hb],h3⟩
theorem RT:Av Tryz.prog 6:=⟨_,Tryz.func6,by kernel_rfl,by kernel_rfl⟩
theorem L1:Av Tryz.prog 7:=⟨_,Tryz.func7,by kernel_rfl,by kernel_rfl⟩
set_option maxRecDepth 100000 in
set_option maxHeartbeats 100000000 in
theorem Gl (v:Value) (z:Int) (ps:List UInt8) (g:Nat) (w:World) (hv:View w g v ps) (hg:g < w.heap.size) (hz:z≤9223372036854775807) (hgl:Glob w) (h9:9≤w.heap.size) :
  Calls Tryz.prog 3 #[v,.int .i64 z] w fun e w'=>e = .returned (.bool true)∧Below w.heap.size w w':=by
 obtain ⟨aoB,cB,rfl⟩:=hv.slice;have hb0:Below w.heap.size w w:=Below.refl _ _;obtain ⟨hlo,hll⟩:=Lw ps;obtain ⟨L,hL,_⟩:=KG ps
 have hall:(Gp (BL ps).out []).2 = true:=by rw [hL]
 obtain ⟨l,hlq⟩:∃ l,(BL ps).l = l:=⟨_,rfl⟩;obtain ⟨N,hlen⟩:∃ N,(BL ps).l.length = N:=⟨_,rfl⟩;refine enter2 (M:=102) Tryz.func3 rfl rfl rfl fun a H=>zr fun j1=>za H rfl fun H=>zN (j1 ?_);refine zs fun j2=>zr fun j3=>zm H rfl fun H=>C7 Tryz.underlying22 H rfl rfl fun a H=>?_
 by_cases q4:(((ps.length:Nat):Int)) > ((2147483647:Int))
 ·refine zgt H rfl rfl fun H=>zN (j3 ?_);refine zi H rfl (zr fun j5=>za H rfl fun H=>zN (j5 ?_));refine zK H [0,1,4] rfl fun H=>wp_ret (tr (LY (by rfl) H rfl ?_));exact ⟨rfl,hb0⟩
 ·refine zgf H rfl rfl fun H=>zN (j3 ?_);refine zj H rfl (wp_skip (tn (j2 ?_)));refine zs fun j6=>zr fun j7=>zm H rfl fun H=>C7 Tryz.underlying22 H rfl rfl fun a H=>?_
  by_cases q8:(((ps.length:Nat):Int)) > ((1000:Int))
  ·refine zgt H rfl rfl fun H=>zm H rfl fun H=>zf H rfl fun H=>zf H rfl fun H=>zp H rfl rfl fun H=>zN (j7 ?_);refine zK H [0,1,4,25] rfl fun H=>zi H rfl (zr fun j9=>za H rfl fun H=>zN (j9 ?_));refine wp_ret (tr (LY (by rfl) H rfl ?_));exact ⟨rfl,hb0⟩
  ·refine zgf H rfl rfl fun H=>zm H rfl fun H=>zo H rfl (zm H rfl fun H=>zo H rfl ?_)
   by_cases q10:(z) < ((0:Int))
   ·refine zlt H rfl rfl fun H=>zp H rfl rfl fun H=>zN (j7 ?_);refine zi H rfl (zr fun j11=>za H rfl fun H=>zN (j11 ?_));refine zK H [0,1,4] rfl fun H=>wp_ret (tr (LY (by rfl) H rfl ?_));exact ⟨rfl,hb0⟩
   ·refine zlf H rfl rfl fun H=>zp H rfl rfl fun H=>zN (j7 ?_);refine zj H rfl (wp_skip (tn (j6 ?_)));refine zr fun j12=>zm H rfl fun H=>?_;have Hs13:=H;obtain ⟨c,rfl⟩:∃ c:Nat,z = c:=⟨z.toNat,by omega⟩;have H:=Hs13;refine zC RT H rfl (Calls.mono ((I1 _ ps g w hv (by omega) hg).mono fun e w2 h=>h.wroteC hlen) ?_);rintro e w1 ⟨aoO,nO,cO,aoQ,cQ,gO,rfl,hvO,hq1,hb1⟩;refine zR fun H=>zm H rfl fun H=>zx H rfl rfl fun H=>zx H rfl rfl fun H=>za H rfl fun H=>za H rfl fun H=>zN (j12 ?_);refine zK H [1,4,5,6] rfl fun H=>zr fun j14=>za H rfl fun H=>za H rfl fun H=>za H rfl fun H=>zN (j14 ?_);refine zs fun j15=>zr fun j16=>zm H rfl fun H=>C7 Tryz.underlying23 H rfl rfl fun a H=>zm H rfl fun H=>zN (j16 ?_);rw [hlq] at hlen hq1 hll;have hrow:=rowQ hlen hq1;obtain ⟨odd,hodd⟩:∃ b,b = decide (c % 2 = 1):=⟨_,rfl⟩;refine wp_block (wp_loop (fun a wx=>∃ (j:Nat) (d fr en:Int),Has 102 [] a [(1,.int .i64 ((c:Nat):Int)),(5,.slice aoO nO cO),(7,.int .i64 d),(8,.int .i64 fr),(9,.int .i64 en),(31,.slice aoQ N cQ),(32,.int .i64 ((N:Nat):Int)),(33,.int .i64 ((j:Nat):Int))]∧Below w1.heap.size w1 wx∧j≤N∧KL odd ((l.take j).map kpX) (0,-1,-1) = (d,fr,en)∧0≤d+j∧d≤j) (fun a _=>N - Ax (a.eval (.tmp 33))) ?_ ?_)
    ·exact ⟨0,0,-1,-1,H.c,Below.refl _ _,Nat.zero_le _,rfl,by omega,by omega⟩
    rintro a wk ⟨j,d,fr,en,H,hbk,hj,hsc,hd1,hd2⟩;have HE:=hid (congrArg Ax (H.ev (x:=.tmp 33) rfl));have hzk:=hbk.size
    by_cases hlt:j < N
    ·have Hs17:=H;obtain ⟨gQ,rfl,lQ,hh6⟩:=hrow j hlt;have H:=Hs17;obtain ⟨b,s,r,y,h6⟩:=hh6 _ hbk;obtain ⟨t,ht⟩:∃ t,l[j]'(by omega) = t:=⟨_,rfl⟩;rw [ht] at h6;refine zr fun j18=>zlt H rfl rfl fun H=>zN (j18 ?_);refine zK H [1,5,7,8,9,31,32,33,34] rfl fun H=>zs fun j19=>zi H rfl (wp_skip (tn (j19 ?_)));refine zs fun j20=>wp_block (zr fun j21=>P2 Tryz.underlying23 q_six H rfl rfl hlt rfl fun a H=>Ls Tryz.underlying27 rfl (Td _ rfl) H rfl (h6).range rfl fun a H=>?_);obtain ⟨q22,hq22⟩:∃ q,q = wk.heap.size:=⟨_,rfl⟩;refine Az Q5 H rfl fun w22 hr22 hb22 hs22 a H=>?_;rw [←hq22] at H hr22;have hz22:=hb22.size;have hb323:=Ad hbk hb22;refine AJ (vs:=[_,_,_,_,_,_]) H rfl rfl hr22 rfl (Q4 _ _ _ _ _ _) (by simp [Value.oneCell']) fun w24 hr24 hg24=>?_;have hz24:=hg24.size;have hb325:=Bt hb323 hg24 (by omega) (by omega);refine zN (j21 ?_);refine zr fun j26=>zg Ue H rfl fun H=>Ah Ca H rfl (hr24 0 _ rfl).1 rfl fun a H=>zN (j26 ?_);refine zK H [1,5,7,8,9,11,31,32,33,38] rfl fun H=>wp_block (BM fun K27 hK27=>zr fun j28=>?_);obtain ⟨b29,hb29⟩:∃ b,b = decide (t.kind = 4):=⟨_,rfl⟩;refine JB (b:=b29) H rfl rfl (by rw [hb29]; exact Bool.eq_iff_iff.2 (by simp; omega)) rfl fun a H=>za H rfl fun H=>zN (j28 ?_);refine zK H [1,5,7,8,9,11,31,32,33,38,39] rfl fun H=>?_
     have hjo30:∀ (a:Act) (bo:Bool),Has 102 [] a [(1,.int .i64 ((c:Nat):Int)),(5,.slice aoO nO cO),(7,.int .i64 d),(8,.int .i64 fr),(9,.int .i64 en),(11,.pointer (some ⟨q22,0,none⟩)),(31,.slice (some ⟨gQ,0,none⟩) N cQ),(32,.int .i64 ((N:Nat):Int)),(33,.int .i64 ((j:Nat):Int)),(38,.int .i64 ((t.kind:Nat):Int)),(39,.bool bo)]→bo = decide (t.kind = 4∨t.kind = 6)→K27 a w24:=by
      intro a bo H hbo;refine hK27 _ _ ?_;have Hs31:=H
      rcases bo with _ | _
      ·have H:=Hs31;have c32:=(of_decide_eq_false hbo.symm:¬ (t.kind = 4∨t.kind = 6));refine zj H rfl (BM fun K33 hK33=>zr fun j34=>?_);obtain ⟨b35,hb35⟩:∃ b,b = decide (t.kind = 5):=⟨_,rfl⟩;refine JB (b:=b35) H rfl rfl (by rw [hb35]; exact Bool.eq_iff_iff.2 (by simp; omega)) rfl fun a H=>za H rfl fun H=>zN (j34 ?_);refine zK H [1,5,7,8,9,11,31,32,33,38,57] rfl fun H=>?_
       have hjo36:∀ (a:Act) (bc:Bool),Has 102 [] a [(1,.int .i64 ((c:Nat):Int)),(5,.slice aoO nO cO),(7,.int .i64 d),(8,.int .i64 fr),(9,.int .i64 en),(11,.pointer (some ⟨q22,0,none⟩)),(31,.slice (some ⟨gQ,0,none⟩) N cQ),(32,.int .i64 ((N:Nat):Int)),(33,.int .i64 ((j:Nat):Int)),(38,.int .i64 ((t.kind:Nat):Int)),(57,.bool bc)]→bc = decide (t.kind = 5∨t.kind = 7)→K33 a w24:=by
        intro a bc H hbc;refine hK33 _ _ ?_;have Hs37:=H
        rcases bc with _ | _
        ·have H:=Hs37;have c38:=(of_decide_eq_false hbc.symm:¬ (t.kind = 5∨t.kind = 7));refine zj H rfl (wp_skip (bn (bn (tn (j20 ?_)))));refine Ac (Cf (r:=((j+1:Nat):Int)) H rfl rfl fun H=>zm H rfl fun H=>?_)
         have hst:DN odd (kpX t) (d,fr,en) = (d,fr,en):=by
          unfold DN kpX;simp only;rw [if_neg (by omega),if_neg (by omega)]
         refine zN (⟨⟨j+1,_,_,_,H.c,hb325,by omega,Et (by omega) hsc (by rw [ht]; exact hst),by omega,by omega⟩,?_⟩);have h2:=congrArg Ax (H.ev (x:=.tmp 33) rfl);have h1:=HE.out
         show N - Ax _ < N - Ax _
         rw [h1,h2];simp only [Ax];omega
        ·have H:=Hs37;have c39:=(of_decide_eq_true hbc.symm:t.kind = 5∨t.kind = 7);refine zi H rfl (zr fun j40=>zm H rfl fun H=>DY (r:=(d - (1:Int))) H rfl rfl fun H=>za H rfl fun H=>zN (j40 ?_));refine zr fun j41=>zm H rfl fun H=>?_
         by_cases q42:((d - (1:Int))) = ((0:Int))
         ·refine zet H rfl rfl fun H=>zm H rfl fun H=>zo H rfl (zm H rfl fun H=>zo H rfl ?_)
          by_cases q43:(en) < ((0:Int))
          ·refine zlt H rfl rfl fun H=>zp H rfl rfl fun H=>zN (j41 ?_);refine zK H [1,5,7,8,9,11,31,32,33,67] rfl fun H=>zi H rfl (Ac (zg On H rfl fun H=>Ah Ca H rfl (hr24 2 _ rfl).1 rfl fun a H=>za H rfl fun H=>wpList_nil (bn (bn (tn (j20 ?_))))));refine Ac (Cf (r:=((j+1:Nat):Int)) H rfl rfl fun H=>zm H rfl fun H=>?_)
           have hst:DN odd (kpX t) (d,fr,en) = ((d - (1:Int)),fr,((t.pos:Nat):Int)):=by
            unfold DN kpX;simp only;rw [if_neg (by omega),if_pos (by omega),if_pos (by omega)]
           refine zN (⟨⟨j+1,_,_,_,H.c,hb325,by omega,Et (by omega) hsc (by rw [ht]; exact hst),by omega,by omega⟩,?_⟩);have h2:=congrArg Ax (H.ev (x:=.tmp 33) rfl);have h1:=HE.out
           show N - Ax _ < N - Ax _
           rw [h1,h2];simp only [Ax];omega
          ·refine zlf H rfl rfl fun H=>zp H rfl rfl fun H=>zN (j41 ?_);refine zj H rfl (wp_skip (bn (bn (tn (j20 ?_)))));refine zK H [1,5,7,8,9,31,32,33] rfl fun H=>Ac (Cf (r:=((j+1:Nat):Int)) H rfl rfl fun H=>zm H rfl fun H=>?_)
           have hst:DN odd (kpX t) (d,fr,en) = ((d - (1:Int)),fr,en):=by
            unfold DN kpX;simp only;rw [if_neg (by omega),if_pos (by omega),if_neg (by omega)]
           refine zN (⟨⟨j+1,_,_,_,H.c,hb325,by omega,Et (by omega) hsc (by rw [ht]; exact hst),by omega,by omega⟩,?_⟩);have h2:=congrArg Ax (H.ev (x:=.tmp 33) rfl);have h1:=HE.out
           show N - Ax _ < N - Ax _
           rw [h1,h2];simp only [Ax];omega
         ·refine zef H rfl rfl fun H=>zm H rfl fun H=>zf H rfl fun H=>zf H rfl fun H=>zp H rfl rfl fun H=>zN (j41 ?_);refine zK H [1,5,7,8,9,11,31,32,33,67] rfl fun H=>zj H rfl (wp_skip (bn (bn (tn (j20 ?_)))));refine Ac (Cf (r:=((j+1:Nat):Int)) H rfl rfl fun H=>zm H rfl fun H=>?_)
          have hst:DN odd (kpX t) (d,fr,en) = ((d - (1:Int)),fr,en):=by
           unfold DN kpX;simp only;rw [if_neg (by omega),if_pos (by omega),if_neg (by omega)]
          refine zN (⟨⟨j+1,_,_,_,H.c,hb325,by omega,Et (by omega) hsc (by rw [ht]; exact hst),by omega,by omega⟩,?_⟩);have h2:=congrArg Ax (H.ev (x:=.tmp 33) rfl);have h1:=HE.out
          show N - Ax _ < N - Ax _
          rw [h1,h2];simp only [Ax];omega
       have Hs44:=H
       rcases b35 with _ | _
       ·have H:=Hs44;have c45:=(of_decide_eq_false hb35.symm:¬ (t.kind = 5));refine zj H rfl (Ac ?_);obtain ⟨b46,hb46⟩:∃ b,b = decide (t.kind = 7):=⟨_,rfl⟩;refine JB (b:=b46) H rfl rfl (by rw [hb46]; exact Bool.eq_iff_iff.2 (by simp; omega)) rfl fun a H=>za H rfl fun H=>?_;exact zN (hjo36 _ b46 H.c (by rw [hb46]; exact decide_eq_decide.2 ⟨.inr,fun h=>h.resolve_left c45⟩))
       ·have H:=Hs44;have c47:=(of_decide_eq_true hb35.symm:t.kind = 5);refine zi H rfl ?_;exact wp_skip (tn (hjo36 _ true H.c (decide_eq_true (.inl c47)).symm))
      ·have H:=Hs31;have c48:=(of_decide_eq_true hbo.symm:t.kind = 4∨t.kind = 6);refine zi H rfl (zs fun j49=>zr fun j50=>zm H rfl fun H=>?_)
       by_cases q51:(d) = ((0:Int))
       ·refine zet H rfl rfl fun H=>zm H rfl fun H=>zo H rfl (zm H rfl fun H=>zo H rfl ?_)
        by_cases q52:(fr) < ((0:Int))
        ·refine zlt H rfl rfl fun H=>zo H rfl (zm H rfl fun H=>zf H rfl fun H=>zf H rfl fun H=>zf H rfl fun H=>zo H rfl (zp H rfl rfl fun H=>zp H rfl rfl fun H=>zN (j50 ?_)));refine zi H rfl (Ac (zg On H rfl fun H=>Ah Ca H rfl (hr24 2 _ rfl).1 rfl fun a H=>za H rfl fun H=>za H rfl fun H=>zN (j49 ?_)));refine Ac (zm H rfl fun H=>Cf (r:=(d+(1:Int))) H rfl rfl fun H=>za H rfl fun H=>wpList_nil (bn (bn (tn (j20 ?_)))));refine zK H [1,5,7,8,9,31,32,33] rfl fun H=>Ac (Cf (r:=((j+1:Nat):Int)) H rfl rfl fun H=>zm H rfl fun H=>?_)
         have hst:DN odd (kpX t) (d,fr,en) = ((d+(1:Int)),((t.pos:Nat):Int),(-1:Int)):=by
          unfold DN kpX;simp only;rw [if_pos (by omega),if_pos (by exact ⟨by omega,.inl (by omega)⟩)]
         refine zN (⟨⟨j+1,_,_,_,H.c,hb325,by omega,Et (by omega) hsc (by rw [ht]; exact hst),by omega,by omega⟩,?_⟩);have h2:=congrArg Ax (H.ev (x:=.tmp 33) rfl);have h1:=HE.out
         show N - Ax _ < N - Ax _
         rw [h1,h2];simp only [Ax];omega
        ·refine zlf H rfl rfl fun H=>zo H rfl (zm H rfl fun H=>zo H rfl (zm H rfl fun H=>zo H rfl (y_rem (n:=2) H rfl rfl (by omega) rfl fun a H=>zo H rfl ?_)))
         by_cases q53:(((c % 2:Nat):Int)) = ((1:Int))
         ·refine zet H rfl rfl fun H=>zo H rfl (zp H rfl rfl fun H=>zp H rfl rfl fun H=>zN (j50 ?_));refine zi H rfl (Ac (zg On H rfl fun H=>Ah Ca H rfl (hr24 2 _ rfl).1 rfl fun a H=>za H rfl fun H=>za H rfl fun H=>zN (j49 ?_)));refine Ac (zm H rfl fun H=>Cf (r:=(d+(1:Int))) H rfl rfl fun H=>za H rfl fun H=>wpList_nil (bn (bn (tn (j20 ?_)))));refine zK H [1,5,7,8,9,31,32,33] rfl fun H=>Ac (Cf (r:=((j+1:Nat):Int)) H rfl rfl fun H=>zm H rfl fun H=>?_)
          have hst:DN odd (kpX t) (d,fr,en) = ((d+(1:Int)),((t.pos:Nat):Int),(-1:Int)):=by
           unfold DN kpX;simp only;rw [if_pos (by omega),if_pos (by exact ⟨by omega,.inr (by rw [hodd]; exact decide_eq_true (by omega))⟩)]
          refine zN (⟨⟨j+1,_,_,_,H.c,hb325,by omega,Et (by omega) hsc (by rw [ht]; exact hst),by omega,by omega⟩,?_⟩);have h2:=congrArg Ax (H.ev (x:=.tmp 33) rfl);have h1:=HE.out
          show N - Ax _ < N - Ax _
          rw [h1,h2];simp only [Ax];omega
         ·refine zef H rfl rfl fun H=>zo H rfl (zp H rfl rfl fun H=>zp H rfl rfl fun H=>zN (j50 ?_));refine zj H rfl (wp_skip (tn (j49 ?_)));refine Ac (zm H rfl fun H=>Cf (r:=(d+(1:Int))) H rfl rfl fun H=>za H rfl fun H=>wpList_nil (bn (bn (tn (j20 ?_)))));refine zK H [1,5,7,8,9,31,32,33] rfl fun H=>Ac (Cf (r:=((j+1:Nat):Int)) H rfl rfl fun H=>zm H rfl fun H=>?_)
          have hst:DN odd (kpX t) (d,fr,en) = ((d+(1:Int)),fr,en):=by
           unfold DN kpX;simp only;rw [if_pos (by omega),if_neg (by rintro ⟨_,h | h⟩; omega; rw [hodd] at h; have:=of_decide_eq_true h; omega)]
          refine zN (⟨⟨j+1,_,_,_,H.c,hb325,by omega,Et (by omega) hsc (by rw [ht]; exact hst),by omega,by omega⟩,?_⟩);have h2:=congrArg Ax (H.ev (x:=.tmp 33) rfl);have h1:=HE.out
          show N - Ax _ < N - Ax _
          rw [h1,h2];simp only [Ax];omega
       ·refine zef H rfl rfl fun H=>zm H rfl fun H=>zf H rfl fun H=>zf H rfl fun H=>zf H rfl fun H=>zu H rfl fun H=>zu H rfl fun H=>zu H rfl fun H=>zf H rfl fun H=>zp H rfl rfl fun H=>zN (j50 ?_);refine zj H rfl (wp_skip (tn (j49 ?_)));refine Ac (zm H rfl fun H=>Cf (r:=(d+(1:Int))) H rfl rfl fun H=>za H rfl fun H=>wpList_nil (bn (bn (tn (j20 ?_)))));refine zK H [1,5,7,8,9,31,32,33] rfl fun H=>Ac (Cf (r:=((j+1:Nat):Int)) H rfl rfl fun H=>zm H rfl fun H=>?_)
        have hst:DN odd (kpX t) (d,fr,en) = ((d+(1:Int)),fr,en):=by
         unfold DN kpX;simp only;rw [if_pos (by omega),if_neg (by rintro ⟨h,_⟩; omega)]
        refine zN (⟨⟨j+1,_,_,_,H.c,hb325,by omega,Et (by omega) hsc (by rw [ht]; exact hst),by omega,by omega⟩,?_⟩);have h2:=congrArg Ax (H.ev (x:=.tmp 33) rfl);have h1:=HE.out
        show N - Ax _ < N - Ax _
        rw [h1,h2];simp only [Ax];omega
     have Hs54:=H
     rcases b29 with _ | _
     ·have H:=Hs54;have c55:=(of_decide_eq_false hb29.symm:¬ (t.kind = 4));refine zj H rfl (Ac ?_);obtain ⟨b56,hb56⟩:∃ b,b = decide (t.kind = 6):=⟨_,rfl⟩;refine JB (b:=b56) H rfl rfl (by rw [hb56]; exact Bool.eq_iff_iff.2 (by simp; omega)) rfl fun a H=>za H rfl fun H=>?_;exact zN (hjo30 _ b56 H.c (by rw [hb56]; exact decide_eq_decide.2 ⟨.inr,fun h=>h.resolve_left c55⟩))
     ·have H:=Hs54;have c57:=(of_decide_eq_true hb29.symm:t.kind = 4);refine zi H rfl ?_;exact wp_skip (tn (hjo30 _ true H.c (decide_eq_true (.inl c57)).symm))
    ·have hb1k:=hb1.trans (hbk.mono hb1.size);have hvk:=hvO.below hbk;rw [List.take_of_length_le (by omega)] at hsc;refine zr fun j58=>zlf H rfl rfl fun H=>zN (j58 ?_);refine zs fun j59=>zj H rfl (wp_exit (te (te (A9 (tn (j15 ?_))))));refine zs fun j60=>zr fun j61=>zm H rfl fun H=>?_
     by_cases q62:(fr) < ((0:Int))
     ·refine zlt H rfl rfl fun H=>zm H rfl fun H=>zf H rfl fun H=>zf H rfl fun H=>zf H rfl fun H=>zp H rfl rfl fun H=>zN (j61 ?_);refine zK H [1,5,8,9,77] rfl fun H=>zi H rfl (zr fun j63=>za H rfl fun H=>zN (j63 ?_));refine wp_ret (tr (LY (by rfl) H rfl ?_));exact ⟨rfl,hb1k⟩
     ·refine zlf H rfl rfl fun H=>zm H rfl fun H=>zo H rfl (zm H rfl fun H=>zo H rfl (zm H rfl fun H=>zo H rfl ?_))
      by_cases q64:(en)≤(fr)
      ·refine zqt H rfl rfl fun H=>zp H rfl rfl fun H=>zN (j61 ?_);refine zi H rfl (zr fun j65=>za H rfl fun H=>zN (j65 ?_));refine zK H [1,4,5,8,9] rfl fun H=>wp_ret (tr (LY (by rfl) H rfl ?_));exact ⟨rfl,hb1k⟩
      ·refine zqf H rfl rfl fun H=>zp H rfl rfl fun H=>zN (j61 ?_);refine zj H rfl (wp_skip (tn (j60 ?_)));refine zs fun j66=>?_;have Hs67:=H;obtain ⟨F,rfl⟩:∃ F:Nat,fr = F:=⟨fr.toNat,by omega⟩;have H:=Hs67;have Hs68:=H;obtain ⟨E,rfl⟩:∃ E:Nat,en = E:=⟨en.toNat,by omega⟩;have H:=Hs68;have hrm:=Nat.mod_lt c (show 0 < E - F by omega);obtain ⟨m,hm⟩:∃ m,m = F+1+c % (E - F):=⟨_,rfl⟩;obtain ⟨hmo,hcut⟩:=K0 ps odd (deep:=d) (fr:=((F:Nat):Int)) (en:=((E:Nat):Int)) (by rw [hlq]; exact hsc) (by omega) (by omega) m (by omega) (by omega);obtain ⟨hEo,_⟩:=K0 ps odd (deep:=d) (fr:=((F:Nat):Int)) (en:=((E:Nat):Int)) (by rw [hlq]; exact hsc) (by omega) (by omega) E (by omega) (by omega);refine Ac (zm H rfl fun H=>zm H rfl fun H=>Cf (r:=((F+1:Nat):Int)) H rfl rfl fun H=>zm H rfl fun H=>zm H rfl fun H=>zm H rfl fun H=>DY (r:=((E - F:Nat):Int)) H rfl rfl fun H=>y_rem (n:=E - F) H rfl rfl (by omega) rfl fun a H=>Cf (r:=((m:Nat):Int)) H rfl rfl fun H=>CZ Tryz.underlying22 Ag H rfl rfl hvk (by omega) (by omega) rfl fun a vc H hvc=>?_);replace hvc:View _ gO vc ((BL ps).out.take m):=hvc;refine zC L1 H rfl (Calls.mono ((C9 _ _ gO wk hvc (by simp; omega) (hgl.below hb1k) (by have:=hb1k.size; omega)).mono fun e w2 h=>h.flag hcut) ?_);rintro e w2 ⟨v2,rfl,hb2⟩;refine zR fun H=>?_;have hb12:=Ad hb1k hb2;refine zm H rfl fun H=>zx H rfl rfl fun H=>zx H rfl rfl fun H=>za H rfl fun H=>za H rfl fun H=>zN (j66 ?_);refine zK H [5,13] rfl fun H=>zr fun j69=>zm H rfl fun H=>zC L1 H rfl (Calls.mono ((C9 _ _ gO w2 (hvk.below hb2) (by omega) (hgl.below hb12) (by have:=hb12.size; omega)).mono fun e w2 h=>h.flag hall) ?_);rintro e w3 ⟨v3,rfl,hb3⟩;refine zR fun H=>?_;have hb13:=Ad hb12 hb3;refine zm H rfl fun H=>zx H rfl rfl fun H=>zx H rfl rfl fun H=>za H rfl fun H=>za H rfl fun H=>zN (j69 ?_);refine zr fun j70=>zm H rfl fun H=>FD H rfl fun H=>zm H rfl fun H=>zo H rfl (zm H rfl fun H=>zp H rfl rfl fun H=>za H rfl fun H=>zN (j70 ?_));refine wp_ret (LY (by rfl) H rfl ?_);exact ⟨rfl,hb13⟩
theorem Jv (v:Value) (z:Int) (ps:List UInt8) (g:Nat) (w:World) (hv:View w g v ps) (hz:z≤9223372036854775807) (hgl:Glob w) (h9:9≤w.heap.size) :
  Calls Tryz.prog 3 #[v,.int .i64 z] w fun e w'=>e = .returned (.bool true)∧Below w.heap.size w w':=by
 by_cases hne:ps = []
 ·subst hne;exact Gl v z [] 0 w hv.any (by omega) hz hgl h9
 ·exact Gl v z ps g w hv (hv.lt hne) hz hgl h9
end Go.Proofs.YtgdnpnipahegaaaGreatDoor
