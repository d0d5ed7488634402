/-
 The law FnTextFormsCut: a message that is written in any of the ways, and is cut within a message or a list of it, is refused.
-/
import Derived.Test.YtgdnpnipahegaaaGreatDoorQ9
import Derived.Test.YtgdnpnipahegaaaGreatDoorQ33
import Derived.Test.YtgdnpnipahegaaaGreatDoorTFCut
import Derived.Test.YtgdnpnipahegaaaGreatDoorQ0
import Derived.OpenShut
import Derived.Test.YtgdnpnipahegaaaGreatDoorCards
import Derived.Test.YtgdnpnipahegaaaGreatDoorTie
import Derived.Test.YtgdnpnipahegaaaGreatDoorQ4
import Derived.ProofKit
import Derived.LaidMore
import Derived.LaidLaws
import Derived.Lay
import Derived.SevenTiedAt
import Derived.Stop.Joined
import Derived.Stop.LaidErr
import Derived.PinnedBridge
import Derived.Lib.LaidU8T
namespace Go.Proofs.YtgdnpnipahegaaaGreatDoor
open Go.ChangeShapes Go.WideShapes Go.ChangeAt Go.RowKit
section
theorem K3 (odd:Bool) (x:Nat × Nat):∀ (l:List (Nat × Nat)) (s:Int × Int × Int),J7 odd (l++[x]) s = DI odd x (J7 odd l s)
 | [],_=>rfl
 | y::l,s=>K3 odd x l (DI odd y s)
theorem Ep {odd:Bool} {l:List TX} {j:Nat} (h:j < l.length) {d f e d2 f2 e2:Int} (h1:J7 odd ((l.take j).map kpX) (0,-1,-1) = (d,f,e)) (h2:DI odd (kpX l[j]) (d,f,e) = (d2,f2,e2)):J7 odd ((l.take (j+1)).map kpX) (0,-1,-1) = (d2,f2,e2):=by
 rw [←List.take_append_getElem h,List.map_append,List.map_cons,List.map_nil,K3,h1,h2]
theorem rowQ {w:World} {BQ cQ N:Nat} {aoQ:Option Addr} {l:List TX} (hl:l.length = N) (hQ:OwnQ w BQ (.slice aoQ N cQ) l) (j:Nat) (hj:j < N):∃ gQ,aoQ = some ⟨gQ,0,none⟩∧gQ < w.heap.size∧∀ w',Below w.heap.size w w'→∃ (b:Int) (s:Bool) (r y:ByteArray),Six w' gQ (j * 6) ((l[j]'(by omega)).kind:Int) b ((l[j]'(by omega)).pos:Int) s r y:=by
 obtain ⟨aQ,dQ,eQ,fQ⟩:=hQ.cells
 injection eQ with eQ _ _
 subst eQ;obtain ⟨gQ,qQ,lQ,kQ⟩:=fQ j (by omega);exact ⟨gQ,qQ,lQ,fun w' hb=>⟨_,_,_,_,six_of hb lQ rfl kQ⟩⟩
def WroteC (out:List UInt8) (l:List TX) (N:Nat) (w:World) (e:Ending) (w':World):Prop:=∃ ao n c ao2 c2 g,e = .returned (.tuple #[.slice ao n c,.slice ao2 N c2])∧View w' g (.slice ao n c) out∧OwnQ w' w.heap.size (.slice ao2 N c2) l∧Below w.heap.size w w'
theorem Wrote.wroteC {ps:List UInt8} {N:Nat} {w w':World} {e:Ending} (h:Wrote ps w e w') (hN:(B0 ps).l.length = N):WroteC (B0 ps).out (B0 ps).l N w e w':=by
 obtain ⟨vo,vl,rfl,h1,h2,h3⟩:=h;obtain ⟨g,hv,_⟩:=h1.view;obtain ⟨ao,n,c,rfl⟩:=hv.slice3;obtain ⟨ao2,c2,rfl⟩:=h2.slice;subst hN;exact ⟨ao,n,c,ao2,c2,g,rfl,hv,h2,h3⟩
theorem XRes.flag {R:List TT × Bool} {w0 w':World} {e:Ending} {b:Bool} (h:XRes w0.heap.size R w0 e w') (hb:R.2 = b):∃ v,e = .returned (.tuple #[v,.bool b])∧Below w0.heap.size w0 w':=by
 obtain ⟨v,h1,_,h3⟩:=h;exact ⟨v,by rw [h1,hb],h3⟩
theorem QL:AD Tryz.prog 6:=⟨_,Tryz.func6,by kernel_rfl,by kernel_rfl⟩
theorem Ld:AD Tryz.prog 7:=⟨_,Tryz.func7,by kernel_rfl,by kernel_rfl⟩
set_option maxRecDepth 100000 in
set_option maxHeartbeats 100000000 in
theorem F4 (v:Value) (z:Int) (ps:List UInt8) (g:Nat) (w:World) (hv:View w g v ps) (hg:g < w.heap.size) (hz:z≤9223372036854775807) (hgl:Glob w) (h9:9≤w.heap.size) :
  Calls Tryz.prog 3 #[v,.int .i64 z] w fun e w'=>e = .returned (.bool true)∧Below w.heap.size w w':=by
 obtain ⟨aoB,cB,rfl⟩:=hv.slice;have hb0:Below w.heap.size w w:=Below.refl _ _;obtain ⟨hlo,hll⟩:=O0 ps;obtain ⟨L,hL,_⟩:=NB ps
 have hall:(PP (B0 ps).out []).2 = true:=by rw [hL]
 obtain ⟨l,hlq⟩:∃ l,(B0 ps).l = l:=⟨_,rfl⟩;obtain ⟨N,hlen⟩:∃ N,(B0 ps).l.length = N:=⟨_,rfl⟩;refine enter2 (M:=102) Tryz.func3 rfl rfl rfl fun a H=>zr fun j1=>za H rfl fun H=>zN (j1 ?_);refine zs fun j2=>zr fun j3=>zm H rfl fun H=>FO Tryz.underlying22 H rfl rfl fun a H=>?_
 by_cases q4:(((ps.length:Nat):Int)) > ((2147483647:Int))
 ·refine zgt H rfl rfl fun H=>zN (j3 ?_);refine zi H rfl (zr fun j5=>za H rfl fun H=>zN (j5 ?_));refine zK H [0,1,4] rfl fun H=>wp_ret (tr (Pe (by rfl) H rfl ?_));exact ⟨rfl,hb0⟩
 ·refine zgf H rfl rfl fun H=>zN (j3 ?_);refine zj H rfl (wp_skip (tn (j2 ?_)));refine zs fun j6=>zr fun j7=>zm H rfl fun H=>FO Tryz.underlying22 H rfl rfl fun a H=>?_
  by_cases q8:(((ps.length:Nat):Int)) > ((1000:Int))
  ·refine zgt H rfl rfl fun H=>zm H rfl fun H=>zf H rfl fun H=>zf H rfl fun H=>zp H rfl rfl fun H=>zN (j7 ?_);refine zK H [0,1,4,25] rfl fun H=>zi H rfl (zr fun j9=>za H rfl fun H=>zN (j9 ?_));refine wp_ret (tr (Pe (by rfl) H rfl ?_));exact ⟨rfl,hb0⟩
  ·refine zgf H rfl rfl fun H=>zm H rfl fun H=>zo H rfl (zm H rfl fun H=>zo H rfl ?_)
   by_cases q10:(z) < ((0:Int))
   ·refine zlt H rfl rfl fun H=>zp H rfl rfl fun H=>zN (j7 ?_);refine zi H rfl (zr fun j11=>za H rfl fun H=>zN (j11 ?_));refine zK H [0,1,4] rfl fun H=>wp_ret (tr (Pe (by rfl) H rfl ?_));exact ⟨rfl,hb0⟩
   ·refine zlf H rfl rfl fun H=>zp H rfl rfl fun H=>zN (j7 ?_);refine zj H rfl (wp_skip (tn (j6 ?_)));refine zr fun j12=>zm H rfl fun H=>?_;have Hs13:=H;obtain ⟨c,rfl⟩:∃ c:Nat,z = c:=⟨z.toNat,by omega⟩;have H:=Hs13;refine zC QL H rfl (Calls.mono ((LS _ ps g w hv (by omega) hg).mono fun e w2 h=>h.wroteC hlen) ?_);rintro e w1 ⟨aoO,nO,cO,aoQ,cQ,gO,rfl,hvO,hq1,hb1⟩;refine zR fun H=>zm H rfl fun H=>zx H rfl rfl fun H=>zx H rfl rfl fun H=>za H rfl fun H=>za H rfl fun H=>zN (j12 ?_);refine zK H [1,4,5,6] rfl fun H=>zr fun j14=>za H rfl fun H=>za H rfl fun H=>za H rfl fun H=>zN (j14 ?_);refine zs fun j15=>zr fun j16=>zm H rfl fun H=>FO Tryz.underlying23 H rfl rfl fun a H=>zm H rfl fun H=>zN (j16 ?_);rw [hlq] at hlen hq1 hll;have hrow:=rowQ hlen hq1;obtain ⟨odd,hodd⟩:∃ b,b = decide (c % 2 = 1):=⟨_,rfl⟩;refine wp_block (wp_loop (fun a wx=>∃ (j:Nat) (d fr en:Int),Has 102 [] a [(1,.int .i64 ((c:Nat):Int)),(5,.slice aoO nO cO),(7,.int .i64 d),(8,.int .i64 fr),(9,.int .i64 en),(31,.slice aoQ N cQ),(32,.int .i64 ((N:Nat):Int)),(33,.int .i64 ((j:Nat):Int))]∧Below w1.heap.size w1 wx∧j≤N∧J7 odd ((l.take j).map kpX) (0,-1,-1) = (d,fr,en)∧0≤d+j∧d≤j) (fun a _=>N - AC (a.eval (.tmp 33))) ?_ ?_)
    ·exact ⟨0,0,-1,-1,H.c,Below.refl _ _,Nat.zero_le _,rfl,by omega,by omega⟩
    rintro a wk ⟨j,d,fr,en,H,hbk,hj,hsc,hd1,hd2⟩;have HE:=hid (congrArg AC (H.ev (x:=.tmp 33) rfl));have hzk:=hbk.size
    by_cases hlt:j < N
    ·have Hs17:=H;obtain ⟨gQ,rfl,lQ,hh6⟩:=hrow j hlt;have H:=Hs17;obtain ⟨b,s,r,y,h6⟩:=hh6 _ hbk;obtain ⟨t,ht⟩:∃ t,l[j]'(by omega) = t:=⟨_,rfl⟩;rw [ht] at h6;refine zr fun j18=>zlt H rfl rfl fun H=>zN (j18 ?_);refine zK H [1,5,7,8,9,31,32,33,34] rfl fun H=>zs fun j19=>zi H rfl (wp_skip (tn (j19 ?_)));refine zs fun j20=>wp_block (zr fun j21=>y_idx6 Tryz.underlying23 q_six H rfl rfl hlt rfl fun a H=>Rp Tryz.underlying27 rfl (q_size _ rfl) H rfl (h6).range rfl fun a H=>?_);obtain ⟨q22,hq22⟩:∃ q,q = wk.heap.size:=⟨_,rfl⟩;refine Aw q_alloc H rfl fun w22 hr22 hb22 hs22 a H=>?_;rw [←hq22] at H hr22;have hz22:=hb22.size;have hb323:=Ac hbk hb22;refine AJ (vs:=[_,_,_,_,_,_]) H rfl rfl hr22 rfl (q_size' _ _ _ _ _ _) (by simp [Value.oneCell']) fun w24 hr24 hg24=>?_;have hz24:=hg24.size;have hb325:=BI hb323 hg24 (by omega) (by omega);refine zN (j21 ?_);refine zr fun j26=>zg fld_q0 H rfl fun H=>Ai CC H rfl (hr24 0 _ rfl).1 rfl fun a H=>zN (j26 ?_);refine zK H [1,5,7,8,9,11,31,32,33,38] rfl fun H=>wp_block (B2 fun K27 hK27=>zr fun j28=>?_);obtain ⟨b29,hb29⟩:∃ b,b = decide (t.kind = 4):=⟨_,rfl⟩;refine KG (b:=b29) H rfl rfl (by rw [hb29]; exact Bool.eq_iff_iff.2 (by simp; omega)) rfl fun a H=>za H rfl fun H=>zN (j28 ?_);refine zK H [1,5,7,8,9,11,31,32,33,38,39] rfl fun H=>?_
     have hjo30:∀ (a:Act) (bo:Bool),Has 102 [] a [(1,.int .i64 ((c:Nat):Int)),(5,.slice aoO nO cO),(7,.int .i64 d),(8,.int .i64 fr),(9,.int .i64 en),(11,.pointer (some ⟨q22,0,none⟩)),(31,.slice (some ⟨gQ,0,none⟩) N cQ),(32,.int .i64 ((N:Nat):Int)),(33,.int .i64 ((j:Nat):Int)),(38,.int .i64 ((t.kind:Nat):Int)),(39,.bool bo)]→bo = decide (t.kind = 4∨t.kind = 6)→K27 a w24:=by
      intro a bo H hbo;refine hK27 _ _ ?_;have Hs31:=H
      rcases bo with _ | _
      ·have H:=Hs31;have c32:=(of_decide_eq_false hbo.symm:¬ (t.kind = 4∨t.kind = 6));refine zj H rfl (B2 fun K33 hK33=>zr fun j34=>?_);obtain ⟨b35,hb35⟩:∃ b,b = decide (t.kind = 5):=⟨_,rfl⟩;refine KG (b:=b35) H rfl rfl (by rw [hb35]; exact Bool.eq_iff_iff.2 (by simp; omega)) rfl fun a H=>za H rfl fun H=>zN (j34 ?_);refine zK H [1,5,7,8,9,11,31,32,33,38,57] rfl fun H=>?_
       have hjo36:∀ (a:Act) (bc:Bool),Has 102 [] a [(1,.int .i64 ((c:Nat):Int)),(5,.slice aoO nO cO),(7,.int .i64 d),(8,.int .i64 fr),(9,.int .i64 en),(11,.pointer (some ⟨q22,0,none⟩)),(31,.slice (some ⟨gQ,0,none⟩) N cQ),(32,.int .i64 ((N:Nat):Int)),(33,.int .i64 ((j:Nat):Int)),(38,.int .i64 ((t.kind:Nat):Int)),(57,.bool bc)]→bc = decide (t.kind = 5∨t.kind = 7)→K33 a w24:=by
        intro a bc H hbc;refine hK33 _ _ ?_;have Hs37:=H
        rcases bc with _ | _
        ·have H:=Hs37;have c38:=(of_decide_eq_false hbc.symm:¬ (t.kind = 5∨t.kind = 7));refine zj H rfl (wp_skip (bn (bn (tn (j20 ?_)))));refine Ag (Cy (r:=((j+1:Nat):Int)) H rfl rfl fun H=>zm H rfl fun H=>?_)
         have hst:DI odd (kpX t) (d,fr,en) = (d,fr,en):=by
          unfold DI kpX;simp only;rw [if_neg (by omega),if_neg (by omega)]
         refine zN (⟨⟨j+1,_,_,_,H.c,hb325,by omega,Ep (by omega) hsc (by rw [ht]; exact hst),by omega,by omega⟩,?_⟩);have h2:=congrArg AC (H.ev (x:=.tmp 33) rfl);have h1:=HE.out
         show N - AC _ < N - AC _
         rw [h1,h2];simp only [AC];omega
        ·have H:=Hs37;have c39:=(of_decide_eq_true hbc.symm:t.kind = 5∨t.kind = 7);refine zi H rfl (zr fun j40=>zm H rfl fun H=>D3 (r:=(d - (1:Int))) H rfl rfl fun H=>za H rfl fun H=>zN (j40 ?_));refine zr fun j41=>zm H rfl fun H=>?_
         by_cases q42:((d - (1:Int))) = ((0:Int))
         ·refine zet H rfl rfl fun H=>zm H rfl fun H=>zo H rfl (zm H rfl fun H=>zo H rfl ?_)
          by_cases q43:(en) < ((0:Int))
          ·refine zlt H rfl rfl fun H=>zp H rfl rfl fun H=>zN (j41 ?_);refine zK H [1,5,7,8,9,11,31,32,33,67] rfl fun H=>zi H rfl (Ag (zg PG H rfl fun H=>Ai CC H rfl (hr24 2 _ rfl).1 rfl fun a H=>za H rfl fun H=>wpList_nil (bn (bn (tn (j20 ?_))))));refine Ag (Cy (r:=((j+1:Nat):Int)) H rfl rfl fun H=>zm H rfl fun H=>?_)
           have hst:DI odd (kpX t) (d,fr,en) = ((d - (1:Int)),fr,((t.pos:Nat):Int)):=by
            unfold DI kpX;simp only;rw [if_neg (by omega),if_pos (by omega),if_pos (by omega)]
           refine zN (⟨⟨j+1,_,_,_,H.c,hb325,by omega,Ep (by omega) hsc (by rw [ht]; exact hst),by omega,by omega⟩,?_⟩);have h2:=congrArg AC (H.ev (x:=.tmp 33) rfl);have h1:=HE.out
           show N - AC _ < N - AC _
           rw [h1,h2];simp only [AC];omega
          ·refine zlf H rfl rfl fun H=>zp H rfl rfl fun H=>zN (j41 ?_);refine zj H rfl (wp_skip (bn (bn (tn (j20 ?_)))));refine zK H [1,5,7,8,9,31,32,33] rfl fun H=>Ag (Cy (r:=((j+1:Nat):Int)) H rfl rfl fun H=>zm H rfl fun H=>?_)
           have hst:DI odd (kpX t) (d,fr,en) = ((d - (1:Int)),fr,en):=by
            unfold DI kpX;simp only;rw [if_neg (by omega),if_pos (by omega),if_neg (by omega)]
           refine zN (⟨⟨j+1,_,_,_,H.c,hb325,by omega,Ep (by omega) hsc (by rw [ht]; exact hst),by omega,by omega⟩,?_⟩);have h2:=congrArg AC (H.ev (x:=.tmp 33) rfl);have h1:=HE.out
           show N - AC _ < N - AC _
           rw [h1,h2];simp only [AC];omega
         ·refine zef H rfl rfl fun H=>zm H rfl fun H=>zf H rfl fun H=>zf H rfl fun H=>zp H rfl rfl fun H=>zN (j41 ?_);refine zK H [1,5,7,8,9,11,31,32,33,67] rfl fun H=>zj H rfl (wp_skip (bn (bn (tn (j20 ?_)))));refine Ag (Cy (r:=((j+1:Nat):Int)) H rfl rfl fun H=>zm H rfl fun H=>?_)
          have hst:DI odd (kpX t) (d,fr,en) = ((d - (1:Int)),fr,en):=by
           unfold DI kpX;simp only;rw [if_neg (by omega),if_pos (by omega),if_neg (by omega)]
          refine zN (⟨⟨j+1,_,_,_,H.c,hb325,by omega,Ep (by omega) hsc (by rw [ht]; exact hst),by omega,by omega⟩,?_⟩);have h2:=congrArg AC (H.ev (x:=.tmp 33) rfl);have h1:=HE.out
          show N - AC _ < N - AC _
          rw [h1,h2];simp only [AC];omega
       have Hs44:=H
       rcases b35 with _ | _
       ·have H:=Hs44;have c45:=(of_decide_eq_false hb35.symm:¬ (t.kind = 5));refine zj H rfl (Ag ?_);obtain ⟨b46,hb46⟩:∃ b,b = decide (t.kind = 7):=⟨_,rfl⟩;refine KG (b:=b46) H rfl rfl (by rw [hb46]; exact Bool.eq_iff_iff.2 (by simp; omega)) rfl fun a H=>za H rfl fun H=>?_;exact zN (hjo36 _ b46 H.c (by rw [hb46]; exact decide_eq_decide.2 ⟨.inr,fun h=>h.resolve_left c45⟩))
       ·have H:=Hs44;have c47:=(of_decide_eq_true hb35.symm:t.kind = 5);refine zi H rfl ?_;exact wp_skip (tn (hjo36 _ true H.c (decide_eq_true (.inl c47)).symm))
      ·have H:=Hs31;have c48:=(of_decide_eq_true hbo.symm:t.kind = 4∨t.kind = 6);refine zi H rfl (zs fun j49=>zr fun j50=>zm H rfl fun H=>?_)
       by_cases q51:(d) = ((0:Int))
       ·refine zet H rfl rfl fun H=>zm H rfl fun H=>zo H rfl (zm H rfl fun H=>zo H rfl ?_)
        by_cases q52:(fr) < ((0:Int))
        ·refine zlt H rfl rfl fun H=>zo H rfl (zm H rfl fun H=>zf H rfl fun H=>zf H rfl fun H=>zf H rfl fun H=>zo H rfl (zp H rfl rfl fun H=>zp H rfl rfl fun H=>zN (j50 ?_)));refine zi H rfl (Ag (zg PG H rfl fun H=>Ai CC H rfl (hr24 2 _ rfl).1 rfl fun a H=>za H rfl fun H=>za H rfl fun H=>zN (j49 ?_)));refine Ag (zm H rfl fun H=>Cy (r:=(d+(1:Int))) H rfl rfl fun H=>za H rfl fun H=>wpList_nil (bn (bn (tn (j20 ?_)))));refine zK H [1,5,7,8,9,31,32,33] rfl fun H=>Ag (Cy (r:=((j+1:Nat):Int)) H rfl rfl fun H=>zm H rfl fun H=>?_)
         have hst:DI odd (kpX t) (d,fr,en) = ((d+(1:Int)),((t.pos:Nat):Int),(-1:Int)):=by
          unfold DI kpX;simp only;rw [if_pos (by omega),if_pos (by exact ⟨by omega,.inl (by omega)⟩)]
         refine zN (⟨⟨j+1,_,_,_,H.c,hb325,by omega,Ep (by omega) hsc (by rw [ht]; exact hst),by omega,by omega⟩,?_⟩);have h2:=congrArg AC (H.ev (x:=.tmp 33) rfl);have h1:=HE.out
         show N - AC _ < N - AC _
         rw [h1,h2];simp only [AC];omega
        ·refine zlf H rfl rfl fun H=>zo H rfl (zm H rfl fun H=>zo H rfl (zm H rfl fun H=>zo H rfl (y_rem (n:=2) H rfl rfl (by omega) rfl fun a H=>zo H rfl ?_)))
         by_cases q53:(((c % 2:Nat):Int)) = ((1:Int))
         ·refine zet H rfl rfl fun H=>zo H rfl (zp H rfl rfl fun H=>zp H rfl rfl fun H=>zN (j50 ?_));refine zi H rfl (Ag (zg PG H rfl fun H=>Ai CC H rfl (hr24 2 _ rfl).1 rfl fun a H=>za H rfl fun H=>za H rfl fun H=>zN (j49 ?_)));refine Ag (zm H rfl fun H=>Cy (r:=(d+(1:Int))) H rfl rfl fun H=>za H rfl fun H=>wpList_nil (bn (bn (tn (j20 ?_)))));refine zK H [1,5,7,8,9,31,32,33] rfl fun H=>Ag (Cy (r:=((j+1:Nat):Int)) H rfl rfl fun H=>zm H rfl fun H=>?_)
          have hst:DI odd (kpX t) (d,fr,en) = ((d+(1:Int)),((t.pos:Nat):Int),(-1:Int)):=by
           unfold DI kpX;simp only;rw [if_pos (by omega),if_pos (by exact ⟨by omega,.inr (by rw [hodd]; exact decide_eq_true (by omega))⟩)]
          refine zN (⟨⟨j+1,_,_,_,H.c,hb325,by omega,Ep (by omega) hsc (by rw [ht]; exact hst),by omega,by omega⟩,?_⟩);have h2:=congrArg AC (H.ev (x:=.tmp 33) rfl);have h1:=HE.out
          show N - AC _ < N - AC _
          rw [h1,h2];simp only [AC];omega
         ·refine zef H rfl rfl fun H=>zo H rfl (zp H rfl rfl fun H=>zp H rfl rfl fun H=>zN (j50 ?_));refine zj H rfl (wp_skip (tn (j49 ?_)));refine Ag (zm H rfl fun H=>Cy (r:=(d+(1:Int))) H rfl rfl fun H=>za H rfl fun H=>wpList_nil (bn (bn (tn (j20 ?_)))));refine zK H [1,5,7,8,9,31,32,33] rfl fun H=>Ag (Cy (r:=((j+1:Nat):Int)) H rfl rfl fun H=>zm H rfl fun H=>?_)
          have hst:DI odd (kpX t) (d,fr,en) = ((d+(1:Int)),fr,en):=by
           unfold DI kpX;simp only;rw [if_pos (by omega),if_neg (by rintro ⟨_,h | h⟩; omega; rw [hodd] at h; have:=of_decide_eq_true h; omega)]
          refine zN (⟨⟨j+1,_,_,_,H.c,hb325,by omega,Ep (by omega) hsc (by rw [ht]; exact hst),by omega,by omega⟩,?_⟩);have h2:=congrArg AC (H.ev (x:=.tmp 33) rfl);have h1:=HE.out
          show N - AC _ < N - AC _
          rw [h1,h2];simp only [AC];omega
       ·refine zef H rfl rfl fun H=>zm H rfl fun H=>zf H rfl fun H=>zf H rfl fun H=>zf H rfl fun H=>zu H rfl fun H=>zu H rfl fun H=>zu H rfl fun H=>zf H rfl fun H=>zp H rfl rfl fun H=>zN (j50 ?_);refine zj H rfl (wp_skip (tn (j49 ?_)));refine Ag (zm H rfl fun H=>Cy (r:=(d+(1:Int))) H rfl rfl fun H=>za H rfl fun H=>wpList_nil (bn (bn (tn (j20 ?_)))));refine zK H [1,5,7,8,9,31,32,33] rfl fun H=>Ag (Cy (r:=((j+1:Nat):Int)) H rfl rfl fun H=>zm H rfl fun H=>?_)
        have hst:DI odd (kpX t) (d,fr,en) = ((d+(1:Int)),fr,en):=by
         unfold DI kpX;simp only;rw [if_pos (by omega),if_neg (by rintro ⟨h,_⟩; omega)]
        refine zN (⟨⟨j+1,_,_,_,H.c,hb325,by omega,Ep (by omega) hsc (by rw [ht]; exact hst),by omega,by omega⟩,?_⟩);have h2:=congrArg AC (H.ev (x:=.tmp 33) rfl);have h1:=HE.out
        show N - AC _ < N - AC _
        rw [h1,h2];simp only [AC];omega
     have Hs54:=H
     rcases b29 with _ | _
     ·have H:=Hs54;have c55:=(of_decide_eq_false hb29.symm:¬ (t.kind = 4));refine zj H rfl (Ag ?_);obtain ⟨b56,hb56⟩:∃ b,b = decide (t.kind = 6):=⟨_,rfl⟩;refine KG (b:=b56) H rfl rfl (by rw [hb56]; exact Bool.eq_iff_iff.2 (by simp; omega)) rfl fun a H=>za H rfl fun H=>?_;exact zN (hjo30 _ b56 H.c (by rw [hb56]; exact decide_eq_decide.2 ⟨.inr,fun h=>h.resolve_left c55⟩))
     ·have H:=Hs54;have c57:=(of_decide_eq_true hb29.symm:t.kind = 4);refine zi H rfl ?_;exact wp_skip (tn (hjo30 _ true H.c (decide_eq_true (.inl c57)).symm))
    ·have hb1k:=hb1.trans (hbk.mono hb1.size);have hvk:=hvO.below hbk;rw [List.take_of_length_le (by omega)] at hsc;refine zr fun j58=>zlf H rfl rfl fun H=>zN (j58 ?_);refine zs fun j59=>zj H rfl (wp_exit (te (te (Bc (tn (j15 ?_))))));refine zs fun j60=>zr fun j61=>zm H rfl fun H=>?_
     by_cases q62:(fr) < ((0:Int))
     ·refine zlt H rfl rfl fun H=>zm H rfl fun H=>zf H rfl fun H=>zf H rfl fun H=>zf H rfl fun H=>zp H rfl rfl fun H=>zN (j61 ?_);refine zK H [1,5,8,9,77] rfl fun H=>zi H rfl (zr fun j63=>za H rfl fun H=>zN (j63 ?_));refine wp_ret (tr (Pe (by rfl) H rfl ?_));exact ⟨rfl,hb1k⟩
     ·refine zlf H rfl rfl fun H=>zm H rfl fun H=>zo H rfl (zm H rfl fun H=>zo H rfl (zm H rfl fun H=>zo H rfl ?_))
      by_cases q64:(en)≤(fr)
      ·refine zqt H rfl rfl fun H=>zp H rfl rfl fun H=>zN (j61 ?_);refine zi H rfl (zr fun j65=>za H rfl fun H=>zN (j65 ?_));refine zK H [1,4,5,8,9] rfl fun H=>wp_ret (tr (Pe (by rfl) H rfl ?_));exact ⟨rfl,hb1k⟩
      ·refine zqf H rfl rfl fun H=>zp H rfl rfl fun H=>zN (j61 ?_);refine zj H rfl (wp_skip (tn (j60 ?_)));refine zs fun j66=>?_;have Hs67:=H;obtain ⟨F,rfl⟩:∃ F:Nat,fr = F:=⟨fr.toNat,by omega⟩;have H:=Hs67;have Hs68:=H;obtain ⟨E,rfl⟩:∃ E:Nat,en = E:=⟨en.toNat,by omega⟩;have H:=Hs68;have hrm:=Nat.mod_lt c (show 0 < E - F by omega);obtain ⟨m,hm⟩:∃ m,m = F+1+c % (E - F):=⟨_,rfl⟩;obtain ⟨hmo,hcut⟩:=Km ps odd (deep:=d) (fr:=((F:Nat):Int)) (en:=((E:Nat):Int)) (by rw [hlq]; exact hsc) (by omega) (by omega) m (by omega) (by omega);obtain ⟨hEo,_⟩:=Km ps odd (deep:=d) (fr:=((F:Nat):Int)) (en:=((E:Nat):Int)) (by rw [hlq]; exact hsc) (by omega) (by omega) E (by omega) (by omega);refine Ag (zm H rfl fun H=>zm H rfl fun H=>Cy (r:=((F+1:Nat):Int)) H rfl rfl fun H=>zm H rfl fun H=>zm H rfl fun H=>zm H rfl fun H=>D3 (r:=((E - F:Nat):Int)) H rfl rfl fun H=>y_rem (n:=E - F) H rfl rfl (by omega) rfl fun a H=>Cy (r:=((m:Nat):Int)) H rfl rfl fun H=>Ro Tryz.underlying22 Af H rfl rfl hvk (by omega) (by omega) rfl fun a vc H hvc=>?_);replace hvc:View _ gO vc ((B0 ps).out.take m):=hvc;refine zC Ld H rfl (Calls.mono ((Ht _ _ gO wk hvc (by simp; omega) (hgl.below hb1k) (by have:=hb1k.size; omega)).mono fun e w2 h=>h.flag hcut) ?_);rintro e w2 ⟨v2,rfl,hb2⟩;refine zR fun H=>?_;have hb12:=Ac hb1k hb2;refine zm H rfl fun H=>zx H rfl rfl fun H=>zx H rfl rfl fun H=>za H rfl fun H=>za H rfl fun H=>zN (j66 ?_);refine zK H [5,13] rfl fun H=>zr fun j69=>zm H rfl fun H=>zC Ld H rfl (Calls.mono ((Ht _ _ gO w2 (hvk.below hb2) (by omega) (hgl.below hb12) (by have:=hb12.size; omega)).mono fun e w2 h=>h.flag hall) ?_);rintro e w3 ⟨v3,rfl,hb3⟩;refine zR fun H=>?_;have hb13:=Ac hb12 hb3;refine zm H rfl fun H=>zx H rfl rfl fun H=>zx H rfl rfl fun H=>za H rfl fun H=>za H rfl fun H=>zN (j69 ?_);refine zr fun j70=>zm H rfl fun H=>Hm H rfl fun H=>zm H rfl fun H=>zo H rfl (zm H rfl fun H=>zp H rfl rfl fun H=>za H rfl fun H=>zN (j70 ?_));refine wp_ret (Pe (by rfl) H rfl ?_);exact ⟨rfl,hb13⟩
theorem IY (v:Value) (z:Int) (ps:List UInt8) (g:Nat) (w:World) (hv:View w g v ps) (hz:z≤9223372036854775807) (hgl:Glob w) (h9:9≤w.heap.size) :
  Calls Tryz.prog 3 #[v,.int .i64 z] w fun e w'=>e = .returned (.bool true)∧Below w.heap.size w w':=by
 by_cases hne:ps = []
 ·subst hne;exact F4 v z [] 0 w hv.any (by omega) hz hgl h9
 ·exact F4 v z ps g w hv (hv.lt hne) hz hgl h9
end
section
theorem Pm {H:Type} {enc:TypeId × Value→H} {P:Program} {W:World} {T E:TypeId} {r:Reach} {b0:Nat} {v:Value} {d:DataW H} {ps:List MemPlace} (ht:P.underlying T = some (.slice E)) (he:P.underlying E = some (.int .u8))
  (hc:P.cellsOf E = 1) (hval:Value.okWide P W r b0 T v) (hd:DataW.Trod enc P W 0 (fun _=>true) true T v d ps):∃ g bs,View W g v bs:=by
 obtain ⟨a0,len,cap,rfl⟩:=okWide_slice ht hval;obtain ⟨fuel,hf⟩:=hd
 rcases open_ints ht he hc hf with ⟨hcs,hx⟩ | ⟨a,len',cap',zs,hcs,_,hl,hm,hz,hx,hcell,hwz⟩
 ·simp [Value.cells] at hcs;obtain ⟨rfl,rfl,rfl⟩:=hcs;exact ⟨0,[],none,0,rfl,by simp,by simp [maxLen],fun _=>rfl,0,fun h=>absurd rfl h,fun j hj=>by simp at hj⟩
 ·simp [Value.cells] at hcs;obtain ⟨rfl,rfl,rfl⟩:=hcs
  have hz2:zs.length = cap:=by simpa using hz
  by_cases h0:cap = 0
  ·have hl0:len = 0:=by omega
   subst h0;subst hl0;exact ⟨0,[],some a,0,rfl,by simp,hm,(fun h=>by cases h),0,fun h=>absurd rfl h,fun j hj=>by simp at hj⟩
  ·obtain ⟨b,off,rfl,hc2⟩:=ints_at hcell (by omega);refine ⟨b,(zs.take len).map (fun n=>UInt8.ofNat n.toNat),some ⟨b,off,none⟩,cap,?_,?_,hm,(fun h=>by cases h),off,fun _=>rfl,?_⟩
   ·simp; omega
   ·simp; omega
   ·intro j hj
    have hj2:j < len∧j < zs.length:=by simp at hj; omega
    have h1:=hc2 j hj2.2;rw [h1];have hw:=hwz (zs.getD j 0) (by rw [List.getD_eq_getElem?_getD,List.getElem?_eq_getElem hj2.2]; exact List.getElem_mem hj2.2)
    have hb:0≤zs.getD j 0∧zs.getD j 0 < 256:=by
     simp [Lit.wf,IntKind.min,IntKind.max,IntKind.signed,IntKind.bits] at hw;simp; omega
    have e:=RH hb;simp only [List.getElem_map,List.getElem_take]
    have e2:zs.getD j 0 = zs[j]'hj2.2:=by rw [List.getD_eq_getElem?_getD,List.getElem?_eq_getElem hj2.2]; try rfl
    rw [e2] at e ⊢;rw [e]
end
section
def RB:Go.Shelf.Ren:=⟨fun n=>n,fun | 5=>5 | 119=>125 | 138=>127 | 139=>128 | n=>n,fun | 3=>4 | 4=>5 | n=>n⟩
theorem RD:U8Types Tryz.prog RB:=⟨by kernel_rfl,by kernel_rfl,by kernel_rfl,by kernel_rfl⟩
theorem RE:U8Extra Tryz.prog RB:=⟨by kernel_rfl,by kernel_rfl,by kernel_rfl,by kernel_rfl,by kernel_rfl,by kernel_rfl,by kernel_rfl⟩
theorem acc_eq:(Rows.laid_unicode_utf8_acceptRanges:DataW Unit) = Lib.acceptData:=by kernel_rfl
def Ta:List Int:=[0,1,56,2,57,49,28,3,61,58,42,50,38,29,17,4,62,47,59,36,45,43,51,22,53,39,33,30,24,18,12,5,63,55,48,27,60,41,37,16,46,35,44,21,52,32,23,11,54,26,40,15,34,20,31,10,25,14,19,9,13,8,7,6]
theorem Ri:(Rows.laid_math_bits_deBruijn64tab:DataW Unit) = Lib.tabData .u8 Ta:=by kernel_rfl
theorem ON : "*" ++ "errors.errorString" = "*errors.errorString" := by decide
theorem err_row (u : TypeId) (h : Tryz.prog.typeName? 3 u = some "*errors.errorString") : u = 138 :=
 typeName_ptr_named (nm := "errors.errorString") (by rw [ON]; kernel_rfl) (by kernel_rfl) (by decide) u (by rw [ON]; exact h)
theorem J2 {n : String} {text : List UInt8} {r : List (String × DataW Unit)} {W : World} {g : Nat} (h : laidMet Tryz.prog ((n, .iface "*errors.errorString" (.ptr (.agg [.lit (.string text)]))) :: r) W)
  (hg:Tryz.prog.globalNamed n = some g) (ht:(Tryz.prog.globals[g]?).map (·.type) = some 52):ErrVar g W:=by
 obtain ⟨a,s,hv,_⟩:=laid_sentinel h hg ht Tryz.underlying52 err_row Tryz.underlying138 Tryz.underlying140 rfl rfl Tryz.underlying9 (by kernel_rfl) (by kernel_rfl);have:=World.var?_cell hg hv 0;exact ⟨_,_,by simpa using this⟩
structure Glob9 (w:World):Prop where
 glob:Glob w
 size:9≤w.heap.size
 bits:w.cell? ⟨8,15,none⟩ = some (.int .u8 4)
theorem My {W:World} (h:laidMetH Tryz.prog Rows.fnTextPeeksRow.laid W):Glob9 W:=by
 rw [MakeChecks.laidMetH_plain _ _ _ (by kernel_rfl)] at h;have h' : laidMet Tryz.prog [("math/bits.deBruijn32tab", Rows.laid_math_bits_deBruijn32tab), ("math/bits.deBruijn64tab", Rows.laid_math_bits_deBruijn64tab), ("internal/strconv.uint64pow10", Rows.laid_internal_strconv_uint64pow10), ("unicode/utf8.acceptRanges", Rows.laid_unicode_utf8_acceptRanges), ("strconv.ErrRange", Rows.laid_strconv_ErrRange), ("strconv.ErrSyntax", Rows.laid_strconv_ErrSyntax), ("pub-codicil/pub/protobuf/inner/encoding/text.ErrUnexpectedEOF", Rows.laid_pub_codicil_pub_protobuf_inner_encoding_text_ErrUnexpectedEOF), ("unicode/utf8.first", Rows.laid_unicode_utf8_first)] W := h;rw [acc_eq, Ri] at h';have h4 := h'.tail.tail.tail.tail;have e4 : ErrVar 3 W := J2 h4 (by kernel_rfl) (by kernel_rfl);have e3 : ErrVar 2 W := J2 h4.tail (by kernel_rfl) (by kernel_rfl);have e0 : ErrVar 0 W := J2 h4.tail.tail (by kernel_rfl) (by kernel_rfl)
 have hb:W.cell? ⟨8,15,none⟩ = some (.int .u8 4):=by
  obtain ⟨g, t, cs, fuel, p, hg, hty, hvar, hd⟩ := Lib.laidMet.reads h' (n := "math/bits.deBruijn64tab") (d := Lib.tabData .u8 Ta) (.tail _ (.head _));obtain rfl := Option.some.inj ((show Tryz.prog.globalNamed "math/bits.deBruijn64tab" = some 8 by kernel_rfl).symm.trans hg);obtain rfl := Option.some.inj ((show (Tryz.prog.globals[8]?).map (·.type) = some 159 by kernel_rfl).symm.trans hty);have hcs := Lib.cells_of_tab Tryz.underlying159 Tryz.underlying5 (by kernel_rfl) (by kernel_rfl) hd;have := World.var?_cell hg hvar 15;rw [this, ← Array.getElem?_toList, hcs]
  try rfl
 refine ⟨⟨?_,e0,e3,e4⟩,?_,hb⟩
 ·exact utf8Tabs_of_readsT (ρ:=RB) RD RE (Pinned.utf8First_eq ▸ Lib.laidMet.reads h' (.tail _ (.tail _ (.tail _ (.tail _ (.tail _ (.tail _ (.tail _ (.head _))))))))) (Lib.laidMet.reads h' (.tail _ (.tail _ (.tail _ (.head _)))))
 ·exact World.block_lt_of_cell? W _ hb
end
end Go.Proofs.YtgdnpnipahegaaaGreatDoor
