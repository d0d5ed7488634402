/-
 The reference's reader of the text form, walked: a CT string.
-/
import Derived.Test.YtgdnpnipahegaaaDoorQ7
import Derived.Deep.RegionHeld3
import Derived.Test.YtgdnpnipahegaaaDoorQ5
import Derived.Test.YtgdnpnipahegaaaDoorQ0
import Derived.Deep.MidRow
import Derived.IntWalk
import Derived.Defers
import Derived.Great.BuildSlice
namespace Go.Proofs.YtgdnpnipahegaaaDoor
section
open Go.ChangeShapes Go.WideShapes Go.ChangeAt Go.RowKit
theorem CM {w:World} {B:Nat} {e:TypeId} {z:Nat} {v:Value} {n:Nat} {xs:List Value} (h:w.ownsRow B e z v n xs):∃ ao c,v = .slice ao n c:=by
 rcases h.2 with ⟨rfl,h0⟩ | ⟨g,cap,cur,rfl,_⟩
 ·exact ⟨none,0,by rw [h0]⟩
 ·exact ⟨_,_,rfl⟩
theorem OwnB.slice {w:World} {B:Nat} {e:TypeId} {v:Value} {bs:List UInt8} (h:OwnB w B e v bs):∃ ao c,v = .slice ao bs.length c:=CM h
theorem OwnB.below {w w':World} {B:Nat} {e:TypeId} {v:Value} {bs:List UInt8} (h:OwnB w B e v bs) (hb:Below w.heap.size w w'):OwnB w' B e v bs:=
 World.ownsRow.kept h (row:=none) ⟨hb.os,hb.tape,hb.output,hb.size,fun k hk _=>hb.block k hk⟩ (by cases v.ownBlock <;> simp)
theorem OwnB.grw {w w':World} {B p:Nat} {v:Value} {bs:List UInt8} (h:OwnB w B 5 v bs) (hg:Grw p w w') (hp:p < B):OwnB w' B 5 v bs:=
 World.ownsRow.kept h (show w.grownBy w' (some p) from hg) (.inr fun e=>by have:=(World.ownsRow.lt h _ e).1; omega)
theorem Grw.add {p B:Nat} {a b c:World} (h:Grw p a b) (hb:Below B b c) (hB:a.heap.size≤B):Grw p a c:=show a.grownBy c (some p) from
 ⟨hb.os.trans (World.grownBy.os h),hb.tape.trans (World.grownBy.tape h),hb.output.trans (World.grownBy.output h),Nat.le_trans (World.grownBy.size h) hb.size,
  fun k hk hne=>(hb.block k (Nat.lt_of_lt_of_le hk hB)).trans (World.grownBy.block h k hk hne)⟩
theorem TS.keptB {B p g:Nat} {vb:Value} {bs:List UInt8} {k B1:Nat} {w c:World} (h:TS B p g vb bs k w) (hb:Below B1 w c) (hp:p < B1) (hg:g < B1):TS B p g vb bs k c:=h.kept hb.size (hb.block p hp) (hb.block g hg)
def atM (n p:Nat) (w:World):Nat:=n - (match w.cell? ⟨p,1,none⟩ with
 | some v=>(intOf v).toNat
 | none=>0)
theorem C1 {B p g:Nat} {vb:Value} {bs:List UInt8} {k:Nat} {w:World} (h:TS B p g vb bs k w):atM bs.length p w = bs.length - k:=by
 unfold atM;rw [h.c.2.1];simp [intOf]
theorem GU {l x:List UInt8} {n ok:Nat} (h:AP l = some (x,n,ok)):x.length≤4:=by
 cases l with
 | nil=>cases h
 | cons c l=>
  have hp:∀ d,A9 d l = some (x,n,ok)→x.length≤4:=by
   intro d h;unfold A9 at h
   split at h
   ·cases h
   ·split at h
    ·cases h
    ·split at h
     ·cases h; simp
     ·cases h; exact Dh _
  rw [Bl] at h
  split at h
  ·cases h; simp
  ·split at h
   ·unfold Fi at h
    split at h
    ·cases h; simp
    ·cases h; simp
   ·split at h
    ·unfold De at h
     split at h
     ·cases h; simp
     ·cases h; simp
    ·split at h
     ·exact hp 4 h
     ·split at h
      ·exact hp 8 h
      ·split at h
       ·cases h; simp
       ·cases h
def RStrRes (B p g:Nat) (vb:Value) (bs:List UInt8) (w:World) (r:List UInt8 × Nat × Nat) (e:Ending) (w':World):Prop:=
 (r.2.1 = 0∧(∃ v,e = .returned (.tuple #[v,.int .i64 0]))∧Grw p w w')∨∃ v,e = .returned (.tuple #[v,.int .i64 (r.2.1:Int)])∧OwnB w' w.heap.size 5 v r.1∧TS B p g vb bs (bs.length - r.2.2) w'∧Grw p w w'
theorem RStrRes.no {B p g:Nat} {vb:Value} {bs:List UInt8} {w w':World} {r:List UInt8 × Nat × Nat} (h:r = ([],0,0)) (v:Value) (hb:Grw p w w'):RStrRes B p g vb bs w r (.returned (.tuple #[v,.int .i64 0])) w':=by
 rw [h]; exact .inl ⟨rfl,⟨v,rfl⟩,hb⟩
theorem RStrRes.yes {B p g:Nat} {vb:Value} {bs:List UInt8} {w w':World} {r:List UInt8 × Nat × Nat} {out:List UInt8} {t j:Nat} (h:r = (out,t,bs.length - j)) (hj:j≤bs.length) (v:Value) (z:Int) (hz:z = (t:Int)) (ho:OwnB w' w.heap.size 5 v out) (ht:TS B p g vb bs j w') (hb:Grw p w w') :
  RStrRes B p g vb bs w r (.returned (.tuple #[v,.int .i64 z])) w':=by
 rw [h,hz]; exact .inr ⟨v,rfl,ho,by show TS B p g vb bs (bs.length - (bs.length - j)) w'; rw [show bs.length - (bs.length - j) = j by omega]; exact ht,hb⟩
section
variable {P:Program}
theorem GG {w:World} {g:Nat} {v:Value} {bs:List UInt8} (hv:View w g v bs) (t e:TypeId) (ht:P.underlying t = some (.slice e)) (hinfo:(P.info? e).map (fun i=>(i.zero,i.size,i.bytes)) = some (some (.int .u8 0),1,1))
  (k k':IntKind) (l m:Int) (n j:Nat) (hl:l = (n:Int)) (hj:m = (j:Int)) (hn:n≤j) (hm:j≤bs.length):∃ v',(∀ W,(Instr.slice t v (some (.int k l)) (some (.int k' m)) none).run P W = .ok v' W)∧View w g v' ((bs.drop n).take (j - n)):=by
 subst hl hj;obtain ⟨ao,cap,rfl,h3,h4,hn0,off,h5,h6⟩:=hv;obtain ⟨inf,hi1,hz,hz1,hz2⟩:=info_parts hinfo
 have hlen:((bs.drop n).take (j - n)).length = j - n:=by simp; omega
 refine ⟨sliced ao n j cap 1,fun W=>?_,?_⟩
 ·have hs:P.underlying t = some (.slice (P.elem t)):=by simp [Program.elem,ht]
  have he:P.elem t = e:=by simp [Program.elem,ht]
  have hsz:(sizeOf (P.elem t)).run P W = .ok 1 W:=by simp [sizeOf,typeInfo,he,hi1,hz1]
  rw [run_slice_lh W t ao bs.length cap hs k k' (n:Int) (j:Int) (by omega) (by omega) (by omega),hsz];simp [Result.andThen]
 ·refine ⟨_,_,by rw [hlen]; try rfl,by omega,by omega,by intro he; cases ao with
   | none=>have:=hn0 rfl; omega
   | some ad=>split at he <;> simp at he,off+n,?_,?_⟩
  ·intro hne
   have:j - n≠0:=by intro e; apply hne; exact List.eq_nil_of_length_eq_zero (by omega)
   have hbs:bs≠[]:=by intro e; subst e; simp at hm; omega
   rw [if_neg (by omega),h5 hbs];simp [Addr.add_lit]
  ·intro i hi;rw [hlen] at hi
   have e1:off+n+i = off+(n+i):=by omega
   rw [e1,h6 (n+i) (by omega)];simp
end
set_option maxRecDepth 100000 in
set_option maxHeartbeats 4000000 in
theorem Hc {B p g:Nat} {vb:Value} {bs:List UInt8} {k:Nat} (w:World) (h:TS B p g vb bs k w) (hk:k < bs.length) (hm:bs.length≤1000000) :
  Calls Tryd.prog 8 #[.pointer (some ⟨p,0,none⟩)] w (RStrRes B p g vb bs w (A8 bs[k].toNat (bs.drop k) (bs.drop (k+1)) [] 1)):=by
 have H0:=hid h;have hpS:=h.lt;have hgS:=h.gl;have hgp:=h.gp;obtain ⟨c0,c1,f1⟩:=h.c;obtain ⟨ao,cap,rfl,hcell⟩:=Bx h.view;obtain ⟨o,rfl,hck⟩:=hcell k hk;clear h hcell;generalize bs[k] = d at *;have bd:=Ao d
 go_enter Tryd.func8,Tryd.ntmps8
 go_wp2_with fail
 go_quiet (fail)
 go_upto_region 3 with fail
 go_cut [] from 25 to 31 (fun wx=>TS B p g (.slice (some ⟨g,o,none⟩) bs.length cap) bs (k+1) wx∧Grw p w wx)
 case first=>
  go_wp2_with fail
  go_meet
  exact ⟨(H0.out.drewN _).atZ ((k:Int)+1) (by omega) (by omega),((Grw.refl _ _).drewN _).set _ _⟩
 case rest=>
  obtain ⟨hts,hb⟩:=hcut;have HT:=hid hts;have HB:=hid hb;clear H0 hts hb hck c0 c1 f1
  go_wp2_with fail
  go_loopw [6,7] (fun u t wr=>∃ (j told:Nat) (out:List UInt8),(told = 1∨told = 2)∧t = .int .i64 (told:Int)∧A8 d.toNat (bs.drop k) (bs.drop (k+1)) [] 1 = A8 d.toNat (bs.drop k) (bs.drop j) out told∧k+1≤j∧OwnB wr w.heap.size 5 u out∧out.length≤4 * j∧TS B p g (.slice (some ⟨g,o,none⟩) bs.length cap) bs j wr∧Grw p w wr) (fun _ _ wr=>atM bs.length p wr)
  case atStart=>exact ⟨k+1,1,[],.inl rfl,rfl,rfl,Nat.le_refl _,OwnB.nil _ _ _,by simp,HT.out,HB.out⟩
  case round=>
   obtain ⟨j,told,out,htd,rfl,hrt,hkj,hown,hol,hts,hb⟩:=hrel;clear HT HB;have HT:=hid hts;have HB:=hid hb;have HRT:=hid hrt;have HOWN:=hid hown;have HTD:=hid htd;obtain ⟨c0,c1,f1⟩:=hts.c;have hle:=hts.le;have hsz:=World.grownBy.size hb;obtain ⟨ao,cp,hao,hcell⟩:=Bx hts.view;cases hao;obtain ⟨aoo,cpo,rfl⟩:=CM hown;clear hts hb hrt hown htd
   by_cases hlt:j < bs.length
   ·obtain ⟨o',ho',hck⟩:=hcell j hlt;cases ho'
    have hltI:decide ((j:Int) < (bs.length:Int)) = true:=by simp; omega
    have HRC:Hid (bs.drop j = bs[j]::bs.drop (j+1)):=hid (List.drop_eq_getElem_cons hlt);generalize bs[j] = c at *;have bc:=Ao c;clear hcell
    go_wp2_with fail
    go_quiet (fail)
    go_wp2_with fail
    go_quiet (fail)
    generalize hwd:World.drewN _ _ = wd;have HTd:Hid (TS B p g (.slice (some ⟨g,o,none⟩) bs.length cap) bs j wd):=hid (by rw [←hwd]; first | exact HT.out.drewN _ | exact (HT.out.drewN _).drewN _);have HBd:Hid (Grw p w wd):=hid (by rw [←hwd]; first | exact HB.out.drewN _ | exact (HB.out.drewN _).drewN _);have HOd:Hid (OwnB wd w.heap.size 5 (.slice aoo out.length cpo) out):=hid (by rw [←hwd]; exact HOWN.out);have hszd:=World.grownBy.size HBd.out;have HAT:=hid (C1 HT.out);clear hwd hsz hck c0 c1 f1 HT HB HOWN;obtain ⟨c0,c1,f1⟩:=HTd.out.c
    go_upto_region 10 with fail
    by_cases hcd:c.toNat = d.toNat
    ·as_aux_lemma=>
      have e0:((c.toNat:Int) == (d.toNat:Int)) = true:=by simp; omega
      have HN:Hid (A8 d.toNat (bs.drop k) (bs.drop (k+1)) [] 1 = (out,(if Bc ((bs.drop k).take (j+1 - k)) then told else 2),bs.length - (j+1))):=hid (by
       rw [HRT.out,HRC.out,BC,if_pos hcd];simp only [List.length_drop]
       rw [show bs.length - k - (bs.length - (j+1)) = j+1 - k by omega])
      obtain ⟨vs,hsl,hvs⟩:=GG (P:=Tryd.prog) HTd.out.view 27 5 Tryd.underlying27 Ab .i64 .i64 (k:Int) ((j:Int)+1) k (j+1) rfl (by omega) (by omega) (by omega);have HSL:=hid hsl;have HVS:=hid hvs;clear hsl hvs hcd
      go_upto_region 11 with fail
      go_cut [] from 67 to 73 (fun wx=>TS B p g (.slice (some ⟨g,o,none⟩) bs.length cap) bs (j+1) wx∧Grw p w wx∧OwnB wx w.heap.size 5 (.slice aoo out.length cpo) out∧Grw p wd wx)
      case first=>
       go_wp2_with fail
       go_meet
       exact ⟨HTd.out.atZ ((j:Int)+1) (by omega) (by omega),HBd.out.set _ _,HOd.out.grw ((Grw.refl _ _).set _ _) hpS,(Grw.refl _ _).set _ _⟩
      case rest=>
       obtain ⟨hts,hb,how,hgr⟩:=hcut
       rename_i KK
       refine KK _ _ ?_;clear KK;obtain ⟨d0,d1,_⟩:=hts.c;have hgx:wc.heap[g]? = wd.heap[g]?:=World.grownBy.block hgr g HTd.out.gl (fun e=>hgp (by injection e));have hvx:∀ W:World,W.heap[g]? = wc.heap[g]?→View W g vs ((bs.drop k).take (j+1 - k)):=fun W hW=>HVS.out.kept (hW.trans hgx);have HTx:=hid hts;have HBx:=hid hb;have HOx:=hid how
       have hlen:((bs.drop k).take (j+1 - k)).length≤1000000:=by simp; omega
       have HUV:Hid (∀ W:World,W.heap[g]? = wc.heap[g]?→Calls Tryd.prog 11 #[vs] W fun e w'=>e = .returned (.bool (Bc ((bs.drop k).take (j+1 - k))))∧Below W.heap.size W w'):=hid fun W hW=>Ey vs _ g W (hvx W hW) hlen;clear hts hb how hgr hgx hvx hlen c0 c1 f1;have hsl:=HSL.out;have hpx:=HTx.out.lt;generalize Bc ((bs.drop k).take (j+1 - k)) = bv at *;clear HTd HBd HOd HVS HSL
       rcases bv with _ | _
       all_goals
        go_upto_region 12 with fail
        go_region_held3 (fun w'=>w'.cell? ⟨p,0,none⟩ = some (.slice (some ⟨g,o,none⟩) bs.length cap)∧w'.cell? ⟨p,1,none⟩ = some (.int .i64 ((j:Int)+1))) (first | with_reducible exact K3.out | go_keep)
         ((go_at_call 11; refine (Calls.mono (HUV.out _ rfl) ?_); rintro e w2 ⟨rfl,hb2⟩; have K3:Hid (w2.cell? ⟨p,0,none⟩ = some (.slice (some ⟨g,o,none⟩) bs.length cap)∧w2.cell? ⟨p,1,none⟩ = some (.int .i64 ((j:Int)+1))):=hid ⟨(hb2.cell (p:=⟨p,0,none⟩) hpx).trans d0,(hb2.cell (p:=⟨p,1,none⟩) hpx).trans d1⟩; have HB2:=hid hb2; clear hb2))
        all_goals
         go_wp2_with fail
         go_ret2
         exact .yes HN.out (by omega) _ _ (by rfl) ((HOx.out.below ((Below.refl _ _).drew)).below HB2.out) (HTx.out.below ((Below.refl _ _).drew.trans HB2.out)) (HBx.out.thenBelow ((Below.refl _ _).drew.trans HB2.out))
    ·have e0:((c.toNat:Int) == (d.toNat:Int)) = false:=by simp; omega
     by_cases h10:c.toNat = 10
     ·have HN:Hid (A8 d.toNat (bs.drop k) (bs.drop (k+1)) [] 1 = ([],0,0)):=hid (by rw [HRT.out,HRC.out,BC,if_neg hcd,if_pos h10])
      have e1:((c.toNat:Int) == 10) = true:=by simp; omega
      clear h10 hcd
      go_wp2_with fail
      go_ret2
      exact .no HN.out _ HBd.out
     ·have e1:((c.toNat:Int) == 10) = false:=by simp; omega
      by_cases h92:c.toNat = 92
      ·as_aux_lemma=>
        have e2:((c.toNat:Int) == 92) = true:=by simp; omega
        have HE:=hid (Ge wd HTd.out hlt (by omega))
        have hrr:A8 d.toNat (bs.drop k) (bs.drop (k+1)) [] 1 = (match AP (bs.drop (j+1)) with
          | none=>([],0,0)
          | some (x,n,ok)=>A8 d.toNat (bs.drop k) ((bs.drop (j+1)).drop n) (out++x) (max told ok)):=by rw [HRT.out,HRC.out,BC,if_neg hcd,if_neg h10,if_pos h92]; try rfl
        rcases he:AP (bs.drop (j+1)) with _ | ⟨x,n,ok⟩
        ·rw [he] at HE hrr;have HN:=hid hrr;clear hrr he hcd h10 h92
         go_wp2_with (first
          | (go_at_call 12; refine (Calls.mono HE.out ?_); rintro e w1 ⟨⟨v1,rfl⟩,hg1⟩)
          | fail)
         go_ret2
         exact .no HN.out _ (HBd.out.trans hg1)
        ·rw [he] at HE hrr;obtain ⟨hn1,hn2,hok⟩:=Bk he;have hxl:=GU he
         have hn3:j+1+n≤bs.length:=by simp at hn1; omega
         have HR:Hid (A8 d.toNat (bs.drop k) (bs.drop (k+1)) [] 1 = A8 d.toNat (bs.drop k) (bs.drop (j+1+n)) (out++x) (max told ok)):=hid (by rw [hrr]; simp only [List.drop_drop])
         have hz:((ok:Int) == 0) = false:=by simp; omega
         have HOK:=hid hok;clear hrr he hcd h10 h92 hn1 hok
         go_wp2_with (first
          | (go_at_call 12; refine (Calls.mono HE.out ?_); rintro e w1 ⟨v1,rfl,⟨g1,hv1⟩,ht1,hg1⟩; obtain ⟨ao3,n3,cp3,rfl⟩:=hv1.slice3; have hsz1:=Nat.le_trans hszd (World.grownBy.size hg1); have HV1:=hid hv1; have HT1:=hid ht1; have HG1:=hid hg1; have HO1:=hid (HOd.out.grw hg1 hpS); clear hv1 ht1 hg1)
          | (refine Bg _ rfl _ _ 27 rfl w.heap.size 5 Tryd.underlying27 Ab _ out rfl HO1.out (Below.refl _ _) hsz1 g1 _ x rfl HV1.out (by omega) ?_; intro v2 w2 ho2 hb2 _; have HO2:=hid ho2; have HB2:=hid hb2; clear ho2 hb2)
          | fail)
         go_roundw
         case rel=>exact ⟨j+1+n,max told ok,out++x,by have:=HTD.out; have:=HOK.out; omega,by congr 1; omega,HR.out,by omega,HO2.out,by simp; omega,HT1.out.keptB HB2.out hpS hgS,(HBd.out.trans HG1.out).add HB2.out (Nat.le_refl _)⟩
         case measure=>rw [C1 (HT1.out.keptB HB2.out hpS hgS),HAT.out]; omega
      ·have e2:((c.toNat:Int) == 92) = false:=by simp; omega
       have HR0:Hid (A8 d.toNat (bs.drop k) (bs.drop (k+1)) [] 1 = A8 d.toNat (bs.drop k) (bs.drop (j+1)) (out++[c]) (if DU c then 2 else told)):=hid (by rw [HRT.out,HRC.out,BC,if_neg hcd,if_neg h10,if_neg h92]);have hcs:(DU c = true∧(((c.toNat:Int) < 32∧((c.toNat:Int) != 9) = true)∨(¬ (c.toNat:Int) < 32∧((c.toNat:Int) == 127) = true)))∨
         (DU c = false∧((¬ (c.toNat:Int) < 32∧((c.toNat:Int) == 127) = false∧(128:Int)≤(c.toNat:Int))∨((c.toNat:Int) < 32∧((c.toNat:Int) != 9) = false∧((c.toNat:Int) == 127) = false∧¬ (128:Int)≤(c.toNat:Int))∨(¬ (c.toNat:Int) < 32∧((c.toNat:Int) == 127) = false∧¬ (128:Int)≤(c.toNat:Int)))):=by
        unfold DU;simp;omega
       clear hcd h10 h92
       rcases hcs with ⟨hct,hcs⟩ | ⟨hct,hcs⟩
       ·have HR:Hid (A8 d.toNat (bs.drop k) (bs.drop (k+1)) [] 1 = A8 d.toNat (bs.drop k) (bs.drop (j+1)) (out++[c]) 2):=hid (by rw [HR0.out,hct]; try rfl);clear HR0 hct
        rcases hcs with ⟨q1,q2⟩ | ⟨q1,q2⟩
        ·as_aux_lemma=>
          have q3:(c.toNat:Int) < 128:=by omega
          go_wp2_with (first
           | (at_builtin; refine Ac _ rfl _ _ 27 rfl w.heap.size 5 Tryd.underlying27 Ab _ out rfl HOd.out (w0:=wd) (Below.refl _ _) hszd _ bc 1 rfl (by omega) ?_; intro v1 w1 ho1 hb1; rw [Dj] at ho1; have HO1:=hid ho1; have c2:=(hb1.cell (p:=⟨p,1,none⟩) hpS).trans c1; have f2:=(hb1.frozen (p:=⟨p,1,none⟩) hpS).trans f1; have HB1:=hid hb1; clear ho1 hb1)
           | fail)
          go_roundw
          case rel=>exact ⟨j+1,2,out++[c],.inr rfl,rfl,HR.out,by omega,HO1.out.grw ((Grw.refl _ _).set _ _) hpS,by simp; omega,(HTd.out.keptB HB1.out hpS hgS).atZ _ (by omega) (by omega),(HBd.out.add HB1.out (Nat.le_refl _)).set _ _⟩
          case measure=>rw [C1 ((HTd.out.keptB HB1.out hpS hgS).atZ ((j:Int)+1) (j:=j+1) (by omega) (by omega)),HAT.out]; omega
        ·as_aux_lemma=>
          have q3:(c.toNat:Int) < 128:=by simp at q2; omega
          go_wp2_with (first
           | (at_builtin; refine Ac _ rfl _ _ 27 rfl w.heap.size 5 Tryd.underlying27 Ab _ out rfl HOd.out (w0:=wd) (Below.refl _ _) hszd _ bc 1 rfl (by omega) ?_; intro v1 w1 ho1 hb1; rw [Dj] at ho1; have HO1:=hid ho1; have c2:=(hb1.cell (p:=⟨p,1,none⟩) hpS).trans c1; have f2:=(hb1.frozen (p:=⟨p,1,none⟩) hpS).trans f1; have HB1:=hid hb1; clear ho1 hb1)
           | fail)
          go_roundw
          case rel=>exact ⟨j+1,2,out++[c],.inr rfl,rfl,HR.out,by omega,HO1.out.grw ((Grw.refl _ _).set _ _) hpS,by simp; omega,(HTd.out.keptB HB1.out hpS hgS).atZ _ (by omega) (by omega),(HBd.out.add HB1.out (Nat.le_refl _)).set _ _⟩
          case measure=>rw [C1 ((HTd.out.keptB HB1.out hpS hgS).atZ ((j:Int)+1) (j:=j+1) (by omega) (by omega)),HAT.out]; omega
       ·have HR:Hid (A8 d.toNat (bs.drop k) (bs.drop (k+1)) [] 1 = A8 d.toNat (bs.drop k) (bs.drop (j+1)) (out++[c]) told):=hid (by rw [HR0.out,hct]; try rfl);clear HR0 hct
        rcases hcs with ⟨q1,q2,q3⟩ | ⟨q1,q2,q3,q4⟩ | ⟨q1,q2,q3⟩
        ·as_aux_lemma=>
          have q5:¬ (c.toNat:Int) < 128:=by omega
          go_wp2_with (first
           | (at_builtin; refine Ac _ rfl _ _ 27 rfl w.heap.size 5 Tryd.underlying27 Ab _ out rfl HOd.out (w0:=wd) (Below.refl _ _) hszd _ bc 1 rfl (by omega) ?_; intro v1 w1 ho1 hb1; rw [Dj] at ho1; have HO1:=hid ho1; have c2:=(hb1.cell (p:=⟨p,1,none⟩) hpS).trans c1; have f2:=(hb1.frozen (p:=⟨p,1,none⟩) hpS).trans f1; have HB1:=hid hb1; clear ho1 hb1)
           | fail)
          go_roundw
          case rel=>exact ⟨j+1,told,out++[c],HTD.out,rfl,HR.out,by omega,HO1.out.grw ((Grw.refl _ _).set _ _) hpS,by simp; omega,(HTd.out.keptB HB1.out hpS hgS).atZ _ (by omega) (by omega),(HBd.out.add HB1.out (Nat.le_refl _)).set _ _⟩
          case measure=>rw [C1 ((HTd.out.keptB HB1.out hpS hgS).atZ ((j:Int)+1) (j:=j+1) (by omega) (by omega)),HAT.out]; omega
        ·as_aux_lemma=>
          go_wp2_with (first
           | (at_builtin; refine Ac _ rfl _ _ 27 rfl w.heap.size 5 Tryd.underlying27 Ab _ out rfl HOd.out (w0:=wd) (Below.refl _ _) hszd _ bc 1 rfl (by omega) ?_; intro v1 w1 ho1 hb1; rw [Dj] at ho1; have HO1:=hid ho1; have c2:=(hb1.cell (p:=⟨p,1,none⟩) hpS).trans c1; have f2:=(hb1.frozen (p:=⟨p,1,none⟩) hpS).trans f1; have HB1:=hid hb1; clear ho1 hb1)
           | fail)
          go_roundw
          case rel=>exact ⟨j+1,told,out++[c],HTD.out,rfl,HR.out,by omega,HO1.out.grw ((Grw.refl _ _).set _ _) hpS,by simp; omega,(HTd.out.keptB HB1.out hpS hgS).atZ _ (by omega) (by omega),(HBd.out.add HB1.out (Nat.le_refl _)).set _ _⟩
          case measure=>rw [C1 ((HTd.out.keptB HB1.out hpS hgS).atZ ((j:Int)+1) (j:=j+1) (by omega) (by omega)),HAT.out]; omega
        ·as_aux_lemma=>
          go_wp2_with (first
           | (at_builtin; refine Ac _ rfl _ _ 27 rfl w.heap.size 5 Tryd.underlying27 Ab _ out rfl HOd.out (w0:=wd) (Below.refl _ _) hszd _ bc 1 rfl (by omega) ?_; intro v1 w1 ho1 hb1; rw [Dj] at ho1; have HO1:=hid ho1; have c2:=(hb1.cell (p:=⟨p,1,none⟩) hpS).trans c1; have f2:=(hb1.frozen (p:=⟨p,1,none⟩) hpS).trans f1; have HB1:=hid hb1; clear ho1 hb1)
           | fail)
          go_roundw
          case rel=>exact ⟨j+1,told,out++[c],HTD.out,rfl,HR.out,by omega,HO1.out.grw ((Grw.refl _ _).set _ _) hpS,by simp; omega,(HTd.out.keptB HB1.out hpS hgS).atZ _ (by omega) (by omega),(HBd.out.add HB1.out (Nat.le_refl _)).set _ _⟩
          case measure=>rw [C1 ((HTd.out.keptB HB1.out hpS hgS).atZ ((j:Int)+1) (j:=j+1) (by omega) (by omega)),HAT.out]; omega
   ·have HN:Hid (A8 d.toNat (bs.drop k) (bs.drop (k+1)) [] 1 = ([],0,0)):=hid (by rw [HRT.out,show bs.drop j = [] from List.drop_of_length_le (by omega)]; try rfl)
    have hltI:decide ((j:Int) < (bs.length:Int)) = false:=by simp; omega
    clear hcell
    go_wp2_with fail
    go_quiet (fail)
    go_wp2_with fail
    go_ret2
    exact .no HN.out _ (HB.out.drewN _)
end
section
open Go.ChangeShapes Go.WideShapes Go.ChangeAt Go.RowKit
theorem EM {w:World} {q:Nat} {cs:Array Value} {t:TypeId} (h:w.heap[q]? = some (.cells cs t (0,0))):RowAt w q cs.toList:=fun j u hu=>
 ⟨by rw [cell_of_row w q j cs t (0,0) h,←Array.getElem?_toList]; exact hu,frozen_of_row w q j cs t h⟩
section
variable {P:Program} {ops:Array Oper} {rest:List Oper} {o:Oper} {a:Act} {Q:Exit→Act→World→Prop}
theorem B4 (w:World) (hgd:o.guard = none) (x:Operand) (src dst e:TypeId) (ho:o.op = .convert src dst x)
  (hs:P.underlying src = some .string) (hd:P.underlying dst = some (.slice e)) (he:P.underlying e = some (.int .u8))
  (l:List UInt8) (hx:a.eval x = .string ⟨l.toArray⟩) (hm:l.length≤maxLen)
  (h:∀ cap w',View w' w.heap.size (.slice (some ⟨w.heap.size,0,none⟩) l.length cap) l→w'.heap.size = w.heap.size+1→Below w.heap.size w w'→wpList P ops Q rest (a.put o.dst (.slice (some ⟨w.heap.size,0,none⟩) l.length cap)) w'):wpList P ops Q (o::rest) a w:=by
 refine wpList_plain hgd fun K hK=>?_;have hrun:=run_bytes_of_string (P:=P) w src dst e ⟨l.toArray⟩ hs hd he;have hsz:(ByteArray.mk l.toArray).size = l.length:=Am l;have hge:=grownCap_ge w (ByteArray.mk l.toArray).size 0 e;have hle:=grownCap_le_maxLen w (ByteArray.mk l.toArray).size 0 e (by rw [hsz]; exact hm);generalize grownCap w (ByteArray.mk l.toArray).size 0 e = cap at hrun hge hle;rw [hsz] at hrun hge;unfold Oper.wp;simp [execOp,ho,hx,hrun,Result.andThen];refine hK _ _ (h cap _ ?_ ?_ ?_)
 ·refine ⟨_,cap,rfl,hge,hle,(fun he=>by cases he),0,fun _=>rfl,fun j hj=>?_⟩;have hn:=heap_alloc_new w.drew (.cells (bytesRow ⟨l.toArray⟩ cap) e ((bytesRow ⟨l.toArray⟩ cap).size,(bytesRow ⟨l.toArray⟩ cap).size+1));rw [Nat.zero_add];refine (cell_of_row _ w.heap.size j _ _ _ hn).trans ?_;unfold bytesRow;rw [Array.getElem?_append_left (by simp; exact hj)];simp [List.getElem?_eq_getElem hj]
 ·show (w.heap.push _).size = _
  simp
 ·exact (Below.refl _ _).drew.alloc (Nat.le_refl _) _
end
set_option maxRecDepth 100000 in
theorem Ek (v:Value) (bs:List UInt8) (g:Nat) (w:World) (hv:View w g v bs) (hg:g < w.heap.size) (hgl:Glob w) (h9:9≤w.heap.size) :
  Calls Tryd.prog 13 #[v] w fun e w'=>e = .returned (.pointer (some ⟨w.heap.size,0,none⟩))∧DW w.heap.size w.heap.size g bs (.slice none 0 0) .nilIface (.slice none 0 0) v v DT.new w'∧Below w.heap.size w w':=by
 obtain ⟨ao,n,c,rfl⟩:=View.slice3 hv;have HV:=hid hv;have HG:=hid hgl;clear hv hgl
 go_enter Tryd.func13,Tryd.ntmps13
 go_wp2
 go_ret
 have hb:=(Below.refl _ w).alloc (Nat.le_refl _) (.cells #[.int .u8 0,.int .u8 0,.int .u8 0,.int .u8 0,.int .i64 0,.slice none 0 0,.string { data:=#[] },.nilIface,.slice none 0 0,.slice ao n c,.slice ao n c] 54);refine ⟨rfl,?_,hb⟩;have hv:=HV.out.below hb
 exact {
  row:=EM (heap_alloc_new w _)
  raw:=⟨none,0,rfl,Nat.le_refl _,Nat.zero_le _,fun _=>rfl,0,fun h=>absurd rfl h,fun j hj=>by simp [DT.new,TT.zero] at hj⟩
  err:=rfl
  own:=World.ownsRow_nil _ _ _ _
  orig:=hv
  inn:=hv
  le:=Nat.zero_le _
  glob:=HG.out.kept fun k hk _=>hb.block k hk
  b9:=h9
  bp:=Nat.le_refl _
  gp:=by omega
  gl:=Nat.lt_of_lt_of_le hg hb.size
  gs:=fun e=>by cases e
  ps:=fun e=>by cases e }
end
section
open Go.ChangeShapes Go.WideShapes Go.ChangeAt Go.RowKit
theorem Ee (c:UInt8) (r:List UInt8):CL c r = if c.toNat≠34∧c.toNat≠39 then ([],2) else if (A8 c.toNat (c::r) r [] 1).2.1≠1 then ([],(A8 c.toNat (c::r) r [] 1).2.1)
  else if (A8 c.toNat (c::r) r [] 1).2.2≠0 then ([],2) else ((A8 c.toNat (c::r) r [] 1).1,1):=rfl
theorem Fe (q:Nat) (whole:List UInt8):∀ (f:Nat) (l out:List UInt8) (told:Nat),(Bq q whole f l out told).2.2≤l.length
 | 0,_,_,_=>Nat.zero_le _
 | _+1,[],_,_=>Nat.zero_le _
 | f+1,c::l,out,told=>by
  unfold Bq
  split
  ·simp
  ·split
   ·exact Nat.zero_le _
   ·split
    ·rcases AP l with _ | ⟨x,n,ok⟩
     ·exact Nat.zero_le _
     ·have:=Fe q whole f (l.drop n) (out++x) (max told ok);simp at this ⊢; omega
    ·have:=Fe q whole f l (out++[c]) (if DU c then 2 else told);simp; omega
theorem GR (c:UInt8) (l:List UInt8) (h:0 < (⟨(c::l).toArray⟩:ByteArray).size):((⟨(c::l).toArray⟩:ByteArray)[0]'h).toNat = c.toNat:=rfl
def UnqR (l:List UInt8) (w:World) (e:Ending) (w':World):Prop:=e = .returned (.tuple #[.string ⟨(Cw l).1.toArray⟩,.int .i64 ((Cw l).2:Int)])∧Below w.heap.size w w'
theorem UnqR.mk {l o:List UInt8} {t:Nat} {w w':World} (h:Cw l = (o,t)) (z:Int) (hz:z = (t:Int)) (hb:Below w.heap.size w w'):UnqR l w (.returned (.tuple #[.string ⟨o.toArray⟩,.int .i64 z])) w':=by
 subst hz;exact ⟨by rw [h],hb⟩
theorem RStrRes.some {B p g:Nat} {vb:Value} {bs:List UInt8} {w w':World} {out:List UInt8} {t m:Nat} {e:Ending} (h:RStrRes B p g vb bs w (out,t,m) e w'):∃ v,e = .returned (.tuple #[v,.int .i64 (t:Int)])∧Grw p w w':=by
 rcases h with ⟨h0,⟨v,rfl⟩,hg⟩ | ⟨v,rfl,_,_,hg⟩
 ·refine ⟨v,?_,hg⟩;simp only at h0;subst h0;rfl
 ·exact ⟨v,rfl,hg⟩
theorem F6 (w:World) (o:Obj):(w.alloc o).heap.size = w.heap.size+1:=by show (w.heap.push o).size = _; simp
set_option maxRecDepth 100000 in
set_option maxHeartbeats 1000000 in
theorem FC (l:List UInt8) (c:UInt8) (w:World) (hb:∀ h,(⟨l.toArray⟩:ByteArray)[0]'h = c) (hpos:1≤l.length) (hm:l.length≤1000000) (hcs:(((c.toNat:Int) != 34) = true∧((c.toNat:Int) != 39) = false)∨((c.toNat:Int) != 34) = false) (out:List UInt8) (t m:Nat) (hle:m < l.length)
  (HU:Hid (Cw l = if t≠1 then ([],t) else if m≠0 then ([],2) else (out,1)))
  (HR:Hid (∀ (W:World) (B p g:Nat) (vb:Value),TS B p g vb l 0 W→Calls Tryd.prog 8 #[.pointer (some ⟨p,0,none⟩)] W (RStrRes B p g vb l W (out,t,m)))) :
  Calls Tryd.prog 5 #[.string ⟨l.toArray⟩] w (UnqR l w):=by
 have hsz:=Am l
 have hml:l.length≤maxLen:=by unfold maxLen; omega
 have hz0:(0:Int) < (l.length:Int):=by omega
 have hne:l.isEmpty = false:=by cases l; simp at hpos; rfl
 have bc:=Ao c
 rcases hcs with ⟨q1,q2⟩ | q1
 all_goals
  go_enter Tryd.func5,Tryd.ntmps5
  go_upto_region 6 with (refine B4 _ rfl _ 9 27 5 rfl Tryd.underlying9 Tryd.underlying27 Tryd.underlying5 l rfl hml ?_; intro cap1 w1 hv1 hs1 hb1)
  have hts:TS w.heap.size w1.heap.size w.heap.size (.slice (some ⟨w.heap.size,0,none⟩) l.length cap1) l 0 (w1.alloc (.cells #[.slice (some ⟨w.heap.size,0,none⟩) l.length cap1,.int .i64 0,.int .i64 1,.slice none 0 0] 32)):=
   { row:=EM (heap_alloc_new w1 _),view:=hv1.alloc _,le:=Nat.zero_le _,bp:=(by omega),gp:=(by omega),gl:=(by rw [F6]; omega) }
  have hb2:=hb1.alloc (by omega) (.cells #[.slice (some ⟨w.heap.size,0,none⟩) l.length cap1,.int .i64 0,.int .i64 1,.slice none 0 0] 32);generalize World.alloc w1 _ = w2 at *;obtain ⟨p,hp⟩:∃ p,p = w.heap.size+1:=⟨_,rfl⟩;rw [hs1,←hp] at hts;rw [←hp];generalize hvb:Value.slice (some ⟨w.heap.size,0,none⟩) l.length cap1 = vb at *;have HTS:=hid hts;have HB2:=hid hb2
  have hpB:w.heap.size≤p:=by omega
  have hpB2:w.heap.size≤w2.heap.size:=hb2.size;clear hts hb2 hvb hv1 hb1 hs1 hp
  by_cases ht:t = 1
  ·have HR1:Hid (∀ e w3,RStrRes w.heap.size p w.heap.size vb l w2 (out,t,m) e w3→∃ v,e = .returned (.tuple #[v,.int .i64 (1:Int)])∧OwnB w3 w2.heap.size 5 v out∧TS w.heap.size p w.heap.size vb l (l.length - m) w3∧Grw p w2 w3):=hid fun e w3 h3=>by
    subst ht
    rcases h3 with ⟨h0,_⟩ | h3
    ·cases h0
    ·exact h3
   by_cases hm0:m = 0
   ·have HN:Hid (Cw l = (out,1)):=hid (by rw [HU.out,ht,if_neg (by simp),if_neg (by simpa using hm0)])
    have hlm:(((l.length - m:Nat):Int) != (l.length:Int)) = false:=by simp; omega
    clear ht hm0
    go_wp2_with (first
     | (go_at_call 8; refine (Calls.mono (HR.out _ _ _ _ _ HTS.out) ?_); rintro e w3 h3; obtain ⟨v3,rfl,ho3,ht3,hg3⟩:=HR1.out _ _ h3; have d1:=ht3.c.2.1; have HO3:=hid ho3; have HG3:=hid hg3; clear h3 hg3 ho3 ht3)
     | (refine BR _ rfl _ 27 9 rfl w2.heap.size 5 Tryd.underlying27 Tryd.underlying5 Tryd.underlying9 _ out rfl HO3.out ?_)
     | fail)
    go_ret2
    exact .mk HN.out _ rfl (HB2.out.trans (HG3.out.below hpB hpB2))
   ·have HN:Hid (Cw l = ([],2)):=hid (by rw [HU.out,ht,if_neg (by simp),if_pos hm0])
    have hlm:(((l.length - m:Nat):Int) != (l.length:Int)) = true:=by simp; omega
    clear ht hm0
    go_wp2_with (first
     | (go_at_call 8; refine (Calls.mono (HR.out _ _ _ _ _ HTS.out) ?_); rintro e w3 h3; obtain ⟨v3,rfl,ho3,ht3,hg3⟩:=HR1.out _ _ h3; have d1:=ht3.c.2.1; have HO3:=hid ho3; have HG3:=hid hg3; clear h3 hg3 ho3 ht3)
     | fail)
    go_ret2
    exact .mk HN.out _ rfl (HB2.out.trans (HG3.out.below hpB hpB2))
  ·have HN:Hid (Cw l = ([],t)):=hid (by rw [HU.out,if_pos ht])
   have ht1:((t:Int) != 1) = true:=by simp; omega
   clear ht
   go_wp2_with (first
    | (go_at_call 8; refine (Calls.mono (HR.out _ _ _ _ _ HTS.out) ?_); rintro e w3 h3; obtain ⟨v3,rfl,hg3⟩:=RStrRes.some h3; have HG3:=hid hg3; clear h3 hg3)
    | fail)
   go_ret2
   exact .mk HN.out _ rfl (HB2.out.trans (HG3.out.below hpB hpB2))
set_option maxRecDepth 100000 in
theorem Dl (l:List UInt8) (w:World) (hm:l.length≤1000000):Calls Tryd.prog 5 #[.string ⟨l.toArray⟩] w (UnqR l w):=by
 rcases l with _ | ⟨c,r⟩
 ·have HN:Hid (Cw [] = ([],0)):=hid rfl
  go_enter Tryd.func5,Tryd.ntmps5
  go_wp2_with fail
  go_ret2
  exact .mk HN.out _ rfl (Below.refl _ _)
 ·by_cases hq:c.toNat≠34∧c.toNat≠39
  ·have HN:Hid (Cw (c::r) = ([],2)):=hid (by show CL c r = _; rw [Ee,if_pos hq]);have hb:=GR c r (by rw [Am]; simp);have hsz:=Am (c::r);have bc:=Ao c
   have q1:((c.toNat:Int) != 34) = true:=by simp; omega
   have q2:((c.toNat:Int) != 39) = true:=by simp; omega
   clear hq
   go_enter Tryd.func5,Tryd.ntmps5
   go_wp2_with fail
   go_ret2
   exact .mk HN.out _ rfl (Below.refl _ _)
  ·have hle:(A8 c.toNat (c::r) r [] 1).2.2≤r.length:=Fe _ _ _ _ _ _;refine FC (c::r) c w (fun h=>rfl) (by simp) hm (by simp; omega) (A8 c.toNat (c::r) r [] 1).1 (A8 c.toNat (c::r) r [] 1).2.1 (A8 c.toNat (c::r) r [] 1).2.2 (by simp; omega) (hid (by show CL c r = _; rw [Ee,if_neg hq])) (hid fun W B p g vb h=>Hc W h (by simp) hm)
end
section
open Go.RowKit
def Bo:List (Nat × Value)→Nat→Option Value
 | [],_=>none
 | (k,v)::l,j=>match Nat.beq k j with
  | true=>some v
  | false=>Bo l j
def ev (l:List (Nat × Value)):Operand→Option Value
 | .tmp k=>Bo l k
 | .const v=>some v
 | .global g=>some (.pointer (some ⟨g,0,none⟩))
 | .func f=>some (.func (.func f) #[] #[])
structure Has (N:Nat) (D:List Deferred) (a:Act) (l:List (Nat × Value)):Prop where
 size:a.tmps.size = N
 defers:a.defers = D
 get:∀ k v,Bo l k = some v→a.tmps[k]? = some v
variable {N:Nat} {D:List Deferred} {a:Act} {l:List (Nat × Value)}
theorem Has.ev (H:Has N D a l) {x:Operand} {v:Value} (h:ev l x = some v):a.eval x = v:=by
 cases x with
 | tmp k=>
  have:=H.get k v h;simp [Act.eval,this]
 | const u=>injection h
 | global g=>injection h
 | func f=>injection h
theorem Has.put (H:Has N D a l) {d:Nat} {v:Value} (hd:Nat.blt d N = true):Has N D (a.put (some d) v) ((d,v)::l) where
 size:=by simp [Act.put,H.size]
 defers:=H.defers
 get:=fun k u h=>by
  have hd':d < N:=by simpa [Nat.blt_eq] using hd
  unfold Bo at h
  cases hb:Nat.beq d k with
  | true=>
   rw [hb] at h;obtain rfl:=Nat.eq_of_beq_eq_true hb
   injection h with h
   subst h;simp [Act.put,H.size,hd']
  | false=>
   rw [hb] at h;have hne:=Nat.ne_of_beq_eq_false hb;have:=H.get k u h;simp [Act.put,hne,this]
theorem Has.sub (H:Has N D a l) (l':List (Nat × Value)) (h:∀ k v,Bo l' k = some v→Bo l k = some v):Has N D a l':=⟨H.size,H.defers,fun k v hk=>H.get k v (h k v hk)⟩
theorem Fa {l:List (Nat × Value)}:∀ k v,Bo [] k = some v→Bo l k = some v:=fun _ _ h=>by cases h
theorem B5 {l l':List (Nat × Value)} {j:Nat} {u:Value} (h0:Bo l j = some u) (h:∀ k v,Bo l' k = some v→Bo l k = some v):∀ k v,Bo ((j,u)::l') k = some v→Bo l k = some v:=fun k v hk=>by
 unfold Bo at hk
 cases hb:Nat.beq j k with
 | true=>
  rw [hb] at hk;obtain rfl:=Nat.eq_of_beq_eq_true hb
  injection hk with hk
  subst hk;exact h0
 | false=>
  rw [hb] at hk;exact h k v hk
theorem Has.enter1 {M:Nat} (v:Value) (hM:Nat.blt 0 M = true):Has M [] { tmps:=#[v]++Array.replicate (M - (#[v]:Array Value).size) undef,defers:=[] } [(0,v)] where
 size:=by
  have:0 < M:=by simpa [Nat.blt_eq] using hM
  simp; omega
 defers:=rfl
 get:=fun k u h=>by
  unfold Bo at h
  cases hb:Nat.beq 0 k with
  | true=>
   rw [hb] at h;obtain rfl:=Nat.eq_of_beq_eq_true hb
   injection h with h
   subst h;rw [Array.getElem?_append_left (by simp)]
   try rfl
  | false=>
   rw [hb] at h;cases h
section
variable {P:Program} {L:List Oper} {rest:List Oper} {Q:Exit→Act→World→Prop} {w:World} {d:Nat} {op:Op} {ty:TypeId} {pos:String} {af:Array Edge}
def B0:List Oper→Nat→Option Tmp
 | [],_=>none
 | o::_,0=>o.dst
 | _::l,n+1=>B0 l n
theorem EU:∀ (l:List Oper) (j:Nat),(l.toArray[j]?).bind (·.dst) = B0 l j
 | [],j=>by simp [B0]
 | o::l,0=>by simp [B0]
 | o::l,n+1=>by
  have:=EU l n;simp at this;simp [B0,this]
theorem D2 (H:Has N D a l) {j k:Nat} {v:Value} (hn:B0 L j = some k) (hv:Bo l k = some v):yielded L.toArray a.tmps j = match v with
  | .bool b=>some b
  | _=>none:=by
 unfold yielded;rw [EU,hn];simp only [Option.bind_some];rw [H.get k v hv]
 cases v <;> rfl
theorem y_on {dd:Option Tmp} {j k:Nat} {b:Bool} (H:Has N D a l) (hn:B0 L j = some k) (hv:Bo l k = some (.bool b))
  (h:wpList P L.toArray Q (⟨dd,op,ty,pos,af,none⟩::rest) a w):wpList P L.toArray Q (⟨dd,op,ty,pos,af,some (j,b)⟩::rest) a w:=by
 have hw:Region.wanted ⟨dd,op,ty,pos,af,some (j,b)⟩ (yielded L.toArray a.tmps) = true:=by
  unfold Region.wanted;simp only;rw [D2 H hn hv];simp
 unfold wpList at h ⊢;rw [if_pos hw];rw [if_pos (by rfl)] at h;exact h
theorem y_off {j k:Nat} {b:Bool} (H:Has N D a l) (hn:B0 L j = some k) (hv:Bo l k = some (.bool (!b))) (hd:Nat.blt d N = true)
  (h:∀ a,Has N D a ((d,undef)::l)→wpList P L.toArray Q rest a w):wpList P L.toArray Q (⟨some d,op,ty,pos,af,some (j,b)⟩::rest) a w:=by
 have hw:Region.wanted ⟨some d,op,ty,pos,af,some (j,b)⟩ (yielded L.toArray a.tmps) = false:=by
  unfold Region.wanted;simp only;rw [D2 H hn hv]
  cases b <;> rfl
 unfold wpList;rw [if_neg (by rw [hw]; simp)];exact h _ (H.put hd)
theorem Ce {w':World} {v:Value} (H:Has N D a l) (hd:Nat.blt d N = true) (hr:(execOp a.eval ⟨some d,op,ty,pos,af,none⟩).run P w = .ok (.value v) w')
  (h:∀ a,Has N D a ((d,v)::l)→wpList P L.toArray Q rest a w'):wpList P L.toArray Q (⟨some d,op,ty,pos,af,none⟩::rest) a w:=by
 refine wpList_plain rfl fun K hK=>?_;unfold Oper.wp;rw [hr];exact hK _ _ (h _ (H.put hd))
theorem y_move {x:Operand} {v:Value} (H:Has N D a l) (hx:ev l x = some v) (hd:Nat.blt d N = true)
  (h:∀ a,Has N D a ((d,v)::l)→wpList P L.toArray Q rest a w):wpList P L.toArray Q (⟨some d,.move x,ty,pos,af,none⟩::rest) a w:=
 Ce H hd (by have:=H.ev hx; simp [execOp,this]) h
theorem GZ {x:Operand} {v:Value} (H:Has N D a l) (hx:ev l x = some v) (hd:Nat.blt d N = true)
  (h:∀ a,Has N D a ((d,v)::l)→wpList P L.toArray Q rest a w):wpList P L.toArray Q (⟨some d,.assign x,ty,pos,af,none⟩::rest) a w:=
 Ce H hd (by have:=H.ev hx; simp [execOp,this]) h
theorem y_pick {c x y:Operand} {b:Bool} {v:Value} (H:Has N D a l) (hc:ev l c = some (.bool b)) (hx:ev l (bif b then x else y) = some v) (hd:Nat.blt d N = true)
  (h:∀ a,Has N D a ((d,v)::l)→wpList P L.toArray Q rest a w):wpList P L.toArray Q (⟨some d,.pick c x y,ty,pos,af,none⟩::rest) a w:=
 Ce H hd (by
  have h1:=H.ev hc;have h2:=H.ev hx
  cases b <;> simp [execOp,h1,asBool] at h2 ⊢ <;> exact h2) h
theorem Gl {t t':TypeId} {x y:Operand} {k:IntKind} {m n:Int} {b:Bool} (H:Has N D a l) (hx:ev l x = some (.int k m)) (hy:ev l y = some (.int k n)) (hb:(m == n) = b) (hd:Nat.blt d N = true)
  (h:∀ a,Has N D a ((d,.bool b)::l)→wpList P L.toArray Q rest a w):wpList P L.toArray Q (⟨some d,.binOp .eql t x y t',ty,pos,af,none⟩::rest) a w:=
 Ce H hd (by have h1:=H.ev hx; have h2:=H.ev hy; subst hb; simp only [execOp,h1,h2]; simp [go_sem]) h
theorem Gk {t t':TypeId} {x y:Operand} {k:IntKind} {m n:Int} {b:Bool} (H:Has N D a l) (hx:ev l x = some (.int k m)) (hy:ev l y = some (.int k n)) (hb:decide (n < m) = b) (hd:Nat.blt d N = true)
  (h:∀ a,Has N D a ((d,.bool b)::l)→wpList P L.toArray Q rest a w):wpList P L.toArray Q (⟨some d,.binOp .gtr t x y t',ty,pos,af,none⟩::rest) a w:=
 Ce H hd (by have h1:=H.ev hx; have h2:=H.ev hy; subst hb; simp only [execOp,h1,h2]; simp [go_sem]) h
theorem GY {t t':TypeId} {x y:Operand} {k:IntKind} {m n:Int} {b:Bool} (H:Has N D a l) (hx:ev l x = some (.int k m)) (hy:ev l y = some (.int k n)) (hb:decide (m < n) = b) (hd:Nat.blt d N = true)
  (h:∀ a,Has N D a ((d,.bool b)::l)→wpList P L.toArray Q rest a w):wpList P L.toArray Q (⟨some d,.binOp .lss t x y t',ty,pos,af,none⟩::rest) a w:=
 Ce H hd (by have h1:=H.ev hx; have h2:=H.ev hy; subst hb; simp only [execOp,h1,h2]; simp [go_sem]) h
theorem y_neq {t t':TypeId} {x y:Operand} {k:IntKind} {m n:Int} {b:Bool} (H:Has N D a l) (hx:ev l x = some (.int k m)) (hy:ev l y = some (.int k n)) (hb:(m != n) = b) (hd:Nat.blt d N = true)
  (h:∀ a,Has N D a ((d,.bool b)::l)→wpList P L.toArray Q rest a w):wpList P L.toArray Q (⟨some d,.binOp .neq t x y t',ty,pos,af,none⟩::rest) a w:=
 Ce H hd (by have h1:=H.ev hx; have h2:=H.ev hy; subst hb; simp only [execOp,h1,h2]; simp [go_sem]) h
theorem y_add {t t':TypeId} {x y:Operand} {k:IntKind} {m n r:Int} (H:Has N D a l) (hx:ev l x = some (.int k m)) (hy:ev l y = some (.int k n)) (hr:k.wrap (m+n) = r) (hd:Nat.blt d N = true)
  (h:∀ a,Has N D a ((d,.int k r)::l)→wpList P L.toArray Q rest a w):wpList P L.toArray Q (⟨some d,.binOp .add t x y t',ty,pos,af,none⟩::rest) a w:=
 Ce H hd (by have h1:=H.ev hx; have h2:=H.ev hy; subst hr; simp only [execOp,h1,h2]; simp [go_sem]) h
theorem y_sub {t t':TypeId} {x y:Operand} {k:IntKind} {m n r:Int} (H:Has N D a l) (hx:ev l x = some (.int k m)) (hy:ev l y = some (.int k n)) (hr:k.wrap (m - n) = r) (hd:Nat.blt d N = true)
  (h:∀ a,Has N D a ((d,.int k r)::l)→wpList P L.toArray Q rest a w):wpList P L.toArray Q (⟨some d,.binOp .sub t x y t',ty,pos,af,none⟩::rest) a w:=
 Ce H hd (by have h1:=H.ev hx; have h2:=H.ev hy; subst hr; simp only [execOp,h1,h2]; simp [go_sem]) h
theorem GB {x:Operand} {i:Nat} {vs:Array Value} {v:Value} (H:Has N D a l) (hx:ev l x = some (.tuple vs)) (hv:vs[i]? = some v) (hd:Nat.blt d N = true)
  (h:∀ a,Has N D a ((d,v)::l)→wpList P L.toArray Q rest a w):wpList P L.toArray Q (⟨some d,.extract x i,ty,pos,af,none⟩::rest) a w:=
 Ce H hd (by have h1:=H.ev hx; simp [execOp,h1,Instr.extract,hv]) h
theorem FW {x:Operand} {ad:Addr} (H:Has N D a l) (hx:ev l x = some (.pointer (some ad))) (hd:Nat.blt d N = true)
  (h:∀ a,Has N D a ((d,.pointer (some ad))::l)→wpList P L.toArray Q rest a w):wpList P L.toArray Q (⟨some d,.nilCheck x,ty,pos,af,none⟩::rest) a w:=
 Ce H hd (by have h1:=H.ev hx; simp [execOp,h1]) h
def Fw (P:Program) (s f k:Nat):Prop:=∀ (p:Nat) (w:World),(Instr.fieldAt s (.pointer (some ⟨p,0,none⟩)) f).run P w = .ok (.pointer (some ⟨p,k,none⟩)) w
theorem y_field {s f k p:Nat} {x:Operand} (hf:Fw P s f k) (H:Has N D a l) (hx:ev l x = some (.pointer (some ⟨p,0,none⟩))) (hd:Nat.blt d N = true)
  (h:∀ a,Has N D a ((d,.pointer (some ⟨p,k,none⟩))::l)→wpList P L.toArray Q rest a w):wpList P L.toArray Q (⟨some d,.fieldAddr s x f,ty,pos,af,none⟩::rest) a w:=
 Ce H hd (by have h1:=H.ev hx; simp [execOp,h1,hf p w,Result.andThen]) h
def CG (P:Program) (t:TypeId):Prop:=∀ w:World,(isAgg t).run P w = .ok false w
theorem FX {t:TypeId} {x:Operand} {ad:Addr} {v:Value} (ht:CG P t) (H:Has N D a l) (hx:ev l x = some (.pointer (some ad))) (hc:w.cell? ad = some v) (hd:Nat.blt d N = true)
  (h:∀ a,Has N D a ((d,v)::l)→wpList P L.toArray Q rest a w):wpList P L.toArray Q (⟨some d,.load t x,ty,pos,af,none⟩::rest) a w:=
 Ce H hd (by
  have h1:=H.ev hx;have h2:=ht w
  simp only [execOp,h1]; simp [go_sem,Instr.loadAt,loadVar,Sem.run_bind,h2,hc,Result.andThen]) h
theorem y_len {t e:TypeId} {x:Operand} {g:Nat} {v:Value} {bs:List UInt8} (ht:P.underlying t = some (.slice e)) (H:Has N D a l) (hx:ev l x = some v) (hv:View w g v bs) (hd:Nat.blt d N = true)
  (h:∀ a,Has N D a ((d,.int .i64 (bs.length:Int))::l)→wpList P L.toArray Q rest a w):wpList P L.toArray Q (⟨some d,.call { callee:=.builtin .len,args:=#[x],argTypes:=#[t] },ty,pos,af,none⟩::rest) a w:=
 Al w (by rfl) x t e rfl ht g v bs (H.ev hx) hv (h _ (H.put hd))
theorem CI {t e:TypeId} {x i:Operand} {g:Nat} {v:Value} {bs:List UInt8} {k:IntKind} {n:Int} {c:UInt8} (ht:P.underlying t = some (.slice e)) (hinfo:(P.info? e).map (fun i=>(i.zero,i.size,i.bytes)) = some (some (.int .u8 0),1,1))
  (H:Has N D a l) (hx:ev l x = some v) (hi:ev l i = some (.int k n)) (hv:View w g v bs) (h0:0≤n) (hc:bs[n.toNat]? = some c) (hd:Nat.blt d N = true)
  (h:∀ a ad,Has N D a ((d,.pointer (some ad))::l)→w.cell? ad = some (.int .u8 (c.toNat:Int))→wpList P L.toArray Q rest a w):wpList P L.toArray Q (⟨some d,.indexAddr t x i,ty,pos,af,none⟩::rest) a w:=by
 obtain ⟨h1,h2⟩:=List.getElem?_eq_some_iff.1 hc;refine Ad w (by rfl) x i t e rfl ht hinfo g v bs (H.ev hx) hv k n (H.ev hi) h0 h1 fun ad hca=>h _ ad (H.put hd) ?_;rw [←h2];exact hca
theorem A1 {t e:TypeId} {x i:Operand} {g:Nat} {v:Value} {bs:List UInt8} {k:IntKind} {n:Int} (ht:P.underlying t = some (.slice e)) (hinfo:(P.info? e).map (fun i=>(i.zero,i.size,i.bytes)) = some (some (.int .u8 0),1,1))
  (H:Has N D a l) (hx:ev l x = some v) (hi:ev l i = some (.int k n)) (hv:View w g v bs) (h0:0≤n) (h1:n≤bs.length) (hd:Nat.blt d N = true)
  (h:∀ a v',Has N D a ((d,v')::l)→View w g v' (bs.take n.toNat)→wpList P L.toArray Q rest a w):wpList P L.toArray Q (⟨some d,.slice t x none (some i) none,ty,pos,af,none⟩::rest) a w:=
 DL w (by rfl) x i t e rfl ht hinfo g v bs (H.ev hx) hv k n (H.ev hi) h0 h1 fun v' hv'=>h _ v' (H.put hd) hv'
def evs (l:List (Nat × Value)):List Operand→Option (List Value)
 | []=>some []
 | x::xs=>match ev l x,evs l xs with
  | some v,some vs=>some (v::vs)
  | _,_=>none
theorem Has.evs (H:Has N D a l):∀ {xs:List Operand} {vs:List Value},evs l xs = some vs→xs.map a.eval = vs
 | [],vs,h=>by injection h
 | x::xs,vs,h=>by
  unfold Go.Proofs.YtgdnpnipahegaaaDoor.evs at h
  split at h
  ·rename_i v us h1 h2
   injection h with h
   rw [←h,List.map_cons,H.ev h1,Has.evs H h2]
  ·cases h
def Bu (P : Program) (f : FuncId) : Prop := ∃ fn, P.funcs[f]? = some fn ∧ (fn.name == "runtime.NumGoroutine") = false ∧ fn.body.isNone = false
theorem Fc {f:FuncId} (hp:Bu P f) (vs:Array Value) (w:World):(callFunc f vs).run P w = .ok (.enter f vs) w:=by
 obtain ⟨fn,h1,h2,h3⟩:=hp;simp [callFunc,go_sem,h1];rw [if_neg (by simpa using h2),if_neg (by intro e; rw [e] at h3; simp at h3)]
theorem y_call {f:FuncId} {xs:List Operand} {ts:Array TypeId} {vs:List Value} (hp:Bu P f) (H:Has N D a l) (hx:evs l xs = some vs) (hd:Nat.blt d N = true)
  (h:Calls P f vs.toArray w fun e w'=>∃ v,e = .returned v∧∀ a,Has N D a ((d,v)::l)→wpList P L.toArray Q rest a w'):wpList P L.toArray Q (⟨some d,.call { callee:=.value (.func f),args:=xs.toArray,argTypes:=ts },ty,pos,af,none⟩::rest) a w:=by
 refine wpList_plain rfl fun K hK=>?_;have h1:=H.evs hx;unfold Oper.wp;simp only [execOp];simp [resolve,invoke,h1,go_sem,Fc hp];refine h.mono ?_;rintro e w' ⟨v,rfl,h2⟩;exact hK _ _ (h2 _ (H.put hd))
end
section
variable {P:Program} {Q:Exit→Act→World→Prop} {w:World} {id:Nat}
theorem Aj {L:List Oper} (h:wpList P L.toArray Q L a w):(Code.region id L.toArray false).wp P Q a w:=wp_region_lit h
theorem Fy {x y:Code} (h:∀ K:Act→World→Prop,(∀ a w,y.wp P Q a w→K a w)→x.wp P (Exit.then K Q) a w):(Code.seq x y).wp P Q a w:=wp_seq_k h
end
section
variable {P:Program} {L:List Oper} {rest:List Oper} {Q:Exit→Act→World→Prop} {w:World} {d:Nat} {op:Op} {ty:TypeId} {pos:String} {af:Array Edge} {id:Nat} {K:Act→World→Prop}
theorem y_ift {x y:Code} {c:Operand} (H:Has N D a l) (hc:ev l c = some (.bool true)) (h:x.wp P Q a w):(Code.cond c x y).wp P Q a w:=wp_cond_true (H.ev hc) h
theorem y_iff {x y:Code} {c:Operand} (H:Has N D a l) (hc:ev l c = some (.bool false)) (h:y.wp P Q a w):(Code.cond c x y).wp P Q a w:=wp_cond_false (H.ev hc) h
theorem ieq_t {m n:Int} (h:m = n):(m == n) = true:=by simpa using h
theorem ieq_f {m n:Int} (h:m≠n):(m == n) = false:=by simpa using h
theorem ine_t {m n:Int} (h:m≠n):(m != n) = true:=by simpa using h
theorem ine_f {m n:Int} (h:m = n):(m != n) = false:=by simpa using h
theorem DV {r:Int} (h0:-9223372036854775808≤r) (h1:r≤9223372036854775807):IntKind.i64.wrap r = r:=IntWalk.i64_in r (by omega)
theorem y_addi {t t':TypeId} {x y:Operand} {m n r:Int} (H:Has N D a l) (hx:ev l x = some (.int .i64 m)) (hy:ev l y = some (.int .i64 n)) (hr:m+n = r) (h0:-9223372036854775808≤r) (h1:r≤9223372036854775807) (hd:Nat.blt d N = true)
  (h:∀ a,Has N D a ((d,.int .i64 r)::l)→wpList P L.toArray Q rest a w):wpList P L.toArray Q (⟨some d,.binOp .add t x y t',ty,pos,af,none⟩::rest) a w:=
 y_add H hx hy (by rw [hr]; exact DV h0 h1) hd h
theorem y_subi {t t':TypeId} {x y:Operand} {m n r:Int} (H:Has N D a l) (hx:ev l x = some (.int .i64 m)) (hy:ev l y = some (.int .i64 n)) (hr:m - n = r) (h0:-9223372036854775808≤r) (h1:r≤9223372036854775807) (hd:Nat.blt d N = true)
  (h:∀ a,Has N D a ((d,.int .i64 r)::l)→wpList P L.toArray Q rest a w):wpList P L.toArray Q (⟨some d,.binOp .sub t x y t',ty,pos,af,none⟩::rest) a w:=
 y_sub H hx hy (by rw [hr]; exact DV h0 h1) hd h
def AllocIs (P:Program) (t:TypeId) (cs:Array Value):Prop:=∀ w:World,(Instr.alloc t true (.tuple #[])).run P w = .ok (.pointer (some ⟨w.heap.size,0,none⟩)) (w.alloc (.cells cs t))
def evp (l:List (Nat × Value)):List (Nat × Operand)→Option (List (Nat × Value))
 | []=>some []
 | (i,x)::xs=>match ev l x,evp l xs with
  | some v,some vs=>some ((i,v)::vs)
  | _,_=>none
theorem Has.evp (H:Has N D a l):∀ {xs:List (Nat × Operand)} {vs:List (Nat × Value)},evp l xs = some vs→(xs.map fun (i,x)=>(i,a.eval x)) = vs
 | [],vs,h=>by injection h
 | (i,x)::xs,vs,h=>by
  unfold Go.Proofs.YtgdnpnipahegaaaDoor.evp at h
  split at h
  ·rename_i v us h1 h2
   injection h with h
   have ih:=Has.evp H h2;rw [←h,List.map_cons,ih];simp only [H.ev h1]
  ·cases h
theorem FI (h:K a w):Exit.then K Q .normal a w:=h
theorem in_exit (h:Q .normal a w):Exit.inBlock id Q (.exit id) a w:=by simp [Exit.inBlock,h]
end
section
variable {P:Program} {f:FuncId} {fn:Func} {c:Code} {M:Nat} {R:Ending→World→Prop} {w:World}
theorem enter1 {v:Value} (hf:P.funcs[f]? = some fn) (hb:fn.body = some c) (hn:fn.ntmps = M) (hM:Nat.blt 0 M = true) (h:∀ a,Has M [] a [(0,v)]→c.wp P (bodyPost P fn R) a w):Calls P f #[v] w R:=
 calls_of_wp hf hb (by rw [hn]; exact h _ (Has.enter1 v hM))
end
section
variable {P:Program} {L:List Oper} {Q:Exit→Act→World→Prop} {S:World→Prop} {w:World} {d id fuel:Nat} {op:Op} {ty:TypeId} {pos:String} {af:Array Edge} {listed:Array Bool} {K:Act→World→Prop}
theorem AG (S:World→Prop) (n:Nat) (hm:P.follows .mixedOrders = true) (hn:L.length = n) (h:wpAnyH P .any L.toArray (NoPanic Q) S n (Array.replicate n false) a w.drew):(Code.region id L.toArray true).wp P Q a w:=by
 subst hn;exact wp_region_noPanic (wp_region_held (S:=S) hm (by simpa using h))
theorem d_take {v:Value} (i:Nat) (H:Has N D a l) (hi:L.toArray[i]? = some ⟨some d,op,ty,pos,af,none⟩) (hs:Region.noSelect L.toArray = true) (hf:Region.free .any L.toArray listed i = true) (hr:(Region.ready .any L.toArray listed).contains i = true)
  (hy:∀ w,S w→(execOp a.eval ⟨some d,op,ty,pos,af,none⟩).run P w = .ok (.value v) w) (hS:S w) (hd:Nat.blt d N = true)
  (h:∀ a,Has N D a ((d,v)::l)→wpAnyH P .any L.toArray (NoPanic Q) S fuel (listed.setIfInBounds i true) a w):wpAnyH P .any L.toArray (NoPanic Q) S (fuel+1) listed a w:=
 wpAnyH_take hi hs hf hr (fun _ _ _ h=>h.elim) (.inl ⟨rfl,hy⟩) hS (h _ (H.put hd))
theorem GH {o:Oper} {r:Result Next} (h:o.upon P a K (Exit.then K Q) r):o.upon P a K Q r:=by
 cases r with
 | ok n w'=>cases n <;> exact h
 | halt x w'=>cases x <;> exact h
theorem d_one (i:Nat) {o:Oper} (hr:Region.ready .any L.toArray listed = [i]) (hi:L.toArray[i]? = some o) (hg:o.guard = none)
  (h:wpList P L.toArray (Exit.then (fun a' w'=>S w'∧wpAnyH P .any L.toArray (NoPanic Q) S fuel (listed.setIfInBounds i true) a' w') (NoPanic Q)) [o] a w):wpAnyH P .any L.toArray (NoPanic Q) S (fuel+1) listed a w:=by
 refine wpAnyH_all hr (by simp) fun j hj=>?_
 obtain rfl:j = i:=by simpa using hj
 unfold wpOp;simp only [hi]
 have hw:Region.wanted o (yielded L.toArray a.tmps) = true:=by simp [Region.wanted,hg]
 rw [if_pos hw];unfold wpList at h;rw [if_pos hw] at h
 rcases h with h | ⟨h1,h2⟩
 ·exact .inl (GH h)
 ·exact .inr ⟨h1,h2⟩
theorem AY (hr:Region.ready .any L.toArray listed = []) (h:Q .normal a w):wpAnyH P .any L.toArray (NoPanic Q) S fuel listed a w:=wpAnyH_done hr (NoPanic.normal h) fuel
variable {dd:Option Tmp} {gd:Option (Nat × Bool)}
theorem Ap {x:Operand} {v:Value} (H:Has N D a l) (hx:ev l x = some v):∀ w,S w→(execOp a.eval ⟨dd,.move x,ty,pos,af,gd⟩).run P w = .ok (.value v) w:=fun w _=>by have:=H.ev hx; simp [execOp,this]
theorem Ag {x:Operand} {v:Value} (H:Has N D a l) (hx:ev l x = some v):∀ w,S w→(execOp a.eval ⟨dd,.assign x,ty,pos,af,gd⟩).run P w = .ok (.value v) w:=fun w _=>by have:=H.ev hx; simp [execOp,this]
theorem Ds {t:TypeId} {x:Operand} {ad:Addr} {v:Value} (ht:CG P t) (H:Has N D a l) (hx:ev l x = some (.pointer (some ad))) (hc:∀ w,S w→w.cell? ad = some v):∀ w,S w→(execOp a.eval ⟨dd,.load t x,ty,pos,af,gd⟩).run P w = .ok (.value v) w:=fun w hw=>by
 have h1:=H.ev hx;have h2:=ht w;have h3:=hc w hw;simp only [execOp,h1];simp [go_sem,Instr.loadAt,loadVar,Sem.run_bind,h2,h3,Result.andThen]
theorem Hd {t t':TypeId} {x y:Operand} {m n r:Int} (H:Has N D a l) (hx:ev l x = some (.int .i64 m)) (hy:ev l y = some (.int .i64 n)) (hr:m - n = r) (h0:-9223372036854775808≤r) (h1:r≤9223372036854775807):∀ w,S w→(execOp a.eval ⟨dd,.binOp .sub t x y t',ty,pos,af,gd⟩).run P w = .ok (.value (.int .i64 r)) w:=fun w _=>by
 have h2:=H.ev hx;have h3:=H.ev hy;have h4:=DV h0 h1;rw [←hr] at h4 ⊢;simp only [execOp,h2,h3];simp [go_sem,h4]
theorem r_len {t e:TypeId} {x:Operand} {g:Nat} {v:Value} {bs:List UInt8} {w0:World} (ht:P.underlying t = some (.slice e)) (H:Has N D a l) (hx:ev l x = some v) (hv:View w0 g v bs):∀ w,S w→(execOp a.eval ⟨dd,.call { callee:=.builtin .len,args:=#[x],argTypes:=#[t] },ty,pos,af,gd⟩).run P w = .ok (.value (.int .i64 (bs.length:Int))) w:=fun w _=>by
 obtain ⟨ao,cap,rfl⟩:=hv.slice;have h1:=H.ev hx;simp [execOp,resolve,invoke,builtin,h1,Builtin.len_,run_underlying ht,goInt]
end
section
variable {P:Program} {L rest:List Oper} {Q:Exit→Act→World→Prop} {w:World} {d:Nat} {ty:TypeId} {pos:String} {af:Array Edge}
theorem FR (a:Int):Instr.fill (fun i=>some (i * 1,1)) ((Array.range (1 * 1)).map ((Value.int .u8 0).cells[· % (Value.int .u8 0).cells.size]!)) [(0,.int .u8 a)] = some #[.int .u8 a]:=by kernel_rfl
theorem r_bs1 {t e:TypeId} {x:Operand} {c:Int} (ht:P.underlying t = some (.slice e)) (hinfo:(P.info? e).map (fun i=>(i.zero,i.size,i.bytes)) = some (some (.int .u8 0),1,1)) (H:Has N D a l) (hx:ev l x = some (.int .u8 c)) :
  (execOp a.eval ⟨some d,.buildSlice t 1 #[(0,x)],ty,pos,af,none⟩).run P w = .ok (.value (.slice (some ⟨w.heap.size,0,none⟩) 1 1)) (w.alloc (.cells #[.int .u8 c] e)):=by
 obtain ⟨inf,hi1,hz,hz1,hz2⟩:=info_parts hinfo;have h1:=H.ev hx;have:=run_buildSlice (P:=P) w t e 1 #[(0,.int .u8 c)] #[.int .u8 c] inf (.int .u8 0) ht hi1 hz (by rw [hz1]; decide) (by rw [hz1]; decide) (by rw [hz1]; exact FR c);simp [execOp,h1,this,Result.andThen]
end
section
variable {N:Nat} {D:List Deferred} {a:Act} {l:List (Nat × Value)}
theorem Has.k2 (H:Has N D a l) (k0 k1:Nat) {v0 v1:Value} (h0:Bo l k0 = some v0) (h1:Bo l k1 = some v1):Has N D a [(k0,v0),(k1,v1)]:=H.sub _ (B5 h0 (B5 h1 (Fa)))
theorem Has.k3 (H:Has N D a l) (k0 k1 k2:Nat) {v0 v1 v2:Value} (h0:Bo l k0 = some v0) (h1:Bo l k1 = some v1) (h2:Bo l k2 = some v2):Has N D a [(k0,v0),(k1,v1),(k2,v2)]:=H.sub _ (B5 h0 (B5 h1 (B5 h2 (Fa))))
end
end
end Go.Proofs.YtgdnpnipahegaaaDoor
