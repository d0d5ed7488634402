/-
 The package's reader of the text form, walked: a quoted string.
-/
import Derived.Test.YtgdnpnipahegaaaGreatDoorQ6
import Derived.Test.YtgdnpnipahegaaaGreatDoorTTrim
import Derived.Test.YtgdnpnipahegaaaGreatDoorQ17
import Derived.Test.YtgdnpnipahegaaaGreatDoorQ4
import Derived.Deep.RegionLaw
import Derived.Deep.RegionHeld3
import Derived.Deep.RegionWith
namespace Go.Proofs.YtgdnpnipahegaaaGreatDoor
open Go.ChangeShapes Go.WideShapes Go.ChangeAt Go.RowKit
theorem bl5 {N:Nat} {w w2:World} (h:Below N w w2:=by first | exact Below.refl _ _ | exact (Below.refl _ _).drew | exact (Below.refl _ _).alloc (Nat.le_refl _) _ | exact ((Below.refl _ _).alloc (Nat.le_refl _) _).drew | exact ((Below.refl _ _).alloc (Nat.le_refl _) _).alloc (by simp) _):Below N w w2:=h
theorem NJ {l:List UInt8} {c n:Nat} (h:BE l = some (c,n)) (hc:c < 128):∃ b l2,l = b::l2∧b.toNat = c∧n = 1:=by
 cases l with
 | nil=>cases h
 | cons b l2=>
  by_cases h1:b.toNat < 128
  ·rw [Bo,if_pos h1] at h; cases h; exact ⟨b,l2,rfl,rfl,rfl⟩
  ·rw [Bo,if_neg h1] at h
   rcases hh:C4 b.toNat with _ | ⟨k,least,first⟩
   ·rw [hh] at h; cases h
   ·rw [hh] at h;simp only at h;have hk:=Ic hh
    rcases ht:B1 k first l2 with _ | v'
    ·rw [ht] at h; cases h
    ·rw [ht] at h;simp only at h
     split at h
     ·rename_i hok
      cases h;unfold Kq at hok;simp at hok;omega
     ·cases h
theorem u8_one {l:List UInt8} {c n:Nat} (h:BE l = some (c,n)) (hn:n = 1):c < 128:=by
 cases l with
 | nil=>cases h
 | cons b l2=>
  by_cases h1:b.toNat < 128
  ·rw [Bo,if_pos h1] at h; cases h; exact h1
  ·rw [Bo,if_neg h1] at h
   rcases hh:C4 b.toNat with _ | ⟨k,least,first⟩
   ·rw [hh] at h; cases h
   ·rw [hh] at h;simp only at h;have hk:=Ic hh
    rcases ht:B1 k first l2 with _ | v'
    ·rw [ht] at h; cases h
    ·rw [ht] at h;simp only at h
     split at h
     ·cases h; omega
     ·cases h
theorem chr_bad {l:List UInt8} (h:chr l = (65533,1)):BE l = none:=by
 rcases hu:BE l with _ | ⟨c,n⟩
 ·rfl
 ·have:chr l = (c,n):=by unfold chr; rw [hu]
  rw [this] at h
  injection h with h1 h2
  have:=u8_one hu h2;omega
theorem KD {c:Nat} (h:c < 55296∨57344≤c∧c≤1114111):Utf8.encode (c:Int) = ⟨(Fu c).toArray⟩:=by
 have hv:Utf8.valid (c:Int) = true:=by unfold Utf8.valid; simp; omega
 unfold Utf8.encode Fu;simp only [hv,if_true,Int.toNat_natCast]
 repeat' split
 all_goals first | rfl | omega
theorem JD (c:Nat):1≤(Fu c).length:=by
 unfold Fu
 split
 ·simp
 ·split
  ·simp
  ·split <;> simp
theorem O2 {w:World} {g:Nat} {ao:Option Addr} {m cp:Nat} {bs:List UInt8} (hv:View w g (.slice ao m cp) bs) (hne:1≤bs.length):∃ ad:Addr,ao = some ad∧∀ j u,(byteCells bs)[j]? = some u→w.cell? (ad.add j) = some u:=by
 obtain ⟨ao',cap,he,h3,h4,hn0,off,h5,h6⟩:=hv
 injection he with e1 e2 e3
 subst e1 e2 e3;refine ⟨⟨g,off,none⟩,h5 (by intro e; rw [e] at hne; simp at hne),fun j u hu=>?_⟩
 have hj:j < bs.length:=by have:=(List.getElem?_eq_some_iff.1 hu).1; simpa [byteCells] using this
 rw [Addr.add_lit,h6 j hj,←hu];simp [byteCells,hj]
theorem RI {l:List UInt8} {n:Nat} (h1:1≤n) (h2:n≤l.length):1≤(l.take n).length:=by rw [List.length_take]; omega
theorem ND {n i m k:Nat} (hm:k≤10000000) (hl:m≤k) (h:n+i≤m):IntKind.i64.wrap ((n:Int)+(i:Int)) = (n:Int)+(i:Int):=Ef _ (by omega) (by omega)
theorem View.keptB {w w':World} {g B:Nat} {v:Value} {bs:List UInt8} (h:View w g v bs) (hb:Below B w w') (hg:g < B):View w' g v bs:=h.kept (hb.block g hg)
theorem chr_u8 {l:List UInt8} {c n:Nat} (h:chr l = (c,n)) (hc:¬ (c = 65533∧n = 1)):BE l = some (c,n):=by
 unfold chr at h
 rcases hu:BE l with _ | ⟨c',n'⟩
 ·rw [hu] at h; simp only [Prod.mk.injEq] at h; exact absurd ⟨h.1.symm,h.2.symm⟩ hc
 ·rw [hu] at h; simp only [Prod.mk.injEq] at h; rw [h.1,h.2]
theorem SE {c:UInt8} (h:AO c = true):E7 c.toNat < 16:=by
 unfold AO at h;simp at h
 have hl:(48≤c.toNat∧c.toNat≤57)∨97≤Eh c.toNat∧Eh c.toNat≤102:=by
  unfold Eh
  rcases h with h | h | h
  ·exact .inl h
  ·rw [if_pos (by omega)]; exact .inr h
  ·rw [if_neg (by omega)]; exact .inr (by omega)
 unfold E7
 split
 ·omega
 ·rw [if_pos (by omega)]; omega
theorem Mv:∀ (l:List UInt8) (acc:Nat),(∀ c ∈ l,AO c = true)→∃ v,CI acc l = some v
 | [],acc,_=>⟨acc,rfl⟩
 | c::l,acc,h=>by
  unfold CI;rw [if_pos (SE (h c (by simp)))];exact Mv l _ (fun d hd=>h d (by simp [hd]))
theorem Gm (v:Nat):(Fu v).length≤4:=LL v
theorem KJ {d:Nat} {b c:UInt8} {l:List UInt8} (h:l.length < d):EK d (b::c::l) = none:=by unfold EK; rw [if_pos (by simp; omega)]
theorem Hq {d:Nat} {b c:UInt8} {l:List UInt8} (h:¬ l.length < d):EK d (b::c::l) = (match CI 0 (l.take d) with
 | none=>none
 | some v=>if 1114111 < v then none else if FR v = false then some (Fu v,d+2)
  else if (b::c::l).length < d+8 then none
  else match CI 0 (((b::c::l).drop (d+4)).take 4) with
  | none=>none
  | some u=>if ((b::c::l).getD (d+2) 0).toNat = 92∧((b::c::l).getD (d+3) 0).toNat = 117∧CB v u≠65533 then some (Fu (CB v u),d+8) else none):=by
 unfold EK; rw [if_neg (by simp; omega)]; rfl
theorem NI {d:Nat} {b c:UInt8} {l:List UInt8} (h:¬ l.length < d) (hx:CI 0 (l.take d) = none):EK d (b::c::l) = none:=by rw [Hq h,hx]
theorem NH {d v:Nat} {b c:UInt8} {l:List UInt8} (h:¬ l.length < d) (hx:CI 0 (l.take d) = some v) (hv:1114111 < v):EK d (b::c::l) = none:=by rw [Hq h,hx]; simp only; rw [if_pos hv]
theorem NG {d v:Nat} {b c:UInt8} {l:List UInt8} (h:¬ l.length < d) (hx:CI 0 (l.take d) = some v) (hv:¬ 1114111 < v) (hs:FR v = false):EK d (b::c::l) = some (Fu v,d+2):=by
 rw [Hq h,hx]; simp only; rw [if_neg hv,if_pos hs]
theorem J4 {d v:Nat} {b c:UInt8} {l:List UInt8} (h:¬ l.length < d) (hx:CI 0 (l.take d) = some v) (hs:FR v = true) (h2:(l.drop d).length < 6):EK d (b::c::l) = none:=by
 rw [Hq h,hx]; simp only
 split
 ·rfl
 ·rw [if_neg (by rw [hs]; decide),if_pos (by simp at h2 ⊢; omega)]
theorem RK {v:Nat} (hs:FR v = true):55296≤v∧v < 57344:=by unfold FR at hs; simpa using hs
theorem Ib {d v:Nat} {b c e f:UInt8} {l l5:List UInt8} (h:¬ l.length < d) (hx:CI 0 (l.take d) = some v) (hs:FR v = true) (h4:l.drop d = e::f::l5) (h5:4≤l5.length):EK d (b::c::l) = (match CI 0 (l5.take 4) with
  | none=>none
  | some u=>if e.toNat = 92∧f.toNat = 117∧CB v u≠65533 then some (Fu (CB v u),d+8) else none):=by
 have hl:l.length = l5.length+d+2:=by have:=congrArg List.length h4; simp at this; omega
 have hd:(b::c::l).drop (d+4) = l5:=by
  show l.drop (d+2) = l5
  rw [←List.drop_drop,h4]; rfl
 have he:(b::c::l).getD (d+2) 0 = e:=by
  have:=congrArg (fun x=>x.getD 0 0) h4
  simpa [List.getD_eq_getElem?_getD] using this
 have hf:(b::c::l).getD (d+3) 0 = f:=by
  have:=congrArg (fun x=>x.getD 1 0) h4
  simpa [List.getD_eq_getElem?_getD] using this
 have hv:=RK hs;rw [Hq h,hx]; simp only; rw [if_neg (by omega),if_neg (by rw [hs]; decide),if_neg (by simp; omega),hd,he,hf]
theorem Lh (v:Nat):CB v 0 = 65533:=by unfold CB; rw [if_neg (by omega)]
theorem Og {v u:Nat} (h:CB v u≠65533):57344≤CB v u∧CB v u≤1114111:=by
 unfold CB at h ⊢
 split
 ·omega
 ·rename_i hn; rw [if_neg hn] at h; exact absurd rfl h
theorem Cf {w w':World} {g g':Nat} {v v':Value} {a b:List UInt8} (h:View w g v a) (h':View w' g' v' b) (hl:a.length < b.length):BF v < BF v':=by
 rw [B4 h,B4 h']; exact hl
theorem O1 {w:World} {g B:Nat} {v:Value} {bs:List UInt8} (hv:View w g v bs) (k k':IntKind) (n:Nat) (hn:n≤bs.length):∃ v',(∀ W,(Instr.slice 22 v none (some (.int k (n:Int))) (some (.int k' (n:Int)))).run Tryz.prog W = .ok v' W)∧OutV w B 5 v' (bs.take n)∧(bs.take n≠[]→∀ j,v'.ownBlock = some j→j = g):=by
 obtain ⟨ao,cap,rfl,h3,h4,hn0,off,h5,h6⟩:=hv;obtain ⟨inf,hi1,hz,hz1,hz2⟩:=info_parts Af
 have hlen:(bs.take n).length = n:=by simp; omega
 refine ⟨.slice (if n = 0 then ao else ao.map (·.add (0 * 1))) n n,fun W=>?_,?_,fun hne j hj=>?_⟩
 ·have hs:Tryz.prog.underlying 22 = some (.slice (Tryz.prog.elem 22)):=by simp [Program.elem,Tryz.underlying22]
  have he:Tryz.prog.elem 22 = 5:=by simp [Program.elem,Tryz.underlying22]
  have hsz:(sizeOf (Tryz.prog.elem 22)).run Tryz.prog W = .ok 1 W:=by simp [sizeOf,typeInfo,he,hi1,hz1]
  rw [run_slice_hm W 22 ao bs.length cap hs k k' (n:Int) (n:Int) (by omega) (by omega) (by omega),hsz];rfl
 ·by_cases h0:n = 0
  ·subst h0;rw [if_pos rfl]
   cases ao with
   | none=>exact .inl (OwnB.nil w B 5)
   | some ad=>exact .inr ⟨ad,rfl,fun j u hu=>by simp [byteCells] at hu⟩
  ·rw [if_neg h0]
   have hb:bs≠[]:=by intro e; subst e; simp at hn; exact h0 hn
   have:=h5 hb;subst this;refine .inr ⟨⟨g,off,none⟩,by rw [hlen]; simp [Addr.add_lit],fun j u hu=>?_⟩
   have hj:j < (bs.take n).length:=by have:=(List.getElem?_eq_some_iff.1 hu).1; simpa [byteCells] using this
   rw [hlen] at hj;rw [Addr.add_lit,h6 j (by omega),←hu];simp [byteCells,hj,List.getElem?_eq_getElem (show j < bs.length by omega)]
 ·have h0:n≠0:=by intro e; subst e; simp at hne
  have hb:bs≠[]:=by intro e; subst e; simp at hne
  rw [if_neg h0,h5 hb] at hj
  simpa [Value.ownBlock,Addr.add_lit] using hj.symm
def Qp (p:Nat) (v:Value) (bs:List UInt8):Prop:=bs≠[]→∀ k,v.ownBlock = some k→k≠p
theorem OutV.grown {w w':World} {B p:Nat} {v:Value} {bs:List UInt8} (h:OutV w B 5 v bs) (hg:w.grownBy w' (some p)) (hp:p < B) (ha:Qp p v bs):OutV w' B 5 v bs:=by
 rcases h with h | ⟨ad,rfl,hc⟩
 ·exact .inl (World.ownsRow.kept h hg (.inr (fun e=>by have:=(World.ownsRow.lt h p e).1; omega)))
 ·refine .inr ⟨ad,rfl,fun j u hu=>?_⟩
  have hne:bs≠[]:=by intro e; subst e; simp [byteCells] at hu
  have hap:=ha hne ad.block rfl;have hlt:=World.block_lt_of_cell? w _ (hc j u hu);have e:w'.heap[(ad.add j).block]? = w.heap[(ad.add j).block]?:=hg.block _ hlt (by rw [Rm]; intro e; injection e with e; exact hap e);rw [World.cell?_of_block (w:=w) (a:=ad.add j) e];exact hc j u hu
theorem OwnB.apart {w:World} {B p:Nat} {v:Value} {bs:List UInt8} (h:OwnB w B 5 v bs) (hp:p < B):Qp p v bs:=fun _ k hk e=>by have:=(World.ownsRow.lt h k hk).1; omega
theorem Nu {B p g:Nat} {bs:List UInt8} {vr ve vst vo vi:Value} (s:DT) (z:Int) (n:Nat) (hz:z = n) (w:World) (h:DW B p g bs vr ve vst vo vi s w) (hn:s.k+n≤bs.length) (hm:bs.length≤100000000) :
  Calls Tryz.prog 39 #[.pointer (some ⟨p,0,none⟩),.int .i64 z] w fun e w'=>e = .returned (.tuple #[])∧∃ vi',DW B p g bs vr ve vst vo vi' { s with k:=goT bs s.k n } w'∧w.grownBy w' (some p):=by
 subst hz; exact Cv s n w h hn hm
def StrRes (B p g:Nat) (bs:List UInt8) (vr ve vst vo:Value) (s:DT) (n:Nat) (w:World) (o:Option (List UInt8 × Nat)) (e:Ending) (w':World):Prop:=match o with
 | some (t,m)=>e = .returned (.tuple #[.string ⟨t.toArray⟩,.nilIface])∧∃ vi',DW B p g bs vr ve vst vo vi' { s with k:=goT bs s.k (n+1 - m) } w'∧w.grownBy w' (some p)
 | none=>(∃ te x,e = .returned (.tuple #[.string ⟨#[]⟩,.iface te x]))∧Below w.heap.size w w'
theorem StrRes.bad {B p g:Nat} {bs:List UInt8} {vr ve vst vo:Value} {s:DT} {n:Nat} {w w':World} {o:Option (List UInt8 × Nat)} (h:o = none) (te:TypeId) (x:Value) (hb:Below w.heap.size w w'):StrRes B p g bs vr ve vst vo s n w o (.returned (.tuple #[.string ⟨#[]⟩,.iface te x])) w':=by
 rw [h]; exact ⟨⟨te,x,rfl⟩,hb⟩
variable {B p g:Nat} {bs:List UInt8} {vr ve vst vo vi:Value}
set_option maxRecDepth 100000 in
set_option maxHeartbeats 40000000 in
theorem Ed (s:DT) (w:World) (h:DW B p g bs vr ve vst vo vi s w) (hpB:p < w.heap.size) (c0:UInt8) (r:List UInt8) (hd0:bs.drop s.k = c0::r) (hq:c0.toNat = 34∨c0.toNat = 39) (hm:bs.length≤10000000) :
  Calls Tryz.prog 72 #[.pointer (some ⟨p,0,none⟩)] w (StrRes B p g bs vr ve vst vo s r.length w (AZ c0.toNat r [])):=by
 have hv:=h.inn;rw [hd0] at hv
 have hrl:s.k+(r.length+1) = bs.length:=by have:=congrArg List.length hd0; have:=h.le; simp at *; omega
 obtain ⟨aoI,nI,cpI,rfl⟩:=View.slice3 hv
 have hnI:nI = r.length+1:=by obtain ⟨_,_,e⟩:=hv.slice; injection e with _ e _
 subst hnI;obtain ⟨v1,hsl1,hv1⟩:=Dt (P:=Tryz.prog) hv 22 5 Tryz.underlying22 Af .i64 1 1 rfl (by simp);simp only [List.drop_succ_cons,List.drop_zero] at hv1;obtain ⟨i,hi0⟩:∃ i,i = Es r:=⟨_,rfl⟩
 have hi:i≤r.length:=by rw [hi0]; exact Bp FY r
 obtain ⟨v2,hsl2,hv2⟩:=Dt (P:=Tryz.prog) hv1 22 5 Tryz.underlying22 Af .i64 (i:Int) i rfl hi;obtain ⟨o1,hsl3,ho1,hap1⟩:=O1 (B:=w.heap.size) hv1 .i64 .i64 i hi;have HS:Hid (AZ c0.toNat r [] = AZ c0.toNat (r.drop i) (r.take i)):=hid (by rw [JK hq r [],←hi0]; rfl);have HD:=hid fun (w':World) (hb:Below w.heap.size w w')=>h.below hb;have HNB:=hid (Ix v1 r g w hv1 (by omega));rw [←hi0] at HNB;obtain ⟨c10,f10⟩:=h.c10
 have HAP:Hid (Qp p o1 (r.take i)):=hid fun hne k hk=>by rw [hap1 hne k hk]; exact h.gp
 have hlen0:(((r.length:Int)+1) == 0) = false:=by simp; omega
 have hne0:(0:Int).toNat < (c0::r).length:=by simp
 have HV:=hid hv;have HGG:=hid h.gl;have bc0:=AW c0;clear h hi0 hd0 hap1
 go_enter Tryz.func72,Tryz.ntmps72
 go_upto_region 7 with (first
  | ((with_reducible refine Cb ?_); refine Am _ (by rfl) _ 22 5 rfl Tryz.underlying22 _ _ _ rfl HV.out ?_)
  | ((with_reducible refine AA ?_); refine Ae _ (by rfl) _ _ 22 5 rfl Tryz.underlying22 Af _ _ _ rfl HV.out _ (0:Int) rfl (by decide) hne0 ?_; intro ad1 hc1; try simp only [Int.toNat_zero,List.getElem_cons_zero] at hc1)
  | (go_at_call 82; refine (Calls.mono HNB.out ?_); rintro e w1 ⟨rfl,rfl⟩)
  | fail)
 go_quiet (fail)
 go_wp2_with fail
 go_loopw [4,7] (fun u o wr=>∃ l out:List UInt8,View wr g u l∧OutV wr w.heap.size 5 o out∧Qp p o out∧AZ c0.toNat r [] = AZ c0.toNat l out∧Below w.heap.size w wr∧l.length≤r.length∧out.length+4 * l.length≤4 * r.length) (fun u _ _=>BF u)
 case atStart=>
  have hbX:Below w.heap.size w (w.drewN nq):=⟨rfl,rfl,rfl,Nat.le_refl _,fun _ _=>rfl⟩;exact ⟨r.drop i,r.take i,hv2.below hbX,ho1.below hbX,HAP.out,HS.out,hbX,by simp,by simp; omega⟩
 case round=>
  obtain ⟨l,out,hvl,hol,hap,hst,hb,hlr,ho4⟩:=hrel;have HST:=hid hst;have HB:=hid hb;have HOL:=hid hol;have HVL:=hid hvl;have HAP2:=hid hap;have hdw:=HD.out _ hb;obtain ⟨te,pe,hgl⟩:=hdw.glob.eof;have HDR:=hid fun (w':World) (hb':Below wr.heap.size wr w')=>HD.out _ (hb.trans (hb'.mono hb.size));have hbz:=hb.size;clear hst hb hol hdw hvl hap hlen0 hne0 hsl1 hsl2 hsl3 hv1 hv2 ho1 c10 f10 HAP
  by_cases hne:l = []
  ·subst hne
   as_aux_lemma=>
    have HN:Hid (AZ c0.toNat r [] = none):=hid (HST.out.trans (JL rfl));obtain ⟨ao,cp,rfl⟩:=HVL.out.slice
    go_wp2_with fail
    go_quiet (fail)
    go_wp2_with fail
    go_ret2
    exact StrRes.bad HN.out _ _ (HB.out.trans ⟨rfl,rfl,rfl,Nat.le_refl _,fun _ _=>rfl⟩)
  ·have hlp:(0:Int) < (l.length:Int):=by have:=List.length_pos_iff.2 hne; omega
   have hdec:=H9 u4 l g wr HVL.out hne (by omega) (HDR.out wr (Below.refl _ _)).glob.tabs;unfold Ns at hdec
   rcases hcn:chr l with ⟨c,n⟩
   rw [hcn] at hdec;simp only at hdec;have HDEC:=hid hdec;have HCN:=hid hcn;have HNE:=hid hne;clear hdec hcn hne
   go_upto_region 12 with (first | ((with_reducible refine Cb ?_); refine Am _ (by rfl) _ 22 5 rfl Tryz.underlying22 _ _ _ rfl HVL.out ?_) | (go_at_call 71; refine (Calls.mono HDEC.out ?_); rintro e w2 ⟨rfl,hb2⟩) | fail)
   by_cases hbad:c = 65533∧n = 1
   ·obtain ⟨rfl,rfl⟩:=hbad
    as_aux_lemma=>
     have HN:Hid (AZ c0.toNat r [] = none):=hid (HST.out.trans (JL (chr_bad HCN.out)));clear HCN
     go_wp2_with (first | (go_at_call 47; refine (AF _ _ _ _ (by decide)).mono ?_; rintro e w4 ⟨⟨x,rfl⟩,hb4⟩) | fail)
     go_ret2
     exact StrRes.bad HN.out _ _ (Ac (Ac HB.out hb2) hb4)
   ·have hu:=chr_u8 HCN.out hbad;have hsz:=Dd hu;have HA:=hid (Du (q:=c0.toNat) (out:=out) hu);have HU:=hid hu
    have hcs:((c:Int) == 65533) = false∨((c:Int) == 65533) = true∧((n:Int) == 1) = false:=by simp; omega
    have HCS:=hid hcs;clear hu HCN hbad hcs
    by_cases h010:c = 0∨c = 10
    ·have HN:Hid (AZ c0.toNat r [] = none):=hid (HST.out.trans (by rw [HA.out,if_pos h010]))
     as_aux_lemma=>
      have e1:((c:Int) == 65533) = false:=by simp; omega
      have hcs:((c:Int) == 0) = true∨((c:Int) == 0) = false∧((c:Int) == 10) = true:=by simp; omega
      clear h010
      rcases hcs with q1 | ⟨q1,q2⟩
      all_goals
       go_wp2_with (first | (go_at_call 47; refine (AF _ _ _ _ (by decide)).mono ?_; rintro e w4 ⟨⟨x,rfl⟩,hb4⟩) | fail)
       go_ret2
       exact StrRes.bad HN.out _ _ (Ac (Ac (Ac HB.out hb2) bl5) hb4)
    ·have hz1:((c:Int) == 0) = false:=by simp; omega
     have hz2:((c:Int) == 10) = false:=by simp; omega
     by_cases hcq:c = c0.toNat
     ·have hcq2:((c:Int) == (c0.toNat:Int)) = true:=by simp; omega
      have e1:((c:Int) == 65533) = false:=by simp; omega
      obtain ⟨bq,l2,rfl,hbq,rfl⟩:=NJ HU.out (by omega);have HN:Hid (AZ c0.toNat r [] = some (out,l2.length)):=hid (by rw [HST.out,HA.out,if_neg h010,if_pos hcq]; rfl)
      as_aux_lemma=>
       have h1le:(1:Int)≤((bq::l2).length:Int):=by simp <;> omega
       have hn1:l2.length+1≤r.length:=by simpa using hlr
       have h10:=((HDR.out w2 hb2).c10).1;have HKN:Hid (s.k+(r.length+1 - l2.length)≤bs.length):=hid (by omega)
       have hm8:bs.length≤100000000:=by omega
       have hrl7:r.length≤10000000:=by omega
       clear h010 hcq
       go_wp2_with (first
        | ((with_reducible refine CE ?_); refine Az _ (by rfl) _ _ 22 5 rfl Tryz.underlying22 Af _ _ _ rfl (HVL.out.below hb2) _ (1:Int) rfl (by decide) h1le ?_; intro vs1 hvs1; simp only [Int.toNat_one,List.drop_succ_cons,List.drop_zero] at hvs1)
        | ((with_reducible refine Cb ?_); refine Am _ (by rfl) _ 22 5 rfl Tryz.underlying22 _ _ _ rfl hvs1 ?_)
        | (go_at_call 39; refine Calls.mono (Nu s _ (r.length+1 - l2.length) ?_ _ (HDR.out _ hb2) HKN.out hm8) ?_; (· omega); rintro e w3 ⟨rfl,vi3,hdw3,hgr3⟩; have HD3:=hid hdw3; have HG3:=hid hgr3; have HO3:=hid ((HOL.out.below hb2).grown hgr3 hpB HAP2.out); clear hdw3 hgr3)
        | ((with_reducible refine BT ?_); refine I5 _ (by rfl) _ 22 9 5 rfl Tryz.underlying22 Tryz.underlying5 Tryz.underlying9 w.heap.size _ out rfl HO3.out ?_)
        | fail)
       go_ret2
       rw [HN.out];exact ⟨rfl,vi3,HD3.out,EE (Ac HB.out hb2) HG3.out⟩
     ·have hcq2:((c:Int) == (c0.toNat:Int)) = false:=by simp; omega
      by_cases h92:c = 92
      ·subst h92;obtain ⟨b,l2,rfl,hb92,rfl⟩:=NJ HU.out (by decide)
       have HA2:Hid (AZ c0.toNat r [] = (match Hd (b::l2) with
        | none=>none
        | some (bb,m)=>AZ c0.toNat ((b::l2).drop m) (out++bb))):=hid (by rw [HST.out,HA.out,if_neg (by decide),if_neg hcq,if_pos rfl]; rfl)
       clear h010 hcq HA HCS hz1 hz2
       have hz1:((92:Int) == 0) = false:=by decide
       rcases l2 with _ | ⟨d,l3⟩
       ·have HN:Hid (AZ c0.toNat r [] = none):=hid (HA2.out.trans rfl)
        as_aux_lemma=>
         have hgl3:=(hb2.cell (World.block_lt_of_cell? _ _ hgl)).trans hgl
         go_upto_region 22 with (first | ((with_reducible refine Cb ?_); refine Am _ (by rfl) _ 22 5 rfl Tryz.underlying22 _ _ _ rfl (HVL.out.below hb2) ?_) | fail)
         go_quiet (fail)
         go_wp2_with fail
         go_ret2
         exact StrRes.bad HN.out _ _ ((Ac HB.out hb2).trans ⟨rfl,rfl,rfl,Nat.le_refl _,fun _ _=>rfl⟩)
       ·have hlt2:decide (((b::d::l3).length:Int) < 2) = false:=by simp <;> omega
        have h1lt:(1:Int).toNat < (b::d::l3).length:=by simp
        go_upto_region 26 with (first
         | ((with_reducible refine Cb ?_); refine Am _ (by rfl) _ 22 5 rfl Tryz.underlying22 _ _ _ rfl (HVL.out.below hb2) ?_)
         | ((with_reducible refine AA ?_); refine Ae _ (by rfl) _ _ 22 5 rfl Tryz.underlying22 Af _ _ _ rfl (HVL.out.below hb2) _ (1:Int) rfl (by decide) h1lt ?_; intro ad2 hc2; simp only [Int.toNat_one,List.getElem_cons_succ,List.getElem_cons_zero] at hc2)
         | fail)
        clear hlt2 h1lt;have HSL:=hid (Dt (P:=Tryz.prog) HVL.out 22 5 Tryz.underlying22 Af .i64 2 2 rfl (by simp));have hb2c:=HB.out.size;have hb2s:=hb2.size
        by_cases hd34:d.toNat = 34
        ·have HA3:Hid (AZ c0.toNat r [] = AZ c0.toNat l3 (out++[d])):=hid (by rw [HA2.out,BJ,show D8 d.toNat = 34 by rw [hd34]; rfl,if_pos (by decide)]; rw [show UInt8.ofNat 34 = d by rw [←hd34]; simp]; rfl)
         as_aux_lemma=>
          have hy34:((d.toNat:Int) == 34) = true:=by simp; omega
          obtain ⟨v3,hsl4,hv3⟩:=HSL.out;simp only [List.drop_succ_cons,List.drop_zero] at hv3;clear hd34 HSL
          go_upto_region 30 with fail
          go_region_held3 (fun _=>True) (trivial)
           ((refine Bb _ (by rfl) _ _ 22 (by rfl) 5 Tryz.underlying22 Af w.heap.size (C9 _ _ (by omega)) _ out (by rfl) (HOL.out.below (Ac hb2 bl5)) _ 1 _ [d] (by rfl) rfl (by decide) (Dc _ rfl (heap_alloc_new _ _)) (by omega) ?_; intro v4 w4 hown4 hb4))
          all_goals
           have hbE:Below w.heap.size wr w4:=((Ac hb2 bl5).mono HB.out.size).trans hb4
           go_wp2_with fail
           go_roundw
           case rel=>exact ⟨l3,_,hv3.kept (hbE.block g HGG.out),.inl hown4,OwnB.apart hown4 hpB,HA3.out,HB.out.trans hbE,by simp at hlr; omega,by simp at ho4 ⊢; omega⟩
           case measure=>exact Cf hv3 HVL.out (by simp <;> omega)
        ·have hn34:((d.toNat:Int) == 34) = false:=by simp; omega
         go_upto_region 27 with fail
         clear hn34
         by_cases hd39:d.toNat = 39
         ·have HA3:Hid (AZ c0.toNat r [] = AZ c0.toNat l3 (out++[d])):=hid (by rw [HA2.out,BJ,show D8 d.toNat = 39 by rw [hd39]; rfl,if_pos (by decide)]; rw [show UInt8.ofNat 39 = d by rw [←hd39]; simp]; rfl)
          as_aux_lemma=>
           have hy39:((d.toNat:Int) == 39) = true:=by simp; omega
           obtain ⟨v3,hsl4,hv3⟩:=HSL.out;simp only [List.drop_succ_cons,List.drop_zero] at hv3;clear hd39 HSL
           go_upto_region 30 with fail
           go_region_held3 (fun _=>True) (trivial)
            ((refine Bb _ (by rfl) _ _ 22 (by rfl) 5 Tryz.underlying22 Af w.heap.size (C9 _ _ (by omega)) _ out (by rfl) (HOL.out.below (Ac hb2 bl5)) _ 1 _ [d] (by rfl) rfl (by decide) (Dc _ rfl (heap_alloc_new _ _)) (by omega) ?_; intro v4 w4 hown4 hb4))
           all_goals
            have hbE:Below w.heap.size wr w4:=((Ac hb2 bl5).mono HB.out.size).trans hb4
            go_wp2_with fail
            go_roundw
            case rel=>exact ⟨l3,_,hv3.kept (hbE.block g HGG.out),.inl hown4,OwnB.apart hown4 hpB,HA3.out,HB.out.trans hbE,by simp at hlr; omega,by simp at ho4 ⊢; omega⟩
            case measure=>exact Cf hv3 HVL.out (by simp <;> omega)
         ·have hn39:((d.toNat:Int) == 39) = false:=by simp; omega
          go_upto_region 28 with fail
          clear hn39
          by_cases hd92:d.toNat = 92
          ·have HA3:Hid (AZ c0.toNat r [] = AZ c0.toNat l3 (out++[d])):=hid (by rw [HA2.out,BJ,show D8 d.toNat = 92 by rw [hd92]; rfl,if_pos (by decide)]; rw [show UInt8.ofNat 92 = d by rw [←hd92]; simp]; rfl)
           as_aux_lemma=>
            have hy92:((d.toNat:Int) == 92) = true:=by simp; omega
            obtain ⟨v3,hsl4,hv3⟩:=HSL.out;simp only [List.drop_succ_cons,List.drop_zero] at hv3;clear hd92 HSL
            go_upto_region 30 with fail
            go_region_held3 (fun _=>True) (trivial)
             ((refine Bb _ (by rfl) _ _ 22 (by rfl) 5 Tryz.underlying22 Af w.heap.size (C9 _ _ (by omega)) _ out (by rfl) (HOL.out.below (Ac hb2 bl5)) _ 1 _ [d] (by rfl) rfl (by decide) (Dc _ rfl (heap_alloc_new _ _)) (by omega) ?_; intro v4 w4 hown4 hb4))
            all_goals
             have hbE:Below w.heap.size wr w4:=((Ac hb2 bl5).mono HB.out.size).trans hb4
             go_wp2_with fail
             go_roundw
             case rel=>exact ⟨l3,_,hv3.kept (hbE.block g HGG.out),.inl hown4,OwnB.apart hown4 hpB,HA3.out,HB.out.trans hbE,by simp at hlr; omega,by simp at ho4 ⊢; omega⟩
             case measure=>exact Cf hv3 HVL.out (by simp <;> omega)
          ·have hn92:((d.toNat:Int) == 92) = false:=by simp; omega
           go_upto_region 29 with fail
           clear hn92
           by_cases hd63:d.toNat = 63
           ·have HA3:Hid (AZ c0.toNat r [] = AZ c0.toNat l3 (out++[d])):=hid (by rw [HA2.out,BJ,show D8 d.toNat = 63 by rw [hd63]; rfl,if_pos (by decide)]; rw [show UInt8.ofNat 63 = d by rw [←hd63]; simp]; rfl)
            as_aux_lemma=>
             have hy63:((d.toNat:Int) == 63) = true:=by simp; omega
             obtain ⟨v3,hsl4,hv3⟩:=HSL.out;simp only [List.drop_succ_cons,List.drop_zero] at hv3;clear hd63 HSL
             go_upto_region 30 with fail
             go_region_held3 (fun _=>True) (trivial)
              ((refine Bb _ (by rfl) _ _ 22 (by rfl) 5 Tryz.underlying22 Af w.heap.size (C9 _ _ (by omega)) _ out (by rfl) (HOL.out.below (Ac hb2 bl5)) _ 1 _ [d] (by rfl) rfl (by decide) (Dc _ rfl (heap_alloc_new _ _)) (by omega) ?_; intro v4 w4 hown4 hb4))
             all_goals
              have hbE:Below w.heap.size wr w4:=((Ac hb2 bl5).mono HB.out.size).trans hb4
              go_wp2_with fail
              go_roundw
              case rel=>exact ⟨l3,_,hv3.kept (hbE.block g HGG.out),.inl hown4,OwnB.apart hown4 hpB,HA3.out,HB.out.trans hbE,by simp at hlr; omega,by simp at ho4 ⊢; omega⟩
              case measure=>exact Cf hv3 HVL.out (by simp <;> omega)
           ·have hn63:((d.toNat:Int) == 63) = false:=by simp; omega
            go_upto_region 31 with fail
            clear hn63
            by_cases hd97:d.toNat = 97
            ·have HA3:Hid (AZ c0.toNat r [] = AZ c0.toNat l3 (out++[UInt8.ofNat 7])):=hid (by rw [HA2.out,BJ,show D8 d.toNat = 7 by rw [hd97]; rfl,if_pos (by decide)]; rfl)
             as_aux_lemma=>
              have hy97:((d.toNat:Int) == 97) = true:=by simp; omega
              obtain ⟨v3,hsl4,hv3⟩:=HSL.out;simp only [List.drop_succ_cons,List.drop_zero] at hv3;clear hd97 HSL
              go_upto_region 32 with fail
              go_region_held3 (fun _=>True) (trivial)
               ((refine Bb _ (by rfl) _ _ 22 (by rfl) 5 Tryz.underlying22 Af w.heap.size (C9 _ _ (by omega)) _ out (by rfl) (HOL.out.below (Ac hb2 bl5)) _ 1 _ [UInt8.ofNat 7] (by rfl) rfl (by decide) (Dc _ (by rfl) (heap_alloc_new _ _)) (by omega) ?_; intro v4 w4 hown4 hb4))
              all_goals
               have hbE:Below w.heap.size wr w4:=((Ac hb2 bl5).mono HB.out.size).trans hb4
               go_wp2_with fail
               go_roundw
               case rel=>exact ⟨l3,_,hv3.kept (hbE.block g HGG.out),.inl hown4,OwnB.apart hown4 hpB,HA3.out,HB.out.trans hbE,by simp at hlr; omega,by simp at ho4 ⊢; omega⟩
               case measure=>exact Cf hv3 HVL.out (by simp <;> omega)
            ·have hn97:((d.toNat:Int) == 97) = false:=by simp; omega
             go_upto_region 33 with fail
             clear hn97
             by_cases hd98:d.toNat = 98
             ·have HA3:Hid (AZ c0.toNat r [] = AZ c0.toNat l3 (out++[UInt8.ofNat 8])):=hid (by rw [HA2.out,BJ,show D8 d.toNat = 8 by rw [hd98]; rfl,if_pos (by decide)]; rfl)
              as_aux_lemma=>
               have hy98:((d.toNat:Int) == 98) = true:=by simp; omega
               obtain ⟨v3,hsl4,hv3⟩:=HSL.out;simp only [List.drop_succ_cons,List.drop_zero] at hv3;clear hd98 HSL
               go_upto_region 34 with fail
               go_region_held3 (fun _=>True) (trivial)
                ((refine Bb _ (by rfl) _ _ 22 (by rfl) 5 Tryz.underlying22 Af w.heap.size (C9 _ _ (by omega)) _ out (by rfl) (HOL.out.below (Ac hb2 bl5)) _ 1 _ [UInt8.ofNat 8] (by rfl) rfl (by decide) (Dc _ (by rfl) (heap_alloc_new _ _)) (by omega) ?_; intro v4 w4 hown4 hb4))
               all_goals
                have hbE:Below w.heap.size wr w4:=((Ac hb2 bl5).mono HB.out.size).trans hb4
                go_wp2_with fail
                go_roundw
                case rel=>exact ⟨l3,_,hv3.kept (hbE.block g HGG.out),.inl hown4,OwnB.apart hown4 hpB,HA3.out,HB.out.trans hbE,by simp at hlr; omega,by simp at ho4 ⊢; omega⟩
                case measure=>exact Cf hv3 HVL.out (by simp <;> omega)
             ·have hn98:((d.toNat:Int) == 98) = false:=by simp; omega
              go_upto_region 35 with fail
              clear hn98
              by_cases hd110:d.toNat = 110
              ·have HA3:Hid (AZ c0.toNat r [] = AZ c0.toNat l3 (out++[UInt8.ofNat 10])):=hid (by rw [HA2.out,BJ,show D8 d.toNat = 10 by rw [hd110]; rfl,if_pos (by decide)]; rfl)
               as_aux_lemma=>
                have hy110:((d.toNat:Int) == 110) = true:=by simp; omega
                obtain ⟨v3,hsl4,hv3⟩:=HSL.out;simp only [List.drop_succ_cons,List.drop_zero] at hv3;clear hd110 HSL
                go_upto_region 36 with fail
                go_region_held3 (fun _=>True) (trivial)
                 ((refine Bb _ (by rfl) _ _ 22 (by rfl) 5 Tryz.underlying22 Af w.heap.size (C9 _ _ (by omega)) _ out (by rfl) (HOL.out.below (Ac hb2 bl5)) _ 1 _ [UInt8.ofNat 10] (by rfl) rfl (by decide) (Dc _ (by rfl) (heap_alloc_new _ _)) (by omega) ?_; intro v4 w4 hown4 hb4))
                all_goals
                 have hbE:Below w.heap.size wr w4:=((Ac hb2 bl5).mono HB.out.size).trans hb4
                 go_wp2_with fail
                 go_roundw
                 case rel=>exact ⟨l3,_,hv3.kept (hbE.block g HGG.out),.inl hown4,OwnB.apart hown4 hpB,HA3.out,HB.out.trans hbE,by simp at hlr; omega,by simp at ho4 ⊢; omega⟩
                 case measure=>exact Cf hv3 HVL.out (by simp <;> omega)
              ·have hn110:((d.toNat:Int) == 110) = false:=by simp; omega
               go_upto_region 37 with fail
               clear hn110
               by_cases hd114:d.toNat = 114
               ·have HA3:Hid (AZ c0.toNat r [] = AZ c0.toNat l3 (out++[UInt8.ofNat 13])):=hid (by rw [HA2.out,BJ,show D8 d.toNat = 13 by rw [hd114]; rfl,if_pos (by decide)]; rfl)
                as_aux_lemma=>
                 have hy114:((d.toNat:Int) == 114) = true:=by simp; omega
                 obtain ⟨v3,hsl4,hv3⟩:=HSL.out;simp only [List.drop_succ_cons,List.drop_zero] at hv3;clear hd114 HSL
                 go_upto_region 38 with fail
                 go_region_held3 (fun _=>True) (trivial)
                  ((refine Bb _ (by rfl) _ _ 22 (by rfl) 5 Tryz.underlying22 Af w.heap.size (C9 _ _ (by omega)) _ out (by rfl) (HOL.out.below (Ac hb2 bl5)) _ 1 _ [UInt8.ofNat 13] (by rfl) rfl (by decide) (Dc _ (by rfl) (heap_alloc_new _ _)) (by omega) ?_; intro v4 w4 hown4 hb4))
                 all_goals
                  have hbE:Below w.heap.size wr w4:=((Ac hb2 bl5).mono HB.out.size).trans hb4
                  go_wp2_with fail
                  go_roundw
                  case rel=>exact ⟨l3,_,hv3.kept (hbE.block g HGG.out),.inl hown4,OwnB.apart hown4 hpB,HA3.out,HB.out.trans hbE,by simp at hlr; omega,by simp at ho4 ⊢; omega⟩
                  case measure=>exact Cf hv3 HVL.out (by simp <;> omega)
               ·have hn114:((d.toNat:Int) == 114) = false:=by simp; omega
                go_upto_region 39 with fail
                clear hn114
                by_cases hd116:d.toNat = 116
                ·have HA3:Hid (AZ c0.toNat r [] = AZ c0.toNat l3 (out++[UInt8.ofNat 9])):=hid (by rw [HA2.out,BJ,show D8 d.toNat = 9 by rw [hd116]; rfl,if_pos (by decide)]; rfl)
                 as_aux_lemma=>
                  have hy116:((d.toNat:Int) == 116) = true:=by simp; omega
                  obtain ⟨v3,hsl4,hv3⟩:=HSL.out;simp only [List.drop_succ_cons,List.drop_zero] at hv3;clear hd116 HSL
                  go_upto_region 40 with fail
                  go_region_held3 (fun _=>True) (trivial)
                   ((refine Bb _ (by rfl) _ _ 22 (by rfl) 5 Tryz.underlying22 Af w.heap.size (C9 _ _ (by omega)) _ out (by rfl) (HOL.out.below (Ac hb2 bl5)) _ 1 _ [UInt8.ofNat 9] (by rfl) rfl (by decide) (Dc _ (by rfl) (heap_alloc_new _ _)) (by omega) ?_; intro v4 w4 hown4 hb4))
                  all_goals
                   have hbE:Below w.heap.size wr w4:=((Ac hb2 bl5).mono HB.out.size).trans hb4
                   go_wp2_with fail
                   go_roundw
                   case rel=>exact ⟨l3,_,hv3.kept (hbE.block g HGG.out),.inl hown4,OwnB.apart hown4 hpB,HA3.out,HB.out.trans hbE,by simp at hlr; omega,by simp at ho4 ⊢; omega⟩
                   case measure=>exact Cf hv3 HVL.out (by simp <;> omega)
                ·have hn116:((d.toNat:Int) == 116) = false:=by simp; omega
                 go_upto_region 41 with fail
                 clear hn116
                 by_cases hd118:d.toNat = 118
                 ·have HA3:Hid (AZ c0.toNat r [] = AZ c0.toNat l3 (out++[UInt8.ofNat 11])):=hid (by rw [HA2.out,BJ,show D8 d.toNat = 11 by rw [hd118]; rfl,if_pos (by decide)]; rfl)
                  as_aux_lemma=>
                   have hy118:((d.toNat:Int) == 118) = true:=by simp; omega
                   obtain ⟨v3,hsl4,hv3⟩:=HSL.out;simp only [List.drop_succ_cons,List.drop_zero] at hv3;clear hd118 HSL
                   go_upto_region 42 with fail
                   go_region_held3 (fun _=>True) (trivial)
                    ((refine Bb _ (by rfl) _ _ 22 (by rfl) 5 Tryz.underlying22 Af w.heap.size (C9 _ _ (by omega)) _ out (by rfl) (HOL.out.below (Ac hb2 bl5)) _ 1 _ [UInt8.ofNat 11] (by rfl) rfl (by decide) (Dc _ (by rfl) (heap_alloc_new _ _)) (by omega) ?_; intro v4 w4 hown4 hb4))
                   all_goals
                    have hbE:Below w.heap.size wr w4:=((Ac hb2 bl5).mono HB.out.size).trans hb4
                    go_wp2_with fail
                    go_roundw
                    case rel=>exact ⟨l3,_,hv3.kept (hbE.block g HGG.out),.inl hown4,OwnB.apart hown4 hpB,HA3.out,HB.out.trans hbE,by simp at hlr; omega,by simp at ho4 ⊢; omega⟩
                    case measure=>exact Cf hv3 HVL.out (by simp <;> omega)
                 ·have hn118:((d.toNat:Int) == 118) = false:=by simp; omega
                  go_upto_region 43 with fail
                  clear hn118
                  by_cases hd102:d.toNat = 102
                  ·have HA3:Hid (AZ c0.toNat r [] = AZ c0.toNat l3 (out++[UInt8.ofNat 12])):=hid (by rw [HA2.out,BJ,show D8 d.toNat = 12 by rw [hd102]; rfl,if_pos (by decide)]; rfl)
                   as_aux_lemma=>
                    have hy102:((d.toNat:Int) == 102) = true:=by simp; omega
                    obtain ⟨v3,hsl4,hv3⟩:=HSL.out;simp only [List.drop_succ_cons,List.drop_zero] at hv3;clear hd102 HSL
                    go_upto_region 44 with fail
                    go_region_held3 (fun _=>True) (trivial)
                     ((refine Bb _ (by rfl) _ _ 22 (by rfl) 5 Tryz.underlying22 Af w.heap.size (C9 _ _ (by omega)) _ out (by rfl) (HOL.out.below (Ac hb2 bl5)) _ 1 _ [UInt8.ofNat 12] (by rfl) rfl (by decide) (Dc _ (by rfl) (heap_alloc_new _ _)) (by omega) ?_; intro v4 w4 hown4 hb4))
                    all_goals
                     have hbE:Below w.heap.size wr w4:=((Ac hb2 bl5).mono HB.out.size).trans hb4
                     go_wp2_with fail
                     go_roundw
                     case rel=>exact ⟨l3,_,hv3.kept (hbE.block g HGG.out),.inl hown4,OwnB.apart hown4 hpB,HA3.out,HB.out.trans hbE,by simp at hlr; omega,by simp at ho4 ⊢; omega⟩
                     case measure=>exact Cf hv3 HVL.out (by simp <;> omega)
                  ·have hn102:((d.toNat:Int) == 102) = false:=by simp; omega
                   go_upto_region 45 with fail
                   clear hn102
                   have he0:D8 d.toNat = 0:=by unfold D8; rw [if_neg (by omega),if_neg (by omega),if_neg (by omega),if_neg (by omega),if_neg (by omega),if_neg (by omega),if_neg (by omega),if_neg (by omega)]
                   have HA2':Hid (AZ c0.toNat r [] = (match (if AK d then LV (d::l3) else if d.toNat = 120 then H5 l3 else if d.toNat = 117 then EK 4 (b::d::l3) else if d.toNat = 85 then EK 8 (b::d::l3) else none) with
                    | none=>none
                    | some (bb,m)=>AZ c0.toNat ((b::d::l3).drop m) (out++bb))):=hid (by rw [HA2.out,BJ,he0,if_neg (by decide)])
                   clear hd34 hd39 hd92 hd63 hd97 hd98 hd110 hd114 hd116 hd118 hd102 HA2 he0
                   have hl3s:l3.length≤10000000:=by simp at hlr; omega
                   have HL3:Hid (l3.length+2≤r.length):=hid (by simpa using hlr)
                   cases hoc:AK d with
                   | true=>
                    as_aux_lemma=>
                     have HA3:Hid (AZ c0.toNat r [] = (match LV (d::l3) with
                      | none=>none
                      | some (bb,m)=>AZ c0.toNat ((b::d::l3).drop m) (out++bb))):=hid (by rw [HA2'.out,hoc,if_pos rfl])
                     have q8:(((d.toNat:Int) == 48) = true)∨(((d.toNat:Int) == 48) = false∧(((d.toNat:Int) == 49) = true∨(((d.toNat:Int) == 49) = false∧(((d.toNat:Int) == 50) = true∨(((d.toNat:Int) == 50) = false∧(((d.toNat:Int) == 51) = true∨(((d.toNat:Int) == 51) = false∧(((d.toNat:Int) == 52) = true∨(((d.toNat:Int) == 52) = false∧(((d.toNat:Int) == 53) = true∨(((d.toNat:Int) == 53) = false∧(((d.toNat:Int) == 54) = true∨(((d.toNat:Int) == 54) = false∧((d.toNat:Int) == 55) = true))))))))))))):=by unfold AK at hoc; simp at hoc ⊢; omega
                     have Q8:=hid q8;clear q8;have h1k:Hid (1≤Aq AK (d::l3)):=hid (by rw [BB,hoc,if_pos rfl]; omega)
                     go_upto_if 187 with (fail)
                     go_cut [187] (fun t wx=>t = .bool true∧wx = w2)
                     case first=>
                      as_aux_lemma=>
                       clear HA3 HA2' HSL HOL HVL HDR HB HST HAP2 HS HD HNB HV HGG hgl
                       cases q0:((d.toNat:Int) == 48) with
                       | true=>
                        go_wp2_with fail
                        go_meet
                        exact ⟨rfl,rfl⟩
                       | false=>
                        go_upto_region 46 with fail
                        cases q1:((d.toNat:Int) == 49) with
                        | true=>
                         go_wp2_with fail
                         go_meet
                         exact ⟨rfl,rfl⟩
                        | false=>
                         go_upto_region 47 with fail
                         cases q2:((d.toNat:Int) == 50) with
                         | true=>
                          go_wp2_with fail
                          go_meet
                          exact ⟨rfl,rfl⟩
                         | false=>
                          go_upto_region 48 with fail
                          cases q3:((d.toNat:Int) == 51) with
                          | true=>
                           go_wp2_with fail
                           go_meet
                           exact ⟨rfl,rfl⟩
                          | false=>
                           go_upto_region 49 with fail
                           cases q4:((d.toNat:Int) == 52) with
                           | true=>
                            go_wp2_with fail
                            go_meet
                            exact ⟨rfl,rfl⟩
                           | false=>
                            go_upto_region 50 with fail
                            cases q5:((d.toNat:Int) == 53) with
                            | true=>
                             go_wp2_with fail
                             go_meet
                             exact ⟨rfl,rfl⟩
                            | false=>
                             go_upto_region 51 with fail
                             cases q6:((d.toNat:Int) == 54) with
                             | true=>
                              go_wp2_with fail
                              go_meet
                              exact ⟨rfl,rfl⟩
                             | false=>
                              go_upto_region 52 with fail
                              cases q7:((d.toNat:Int) == 55) with
                              | true=>
                               go_wp2_with fail
                               go_meet
                               exact ⟨rfl,rfl⟩
                              | false=>
                               exfalso
                               have q8:=Q8.out;simp [q0,q1,q2,q3,q4,q5,q6,q7] at q8
                     case rest=>
                      obtain ⟨rfl,rfl⟩:=hcut;clear Q8
                      as_aux_lemma=>
                       obtain ⟨nO,hnO⟩:∃ nO,nO = Aq AK (d::l3):=⟨_,rfl⟩
                       have hnO2:nO≤((d::l3)).length:=by rw [hnO]; exact Bp AK (d::l3)
                       obtain ⟨k,hk⟩:∃ k,k = min 3 nO:=⟨_,rfl⟩
                       have hk3:k≤3:=by omega
                       have hkO:k≤nO:=by omega
                       have HAL:Hid (∀ x ∈ ((d::l3)).take k,AK x = true):=hid (fun x hx=>Hw AK (d::l3) x (by rw [←hnO]; exact List.take_subset_take_left _ hkO hx));obtain ⟨m,hml⟩:∃ m,m = ((d::l3)).length - nO:=⟨_,rfl⟩;have HTL:=hid fun (v':Value) (w':World) (hv':View w' g v' ((d::l3)))=>Jb AK Pp set_oct (by decide) (by decide) v' ((d::l3)) g w' hv';rw [←hnO,←hml] at HTL;have HWO:Hid (IntKind.i64.wrap (((l3.length:Int)+1) - (m:Int)) = (nO:Int)):=hid (by (try simp only [List.length_cons] at hml hnO2); rw [IntWalk.i64_in _ (by omega)]; omega);have hkl:k≤((d::l3)).length:=Nat.le_trans hkO hnO2;have HKL:Hid ((((d::l3)).take k).length = k):=hid (by rw [List.length_take]; omega);obtain ⟨v9,hsl9,hv9⟩:=Dt (P:=Tryz.prog) HVL.out 22 5 Tryz.underlying22 Af .i64 1 1 rfl (by simp);simp only [List.drop_succ_cons,List.drop_zero] at hv9;obtain ⟨ao9,cp9,rfl⟩:=hv9.slice;have HV9:=hid (hv9.below hb2)
                       try simp only [List.length_cons] at hsl9
                       have HK:=hid hk;have HNO:=hid hnO;clear hv9 hnO hml hoc HSL HA2' hk
                       go_upto_region 53 with fail
                       have hwO:=HWO.out
                       go_region_held3 (fun _=>True) (trivial)
                        ((go_at_call 83; refine Calls.mono (HTL.out _ _ (HV9.out.below bl5)) ?_; rintro e w3 ⟨ao3,c3,rfl,hb3⟩))
                       all_goals
                        clear hwO hsl9;have hb23:=Ac (Ac hb2 bl5) hb3;clear hb3
                        go_upto_if 205 with (fail)
                        go_cut [11] (fun t wx=>t = .int .i64 (k:Int)∧wx = w3)
                        case first=>
                         as_aux_lemma=>
                          by_cases h3:3 < nO
                          ·have hI3:decide ((3:Int) < (nO:Int)) = true:=by simp; omega
                           go_wp2_with fail
                           go_meet
                           exact ⟨congrArg (Value.int .i64) (by have:=HK.out; omega),rfl⟩
                          ·have hI3:decide ((3:Int) < (nO:Int)) = false:=by simp; omega
                           go_wp2_with fail
                           go_meet
                           exact ⟨congrArg (Value.int .i64) (by have:=HK.out; omega),rfl⟩
                        case rest=>
                         obtain ⟨rfl,rfl⟩:=hcut;have HVW:=hid (HVL.out.below hb23);have hb3s:=hb23.size
                         have hlo:(1:Int)+(k:Int)≤((b::d::l3).length:Int):=by (try simp only [List.length_cons] at hkl ⊢); omega
                         have HO3:Hid (LV (d::l3) = if 255 < Gy 0 ((d::l3).take k) then none else some ([UInt8.ofNat (Gy 0 ((d::l3).take k))],1+k)):=hid (by unfold LV; rw [←HNO.out,←HK.out])
                         have hk1:1≤((d::l3).take k).length:=by have h1:=h1k.out; have h2:=HK.out; rw [←HNO.out] at h1; rw [HKL.out]; omega
                         have hk1':1≤k:=by rw [HKL.out] at hk1; exact hk1
                         have hk3':((d::l3).take k).length≤3:=by rw [HKL.out]; exact hk3
                         by_cases hbig:255 < Gy 0 ((d::l3).take k)
                         ·have HN:Hid (AZ c0.toNat r [] = none):=hid (by rw [HA3.out,HO3.out,if_pos hbig])
                          as_aux_lemma=>
                           have HP:=hid (fun w'=>LU ((d::l3).take k) w' hk1 hk3' HAL.out hbig);clear hbig hk1 hk3'
                           go_wp2_with (first
                            | ((with_reducible refine Dk ?_); refine AP _ (by rfl) _ _ _ 22 5 rfl Tryz.underlying22 Af _ _ _ rfl HVW.out _ _ (1:Int) (1+(k:Int)) rfl rfl (by omega) (by omega) hlo ?_; intro vsO hvsO; replace hvsO:=hvsO.eq (show _ = (d::l3).take k from (by rw [show ((1:Int)+(k:Int)).toNat - ((1:Int)).toNat = k by omega]; rfl)))
                            | ((with_reducible refine BT ?_); refine Ap _ (by rfl) _ 22 9 5 rfl Tryz.underlying22 Tryz.underlying5 Tryz.underlying9 _ _ _ rfl hvsO ?_)
                            | (go_at_call 84; refine Calls.mono (HP.out _ (HDR.out _ hb23).glob.rng) ?_; rintro e w5 ⟨⟨n5,t5,x5,rfl⟩,hb5⟩)
                            | ((with_reducible refine DX ?_); refine A9 _ (by rfl) _ _ 22 5 rfl Tryz.underlying22 Af _ _ _ rfl (HVW.out.below hb5) _ (1+(k:Int)) rfl (by omega) hlo ?_; intro vsU hvsU)
                            | (go_at_call 47; refine (AF _ _ _ _ (by decide)).mono ?_; rintro e w4 ⟨⟨x,rfl⟩,hb4⟩)
                            | fail)
                           go_ret2
                           exact StrRes.bad HN.out _ _ (Ac (Ac (Ac (Ac HB.out hb23) hb5) bl5) hb4)
                         ·obtain ⟨x,hx⟩:∃ x,Gy 0 ((d::l3).take k) = x:=⟨_,rfl⟩;have HA4:Hid (AZ c0.toNat r [] = AZ c0.toNat ((b::d::l3).drop (1+k)) (out++[UInt8.ofNat x])):=hid (by rw [HA3.out,HO3.out,if_neg hbig,hx])
                          have hx255:x≤255:=by omega
                          have HX8:Hid ((x:Int) = ((UInt8.ofNat x).toNat:Int)):=hid (by simp; omega)
                          as_aux_lemma=>
                           have HP:=hid (fun w'=>LT ((d::l3).take k) x w' hk1 hk3' HAL.out hx hx255);clear hbig hk1 hk3' hx
                           go_upto_region 59 with (first
                            | ((with_reducible refine Dk ?_); refine AP _ (by rfl) _ _ _ 22 5 rfl Tryz.underlying22 Af _ _ _ rfl HVW.out _ _ (1:Int) (1+(k:Int)) rfl rfl (by omega) (by omega) hlo ?_; intro vsO hvsO; replace hvsO:=hvsO.eq (show _ = (d::l3).take k from (by rw [show ((1:Int)+(k:Int)).toNat - ((1:Int)).toNat = k by omega]; rfl)))
                            | ((with_reducible refine BT ?_); refine Ap _ (by rfl) _ 22 9 5 rfl Tryz.underlying22 Tryz.underlying5 Tryz.underlying9 _ _ _ rfl hvsO ?_)
                            | (go_at_call 84; refine Calls.mono (HP.out _) ?_; rintro e w5 ⟨rfl,hb5⟩)
                            | fail)
                           have hb25:=Ac hb23 hb5;have hb5s:=hb5.size;obtain ⟨v6,hsl6,hv6⟩:=Dt (P:=Tryz.prog) HVL.out 22 5 Tryz.underlying22 Af .i64 (1+(k:Int)) (1+k) (by omega) (by (try simp only [List.length_cons] at hkl ⊢); omega);have hw1:IntKind.i64.wrap (1+(k:Int)) = 1+(k:Int):=IntWalk.i64_in _ (by omega);have hw8:IntKind.u8.wrap (x:Int) = (x:Int):=IntWalk.u8_in _ (by omega)
                           go_region_held3 (fun _=>True) (trivial)
                            ((refine Bb _ (by rfl) _ _ 22 (by rfl) 5 Tryz.underlying22 Af w.heap.size (C9 _ _ (by omega)) _ out (by rfl) (HOL.out.below (Ac hb25 bl5)) _ 1 _ [UInt8.ofNat x] (by rfl) rfl (by decide) (Dc _ HX8.out (heap_alloc_new _ _)) (by omega) ?_; intro v4 w4 hown4 hb4))
                           all_goals
                            have hbE:Below w.heap.size wr w4:=((Ac hb25 bl5).mono HB.out.size).trans hb4
                            go_wp2_with fail
                            go_roundw
                            case rel=>exact ⟨_,_,hv6.kept (hbE.block g HGG.out),.inl hown4,OwnB.apart hown4 hpB,HA4.out,HB.out.trans hbE,by have:=HL3.out; simp only [List.length_drop,List.length_cons]; omega,by simp only [List.length_drop,List.length_cons,List.length_append,List.length_nil] at ho4 ⊢; omega⟩
                            case measure=>exact Cf hv6 HVL.out (by simp only [List.length_drop,List.length_cons]; omega)
                   | false=>
                    have HA3:Hid (AZ c0.toNat r [] = (match (if d.toNat = 120 then H5 l3 else if d.toNat = 117 then EK 4 (b::d::l3) else if d.toNat = 85 then EK 8 (b::d::l3) else none) with
                     | none=>none
                     | some (bb,m)=>AZ c0.toNat ((b::d::l3).drop m) (out++bb))):=hid (by rw [HA2'.out,hoc,if_neg (by simp)])
                    have h8:((d.toNat:Int) == 48) = false∧((d.toNat:Int) == 49) = false∧((d.toNat:Int) == 50) = false∧((d.toNat:Int) == 51) = false∧((d.toNat:Int) == 52) = false∧((d.toNat:Int) == 53) = false∧((d.toNat:Int) == 54) = false∧((d.toNat:Int) == 55) = false:=by unfold AK at hoc; simp at hoc ⊢; omega
                    obtain ⟨q48,q49,q50,q51,q52,q53,q54,q55⟩:=h8
                    go_upto_region 60 with fail
                    clear q48 q49 q50 q51 q52 q53 q54 q55 hoc HA2'
                    by_cases hd120:d.toNat = 120
                    ·
                     as_aux_lemma=>
                      have hy:((d.toNat:Int) == 120) = true:=by simp; omega
                      have HA2':Hid (AZ c0.toNat r [] = (match H5 l3 with
                       | none=>none
                       | some (bb,m)=>AZ c0.toNat ((b::d::l3).drop m) (out++bb))):=hid (by rw [HA3.out,if_pos hd120])
                      clear HA3;have HA3:=HA2';have hoc:True:=trivial;obtain ⟨nO,hnO⟩:∃ nO,nO = Aq AO l3:=⟨_,rfl⟩
                      have hnO2:nO≤(l3).length:=by rw [hnO]; exact Bp AO l3
                      obtain ⟨k,hk⟩:∃ k,k = min 2 nO:=⟨_,rfl⟩
                      have hk3:k≤2:=by omega
                      have hkO:k≤nO:=by omega
                      have HAL:Hid (∀ x ∈ (l3).take k,AO x = true):=hid (fun x hx=>Hw AO l3 x (by rw [←hnO]; exact List.take_subset_take_left _ hkO hx));obtain ⟨m,hml⟩:∃ m,m = (l3).length - nO:=⟨_,rfl⟩;have HTL:=hid fun (v':Value) (w':World) (hv':View w' g v' (l3))=>Jb AO Nj set_hex (by decide) (by decide) v' (l3) g w' hv';rw [←hnO,←hml] at HTL;have HWO:Hid (IntKind.i64.wrap ((l3.length:Int) - (m:Int)) = (nO:Int)):=hid (by (try simp only [List.length_cons] at hml hnO2); rw [IntWalk.i64_in _ (by omega)]; omega);have hkl:k≤(l3).length:=Nat.le_trans hkO hnO2;have HKL:Hid (((l3).take k).length = k):=hid (by rw [List.length_take]; omega);obtain ⟨v9,hsl9,hv9⟩:=Dt (P:=Tryz.prog) HVL.out 22 5 Tryz.underlying22 Af .i64 2 2 rfl (by simp);simp only [List.drop_succ_cons,List.drop_zero] at hv9;obtain ⟨ao9,cp9,rfl⟩:=hv9.slice;have HV9:=hid (hv9.below hb2)
                      try simp only [List.length_cons] at hsl9
                      have HK:=hid hk;have HNO:=hid hnO;clear hv9 hnO hml hoc HSL HA2' hk hd120
                      go_upto_region 61 with fail
                      have hwO:=HWO.out
                      go_region_held3 (fun _=>True) (trivial)
                       ((go_at_call 83; refine Calls.mono (HTL.out _ _ (HV9.out.below bl5)) ?_; rintro e w3 ⟨ao3,c3,rfl,hb3⟩))
                      all_goals
                       clear hwO hsl9;have hb23:=Ac (Ac hb2 bl5) hb3;clear hb3
                       go_upto_if 245 with (fail)
                       go_cut [14] (fun t wx=>t = .int .i64 (k:Int)∧wx = w3)
                       case first=>
                        as_aux_lemma=>
                         by_cases h3:2 < nO
                         ·have hI3:decide ((2:Int) < (nO:Int)) = true:=by simp; omega
                          go_wp2_with fail
                          go_meet
                          exact ⟨congrArg (Value.int .i64) (by have:=HK.out; omega),rfl⟩
                         ·have hI3:decide ((2:Int) < (nO:Int)) = false:=by simp; omega
                          go_wp2_with fail
                          go_meet
                          exact ⟨congrArg (Value.int .i64) (by have:=HK.out; omega),rfl⟩
                       case rest=>
                        obtain ⟨rfl,rfl⟩:=hcut;have HVW:=hid (HVL.out.below hb23);have hb3s:=hb23.size
                        have hlo:(2:Int)+(k:Int)≤((b::d::l3).length:Int):=by (try simp only [List.length_cons] at hkl ⊢); omega
                        have hk3':(l3.take k).length≤2:=by rw [HKL.out]; exact hk3
                        by_cases hk0:k = 0
                        ·have HN:Hid (AZ c0.toNat r [] = none):=hid (by rw [HA3.out]; unfold H5; rw [←HNO.out,if_pos (by have:=HK.out; omega)])
                         as_aux_lemma=>
                          have HE:Hid (l3.take k = []):=hid (by rw [hk0]; rfl);clear hk0
                          go_wp2_with (first
                           | ((with_reducible refine Dk ?_); refine AP _ (by rfl) _ _ _ 22 5 rfl Tryz.underlying22 Af _ _ _ rfl HVW.out _ _ (2:Int) (2+(k:Int)) rfl rfl (by omega) (by omega) hlo ?_; intro vsO hvsO; replace hvsO:=hvsO.eq (show _ = (l3).take k from (by rw [show ((2:Int)+(k:Int)).toNat - ((2:Int)).toNat = k by omega]; rfl)))
                           | ((with_reducible refine BT ?_); refine Ap _ (by rfl) _ 22 9 5 rfl Tryz.underlying22 Tryz.underlying5 Tryz.underlying9 _ _ _ rfl hvsO ?_)
                           | (go_at_call 84; rw [HE.out]; refine Calls.mono (JT _ (HDR.out _ hb23).glob.syn) ?_; rintro e w5 ⟨⟨t5,x5,rfl⟩,hb5⟩)
                           | ((with_reducible refine DX ?_); refine A9 _ (by rfl) _ _ 22 5 rfl Tryz.underlying22 Af _ _ _ rfl (HVW.out.below hb5) _ (2+(k:Int)) rfl (by omega) hlo ?_; intro vsU hvsU)
                           | (go_at_call 47; refine (AF _ _ _ _ (by decide)).mono ?_; rintro e w4 ⟨⟨x,rfl⟩,hb4⟩)
                           | fail)
                          go_ret2
                          exact StrRes.bad HN.out _ _ (Ac (Ac (Ac (Ac HB.out hb23) hb5) bl5) hb4)
                        ·have hk1:1≤(l3.take k).length:=by rw [HKL.out]; omega
                         obtain ⟨x,hx⟩:=Mv (l3.take k) 0 HAL.out
                         have HA4:Hid (AZ c0.toNat r [] = AZ c0.toNat ((b::d::l3).drop (2+k)) (out++[UInt8.ofNat x])):=hid (by
                          rw [HA3.out]; unfold H5; rw [←HNO.out,if_neg (by have:=HK.out; omega),←HK.out,hx])
                         have hx255:x≤255:=by have h1:=Nk _ _ _ hx; have h2:=Nat.pow_le_pow_right (show 0 < 16 by omega) hk3'; omega
                         have HX8:Hid ((x:Int) = ((UInt8.ofNat x).toNat:Int)):=hid (by simp; omega)
                         as_aux_lemma=>
                          have HP:=hid (fun w'=>Ks (l3.take k) x w' hk1 hk3' hx);clear hk1 hk3' hx
                          go_upto_region 67 with (first
                           | ((with_reducible refine Dk ?_); refine AP _ (by rfl) _ _ _ 22 5 rfl Tryz.underlying22 Af _ _ _ rfl HVW.out _ _ (2:Int) (2+(k:Int)) rfl rfl (by omega) (by omega) hlo ?_; intro vsO hvsO; replace hvsO:=hvsO.eq (show _ = (l3).take k from (by rw [show ((2:Int)+(k:Int)).toNat - ((2:Int)).toNat = k by omega]; rfl)))
                           | ((with_reducible refine BT ?_); refine Ap _ (by rfl) _ 22 9 5 rfl Tryz.underlying22 Tryz.underlying5 Tryz.underlying9 _ _ _ rfl hvsO ?_)
                           | (go_at_call 84; refine Calls.mono (HP.out _) ?_; rintro e w5 ⟨rfl,hb5⟩)
                           | fail)
                          have hb25:=Ac hb23 hb5;have hb5s:=hb5.size;obtain ⟨v6,hsl6,hv6⟩:=Dt (P:=Tryz.prog) HVL.out 22 5 Tryz.underlying22 Af .i64 (2+(k:Int)) (2+k) (by omega) (by (try simp only [List.length_cons] at hkl ⊢); omega);have hw1:IntKind.i64.wrap (2+(k:Int)) = 2+(k:Int):=IntWalk.i64_in _ (by omega);have hw8:IntKind.u8.wrap (x:Int) = (x:Int):=IntWalk.u8_in _ (by omega)
                          go_region_held3 (fun _=>True) (trivial)
                           ((refine Bb _ (by rfl) _ _ 22 (by rfl) 5 Tryz.underlying22 Af w.heap.size (C9 _ _ (by omega)) _ out (by rfl) (HOL.out.below (Ac hb25 bl5)) _ 1 _ [UInt8.ofNat x] (by rfl) rfl (by decide) (Dc _ HX8.out (heap_alloc_new _ _)) (by omega) ?_; intro v4 w4 hown4 hb4))
                          all_goals
                           have hbE:Below w.heap.size wr w4:=((Ac hb25 bl5).mono HB.out.size).trans hb4
                           go_wp2_with fail
                           go_roundw
                           case rel=>exact ⟨_,_,hv6.kept (hbE.block g HGG.out),.inl hown4,OwnB.apart hown4 hpB,HA4.out,HB.out.trans hbE,by have:=HL3.out; simp only [List.length_drop,List.length_cons]; omega,by simp only [List.length_drop,List.length_cons,List.length_append,List.length_nil] at ho4 ⊢; omega⟩
                           case measure=>exact Cf hv6 HVL.out (by simp only [List.length_drop,List.length_cons]; omega)
                    ·have hn120:((d.toNat:Int) == 120) = false:=by simp; omega
                     have HA4:Hid (AZ c0.toNat r [] = (match (if d.toNat = 117 then EK 4 (b::d::l3) else if d.toNat = 85 then EK 8 (b::d::l3) else none) with
                      | none=>none
                      | some (bb,m)=>AZ c0.toNat ((b::d::l3).drop m) (out++bb))):=hid (by rw [HA3.out,if_neg hd120])
                     go_upto_region 68 with fail
                     clear hn120 hd120 HA3
                     by_cases hdL:d.toNat = 117
                     ·have HA3:Hid (AZ c0.toNat r [] = (match EK 4 (b::d::l3) with
                       | none=>none
                       | some (bb,m)=>AZ c0.toNat ((b::d::l3).drop m) (out++bb))):=hid (by rw [HA4.out,if_pos hdL])
                      clear HA4
                      have hd117:((d.toNat:Int) == 117) = true:=by simp; omega
                      have hd85:((d.toNat:Int) == 85) = false:=by simp; omega
                      go_upto_region 73 with fail
                      clear hd117 hd85 hdL HSL
                      by_cases h6:l3.length < 4
                      ·
                       as_aux_lemma=>
                        have HN:Hid (AZ c0.toNat r [] = none):=hid (by rw [HA3.out,KJ h6]);have hgl3:=(hb2.cell (World.block_lt_of_cell? _ _ hgl)).trans hgl
                        have h6i:((b::d::l3).length:Int) < 6:=by simp <;> omega
                        go_upto_region 74 with (first | ((with_reducible refine Cb ?_); refine Am _ (by rfl) _ 22 5 rfl Tryz.underlying22 _ _ _ rfl (HVL.out.below hb2) ?_) | fail)
                        go_quiet (fail)
                        go_wp2_with fail
                        go_ret2
                        exact StrRes.bad HN.out _ _ ((Ac HB.out hb2).trans ⟨rfl,rfl,rfl,Nat.le_refl _,fun _ _=>rfl⟩)
                      ·have h6i:¬ ((b::d::l3).length:Int) < 6:=by simp <;> omega
                       have HT1:Hid (1≤(l3.take 4).length):=hid (by simp; omega);have HT8:Hid ((l3.take 4).length≤8):=hid (by simp; omega)
                       have h6le:(6:Int)≤((b::d::l3).length:Int):=by simp <;> omega
                       have HGGw:Hid (g < w.heap.size):=HGG
                       rcases hx:CI 0 (l3.take 4) with _ | x1
                       ·
                        as_aux_lemma=>
                         have HN:Hid (AZ c0.toNat r [] = none):=hid (by rw [HA3.out,NI h6 hx]);have HX:=hid hx;clear hx
                         go_wp2_with (first
                          | ((with_reducible refine Cb ?_); refine Am _ (by rfl) _ 22 5 rfl Tryz.underlying22 _ _ _ rfl (HVL.out.below hb2) ?_)
                          | ((with_reducible refine Dk ?_); refine AP _ (by rfl) _ _ _ 22 5 rfl Tryz.underlying22 Af _ _ _ rfl (HVL.out.below hb2) _ _ (2:Int) (6:Int) rfl rfl (by omega) (by omega) h6le ?_; intro vs1 hvs1; replace hvs1:=hvs1.eq ((rfl:_ = l3.take 4)))
                          | ((with_reducible refine BT ?_); refine Ap _ (by rfl) _ 22 9 5 rfl Tryz.underlying22 Tryz.underlying5 Tryz.underlying9 _ _ _ rfl hvs1 ?_)
                          | (go_at_call 84; refine (GM (l3.take 4) _ HT1.out HT8.out HX.out (HDR.out _ hb2).glob.syn).mono ?_; rintro e w3 ⟨⟨te3,x3,rfl⟩,hb3⟩)
                          | ((with_reducible refine DX ?_); refine A9 _ (by rfl) _ _ 22 5 rfl Tryz.underlying22 Af _ _ _ rfl (HVL.out.below (Ac hb2 hb3)) _ (6:Int) rfl (by decide) h6le ?_; intro vsU hvsU)
                          | (go_at_call 47; refine (AF _ _ _ _ (by decide)).mono ?_; rintro e w4 ⟨⟨x,rfl⟩,hb4⟩)
                          | fail)
                         go_ret2
                         exact StrRes.bad HN.out _ _ (Ac (Ac (Ac (Ac HB.out hb2) hb3) bl5) hb4)
                       ·have HX:=hid hx;clear hx
                        by_cases hbig:1114111 < x1
                        ·
                         as_aux_lemma=>
                          have HN:Hid (AZ c0.toNat r [] = none):=hid (by rw [HA3.out,NH h6 HX.out hbig])
                          have hbI:(1114111:Int) < (x1:Int):=by omega
                          go_wp2_with (first
                           | ((with_reducible refine Cb ?_); refine Am _ (by rfl) _ 22 5 rfl Tryz.underlying22 _ _ _ rfl (HVL.out.below hb2) ?_)
                           | ((with_reducible refine Dk ?_); refine AP _ (by rfl) _ _ _ 22 5 rfl Tryz.underlying22 Af _ _ _ rfl (HVL.out.below hb2) _ _ (2:Int) (6:Int) rfl rfl (by omega) (by omega) h6le ?_; intro vs1 hvs1; replace hvs1:=hvs1.eq ((rfl:_ = l3.take 4)))
                           | ((with_reducible refine BT ?_); refine Ap _ (by rfl) _ 22 9 5 rfl Tryz.underlying22 Tryz.underlying5 Tryz.underlying9 _ _ _ rfl hvs1 ?_)
                           | (go_at_call 84; refine (DV (l3.take 4) x1 _ HT1.out HT8.out HX.out).mono ?_; rintro e w3 ⟨rfl,hb3⟩)
                           | ((with_reducible refine DX ?_); refine A9 _ (by rfl) _ _ 22 5 rfl Tryz.underlying22 Af _ _ _ rfl (HVL.out.below (Ac hb2 hb3)) _ (6:Int) rfl (by decide) h6le ?_; intro vsU hvsU)
                           | (go_at_call 47; refine (AF _ _ _ _ (by decide)).mono ?_; rintro e w4 ⟨⟨x,rfl⟩,hb4⟩)
                           | fail)
                          go_ret2
                          exact StrRes.bad HN.out _ _ (Ac (Ac (Ac (Ac HB.out hb2) hb3) bl5) hb4)
                        ·have hbI:¬ (1114111:Int) < (x1:Int):=by omega
                         have hx1:x1≤1114111:=by omega
                         go_upto_region 80 with (first
                          | ((with_reducible refine Cb ?_); refine Am _ (by rfl) _ 22 5 rfl Tryz.underlying22 _ _ _ rfl (HVL.out.below hb2) ?_)
                          | ((with_reducible refine Dk ?_); refine AP _ (by rfl) _ _ _ 22 5 rfl Tryz.underlying22 Af _ _ _ rfl (HVL.out.below hb2) _ _ (2:Int) (6:Int) rfl rfl (by omega) (by omega) h6le ?_; intro vs1 hvs1; replace hvs1:=hvs1.eq ((rfl:_ = l3.take 4)))
                          | ((with_reducible refine BT ?_); refine Ap _ (by rfl) _ 22 9 5 rfl Tryz.underlying22 Tryz.underlying5 Tryz.underlying9 _ _ _ rfl hvs1 ?_)
                          | (go_at_call 84; refine (DV (l3.take 4) x1 _ HT1.out HT8.out HX.out).mono ?_; rintro e w3 ⟨rfl,hb3⟩)
                          | ((with_reducible refine CE ?_); refine Az _ (by rfl) _ _ 22 5 rfl Tryz.underlying22 Af _ _ _ rfl (HVL.out.below (Ac hb2 hb3)) _ (6:Int) rfl (by decide) h6le ?_; intro vs2 hvs2)
                          | fail)
                         replace hvs2:View w3 g vs2 (l3.drop 4):=hvs2;have hb23:=Ac hb2 hb3;have hb3s:=hb3.size
                         cases hs:FR x1 with
                         | false=>
                          as_aux_lemma=>
                           have HA4:Hid (AZ c0.toNat r [] = AZ c0.toNat (l3.drop 4) (out++Fu x1)):=hid (by rw [HA3.out,NG h6 HX.out hbig hs]; rfl);have HENC:=hid (KD (c:=x1) (by unfold FR at hs; simp at hs; omega));have HS:=hid hs;clear hs
                           go_upto_region 88 with (first
                            | (go_at_call 85; refine (Hc _ _).mono ?_; rintro e w' ⟨rfl,rfl⟩; rw [HS.out])
                            | fail)
                           have henc:=HENC.out
                           go_wp2_with (first
                            | ((with_reducible refine Im ?_); refine CD _ (by rfl) _ _ 22 9 (by rfl) 5 Tryz.underlying22 Tryz.underlying9 Af w.heap.size (by have:=hb3.size; omega) _ out (by rfl) (HOL.out.below hb23) (Fu x1) (by rfl) (JD _) (by have:=Gm x1; omega) ?_; intro v4 w4 hown4 hb4)
                            | fail)
                           have hbE:Below w.heap.size wr w4:=(hb23.mono HB.out.size).trans hb4
                           go_roundw
                           case rel=>exact ⟨_,_,hvs2.keptB hb4 HGGw.out,.inl hown4,OwnB.apart hown4 hpB,HA4.out,HB.out.trans hbE,by have:=HL3.out; simp only [List.length_drop]; omega,by have:=Gm x1; simp only [List.length_drop,List.length_cons,List.length_append] at ho4 ⊢; omega⟩
                           case measure=>exact Cf hvs2 HVL.out (by simp only [List.length_drop,List.length_cons]; omega)
                         | true=>
                          have HS:=hid hs;clear hs
                          go_upto_region 81 with (first
                           | (go_at_call 85; refine (Hc _ _).mono ?_; rintro e w' ⟨rfl,rfl⟩; rw [HS.out])
                           | fail)
                          by_cases h46:(l3.drop 4).length < 6
                          ·
                           as_aux_lemma=>
                            have HN:Hid (AZ c0.toNat r [] = none):=hid (by rw [HA3.out,J4 h6 HX.out HS.out h46]);have hgl3:=(hb23.cell (World.block_lt_of_cell? _ _ hgl)).trans hgl
                            have h46i:((l3.length - 4:Nat):Int) < 6:=by simp at h46; omega
                            have h46j:l3.length - 4 < 6:=by simp at h46; omega
                            go_upto_region 82 with (first | ((with_reducible refine Cb ?_); refine Am _ (by rfl) _ 22 5 rfl Tryz.underlying22 _ _ _ rfl hvs2 ?_) | fail)
                            go_quiet (fail)
                            go_wp2_with fail
                            go_ret2
                            exact StrRes.bad HN.out _ _ ((Ac HB.out hb23).trans ⟨rfl,rfl,rfl,Nat.le_refl _,fun _ _=>rfl⟩)
                          ·have h46i:decide ((((l3.drop 4).length:Nat):Int) < 6) = false:=by simp only [decide_eq_false_iff_not]; omega
                           obtain ⟨e1,f1,l5,hl4⟩:∃ e1 f1 l5,l3.drop 4 = e1::f1::l5:=by
                            rcases hq:l3.drop 4 with _ | ⟨e1,_ | ⟨f1,l5⟩⟩
                            ·rw [hq] at h46; simp at h46
                            ·rw [hq] at h46; simp at h46
                            ·exact ⟨e1,f1,l5,rfl⟩
                           have h5l:4≤l5.length:=by rw [hl4] at h46; simp at h46; omega
                           have hl3l:l3.length = l5.length+6:=by have:=congrArg List.length hl4; simp at this; omega
                           rw [hl4] at hvs2;have HV2:=hid hvs2
                           have h46n:¬ ((e1::f1::l5).length:Int) < 6:=by simp <;> omega
                           have h6le2:(6:Int)≤((e1::f1::l5).length:Int):=by simp <;> omega
                           have HT5a:Hid (1≤(l5.take 4).length):=hid (by simp; omega);have HT5:Hid ((l5.take 4).length≤4):=hid (by simp; omega);clear hvs2 h46 h46i
                           rcases hx2:CI 0 (l5.take 4) with _ | x2
                           ·
                            as_aux_lemma=>
                             have HN:Hid (AZ c0.toNat r [] = none):=hid (by rw [HA3.out,Ib h6 HX.out HS.out hl4 h5l,hx2]);have HX2:=hid hx2;have hpz:=Lh x1;clear hx2
                             go_upto_region 84 with (first
                              | ((with_reducible refine Cb ?_); refine Am _ (by rfl) _ 22 5 rfl Tryz.underlying22 _ _ _ rfl HV2.out ?_)
                              | ((with_reducible refine Dk ?_); refine AP _ (by rfl) _ _ _ 22 5 rfl Tryz.underlying22 Af _ _ _ rfl HV2.out _ _ (2:Int) (6:Int) rfl rfl (by omega) (by omega) h6le2 ?_; intro vs3 hvs3; replace hvs3:=hvs3.eq ((rfl:_ = l5.take 4)))
                              | ((with_reducible refine BT ?_); refine Ap _ (by rfl) _ 22 9 5 rfl Tryz.underlying22 Tryz.underlying5 Tryz.underlying9 _ _ _ rfl hvs3 ?_)
                              | (go_at_call 84; refine (GO (l5.take 4) _ HT5a.out HT5.out HX2.out (HDR.out _ hb23).glob.syn).mono ?_; rintro e w5 ⟨⟨te5,x5,rfl⟩,hb5⟩)
                              | fail)
                             have hcs3:((e1.toNat:Int) != 92) = true∨((e1.toNat:Int) != 92) = false∧(((f1.toNat:Int) != 117) = true∨((f1.toNat:Int) != 117) = false):=by
                              cases ((e1.toNat:Int) != 92) <;> cases ((f1.toNat:Int) != 117) <;> simp
                             rcases hcs3 with q1 | ⟨q1,q2 | q2⟩
                             all_goals
                              go_wp2_with (first
                              | (go_at_call 86; refine (GQ _ _ _).mono ?_; rintro e w' ⟨rfl,rfl⟩; rw [hpz])
                              | ((with_reducible refine AA ?_); refine Ae _ (by rfl) _ _ 22 5 rfl Tryz.underlying22 Af _ _ _ rfl (HV2.out.below hb5) _ (0:Int) rfl (by decide) (by simp) ?_; intro ad3 hc3; simp only [Int.toNat_zero,List.getElem_cons_zero] at hc3)
                              | ((with_reducible refine AA ?_); refine Ae _ (by rfl) _ _ 22 5 rfl Tryz.underlying22 Af _ _ _ rfl (HV2.out.below hb5) _ (1:Int) rfl (by decide) (by simp) ?_; intro ad4 hc4; simp only [Int.toNat_one,List.getElem_cons_succ,List.getElem_cons_zero] at hc4)
                              | ((with_reducible refine DX ?_); refine A9 _ (by rfl) _ _ 22 5 rfl Tryz.underlying22 Af _ _ _ rfl (HV2.out.below hb5) _ (6:Int) rfl (by decide) h6le2 ?_; intro vsU hvsU)
                              | (go_at_call 47; refine (AF _ _ _ _ (by decide)).mono ?_; rintro e w4 ⟨⟨x,rfl⟩,hb4⟩)
                              | fail)
                              go_ret2
                              exact StrRes.bad HN.out _ _ (Ac (Ac (Ac (Ac HB.out hb23) hb5) bl5) hb4)
                           ·
                            as_aux_lemma=>
                             have HX2:=hid hx2
                             have hx2l:x2 < 65536:=by have h1:=Nk _ _ _ hx2; have h2:=Nat.pow_le_pow_right (show 0 < 16 by omega) HT5.out; omega
                             have HM:=hid (Ib (b:=b) (c:=d) h6 HX.out HS.out hl4 h5l);rw [hx2] at HM;clear hx2
                             go_upto_region 84 with (first
                              | ((with_reducible refine Cb ?_); refine Am _ (by rfl) _ 22 5 rfl Tryz.underlying22 _ _ _ rfl HV2.out ?_)
                              | ((with_reducible refine Dk ?_); refine AP _ (by rfl) _ _ _ 22 5 rfl Tryz.underlying22 Af _ _ _ rfl HV2.out _ _ (2:Int) (6:Int) rfl rfl (by omega) (by omega) h6le2 ?_; intro vs3 hvs3; replace hvs3:=hvs3.eq ((rfl:_ = l5.take 4)))
                              | ((with_reducible refine BT ?_); refine Ap _ (by rfl) _ 22 9 5 rfl Tryz.underlying22 Tryz.underlying5 Tryz.underlying9 _ _ _ rfl hvs3 ?_)
                              | (go_at_call 84; refine (GN (l5.take 4) x2 _ HT5a.out HT5.out HX2.out).mono ?_; rintro e w5 ⟨rfl,hb5⟩)
                              | fail)
                             have hb25:=Ac hb23 hb5
                             by_cases hok:e1.toNat = 92∧f1.toNat = 117∧CB x1 x2≠65533
                             ·have HA4:Hid (AZ c0.toNat r [] = AZ c0.toNat ((b::d::l3).drop 12) (out++Fu (CB x1 x2))):=hid (by rw [HA3.out,HM.out]; (try simp only); rw [if_pos hok]);have HPR:=hid (Og hok.2.2);have HENC:=hid (KD (c:=CB x1 x2) (by have:=HPR.out; omega))
                              have q1:((e1.toNat:Int) != 92) = false:=by simp; omega
                              have q2:((f1.toNat:Int) != 117) = false:=by simp; omega
                              have q3:((CB x1 x2:Int) == 65533) = false:=by have:=hok.2.2; simp; omega
                              clear hok HM;obtain ⟨v6,hsl6,hv6⟩:=Dt (P:=Tryz.prog) HV2.out 22 5 Tryz.underlying22 Af .i64 6 6 rfl (by simp; omega)
                              go_upto_region 88 with (first
                              | (go_at_call 86; refine (GQ _ _ _).mono ?_; rintro e w' ⟨rfl,rfl⟩)
                              | ((with_reducible refine AA ?_); refine Ae _ (by rfl) _ _ 22 5 rfl Tryz.underlying22 Af _ _ _ rfl (HV2.out.below hb5) _ (0:Int) rfl (by decide) (by simp) ?_; intro ad3 hc3; simp only [Int.toNat_zero,List.getElem_cons_zero] at hc3)
                              | ((with_reducible refine AA ?_); refine Ae _ (by rfl) _ _ 22 5 rfl Tryz.underlying22 Af _ _ _ rfl (HV2.out.below hb5) _ (1:Int) rfl (by decide) (by simp) ?_; intro ad4 hc4; simp only [Int.toNat_one,List.getElem_cons_succ,List.getElem_cons_zero] at hc4)
                               | fail)
                              have henc:=HENC.out
                              go_wp2_with (first
                               | ((with_reducible refine Im ?_); refine CD _ (by rfl) _ _ 22 9 (by rfl) 5 Tryz.underlying22 Tryz.underlying9 Af w.heap.size (by have:=hb25.size; omega) _ out (by rfl) (HOL.out.below hb25) (Fu (CB x1 x2)) (by rfl) (JD _) (by have:=Gm (CB x1 x2); omega) ?_; intro v4 w4 hown4 hb4)
                               | fail)
                              have hbE:Below w.heap.size wr w4:=(hb25.mono HB.out.size).trans hb4
                              have hv7:View w3 g v6 ((b::d::l3).drop 12):=by
                               have:(b::d::l3).drop 12 = (e1::f1::l5).drop 6:=by rw [←hl4]; simp [List.drop_drop]
                               rw [this]; exact hv6
                              go_roundw
                              case rel=>exact ⟨_,_,hv7.keptB ((hb5.mono (Nat.le_trans HB.out.size hb23.size)).trans hb4) HGGw.out,.inl hown4,OwnB.apart hown4 hpB,HA4.out,HB.out.trans hbE,by have:=HL3.out; simp only [List.length_drop,List.length_cons]; omega,by have:=Gm (CB x1 x2); simp only [List.length_drop,List.length_cons,List.length_append] at ho4 ⊢; omega⟩
                              case measure=>exact Cf hv7 HVL.out (by simp only [List.length_drop,List.length_cons]; omega)
                             ·have HN:Hid (AZ c0.toNat r [] = none):=hid (by rw [HA3.out,HM.out]; (try simp only); rw [if_neg hok])
                              have hcs3:((e1.toNat:Int) != 92) = true∨((e1.toNat:Int) != 92) = false∧(((f1.toNat:Int) != 117) = true∨((f1.toNat:Int) != 117) = false∧((CB x1 x2:Int) == 65533) = true):=by
                               simp at hok ⊢; omega
                              clear hok HM
                              rcases hcs3 with q1 | ⟨q1,q2 | ⟨q2,q3⟩⟩
                              all_goals
                               go_wp2_with (first
                              | (go_at_call 86; refine (GQ _ _ _).mono ?_; rintro e w' ⟨rfl,rfl⟩)
                              | ((with_reducible refine AA ?_); refine Ae _ (by rfl) _ _ 22 5 rfl Tryz.underlying22 Af _ _ _ rfl (HV2.out.below hb5) _ (0:Int) rfl (by decide) (by simp) ?_; intro ad3 hc3; simp only [Int.toNat_zero,List.getElem_cons_zero] at hc3)
                              | ((with_reducible refine AA ?_); refine Ae _ (by rfl) _ _ 22 5 rfl Tryz.underlying22 Af _ _ _ rfl (HV2.out.below hb5) _ (1:Int) rfl (by decide) (by simp) ?_; intro ad4 hc4; simp only [Int.toNat_one,List.getElem_cons_succ,List.getElem_cons_zero] at hc4)
                              | ((with_reducible refine DX ?_); refine A9 _ (by rfl) _ _ 22 5 rfl Tryz.underlying22 Af _ _ _ rfl (HV2.out.below hb5) _ (6:Int) rfl (by decide) h6le2 ?_; intro vsU hvsU)
                                | (go_at_call 47; refine (AF _ _ _ _ (by decide)).mono ?_; rintro e w4 ⟨⟨x,rfl⟩,hb4⟩)
                                | fail)
                               go_ret2
                               exact StrRes.bad HN.out _ _ (Ac (Ac (Ac (Ac HB.out hb23) hb5) bl5) hb4)
                     ·have hn117:¬ d.toNat = 117:=hdL;clear hdL
                      by_cases hdL:d.toNat = 85
                      ·have HA3:Hid (AZ c0.toNat r [] = (match EK 8 (b::d::l3) with
                        | none=>none
                        | some (bb,m)=>AZ c0.toNat ((b::d::l3).drop m) (out++bb))):=hid (by rw [HA4.out,if_neg hn117,if_pos hdL])
                       clear HA4
                       have hd117:((d.toNat:Int) == 117) = false:=by simp; omega
                       have hd85:((d.toNat:Int) == 85) = true:=by simp; omega
                       go_upto_region 73 with fail
                       clear hd117 hd85 hdL HSL
                       by_cases h6:l3.length < 8
                       ·
                        as_aux_lemma=>
                         have HN:Hid (AZ c0.toNat r [] = none):=hid (by rw [HA3.out,KJ h6]);have hgl3:=(hb2.cell (World.block_lt_of_cell? _ _ hgl)).trans hgl
                         have h6i:((b::d::l3).length:Int) < 10:=by simp <;> omega
                         go_upto_region 74 with (first | ((with_reducible refine Cb ?_); refine Am _ (by rfl) _ 22 5 rfl Tryz.underlying22 _ _ _ rfl (HVL.out.below hb2) ?_) | fail)
                         go_quiet (fail)
                         go_wp2_with fail
                         go_ret2
                         exact StrRes.bad HN.out _ _ ((Ac HB.out hb2).trans ⟨rfl,rfl,rfl,Nat.le_refl _,fun _ _=>rfl⟩)
                       ·have h6i:¬ ((b::d::l3).length:Int) < 10:=by simp <;> omega
                        have HT1:Hid (1≤(l3.take 8).length):=hid (by simp; omega);have HT8:Hid ((l3.take 8).length≤8):=hid (by simp; omega)
                        have h6le:(10:Int)≤((b::d::l3).length:Int):=by simp <;> omega
                        have HGGw:Hid (g < w.heap.size):=HGG
                        rcases hx:CI 0 (l3.take 8) with _ | x1
                        ·
                         as_aux_lemma=>
                          have HN:Hid (AZ c0.toNat r [] = none):=hid (by rw [HA3.out,NI h6 hx]);have HX:=hid hx;clear hx
                          go_wp2_with (first
                           | ((with_reducible refine Cb ?_); refine Am _ (by rfl) _ 22 5 rfl Tryz.underlying22 _ _ _ rfl (HVL.out.below hb2) ?_)
                           | ((with_reducible refine Dk ?_); refine AP _ (by rfl) _ _ _ 22 5 rfl Tryz.underlying22 Af _ _ _ rfl (HVL.out.below hb2) _ _ (2:Int) (10:Int) rfl rfl (by omega) (by omega) h6le ?_; intro vs1 hvs1; replace hvs1:=hvs1.eq ((rfl:_ = l3.take 8)))
                           | ((with_reducible refine BT ?_); refine Ap _ (by rfl) _ 22 9 5 rfl Tryz.underlying22 Tryz.underlying5 Tryz.underlying9 _ _ _ rfl hvs1 ?_)
                           | (go_at_call 84; refine (GM (l3.take 8) _ HT1.out HT8.out HX.out (HDR.out _ hb2).glob.syn).mono ?_; rintro e w3 ⟨⟨te3,x3,rfl⟩,hb3⟩)
                           | ((with_reducible refine DX ?_); refine A9 _ (by rfl) _ _ 22 5 rfl Tryz.underlying22 Af _ _ _ rfl (HVL.out.below (Ac hb2 hb3)) _ (10:Int) rfl (by decide) h6le ?_; intro vsU hvsU)
                           | (go_at_call 47; refine (AF _ _ _ _ (by decide)).mono ?_; rintro e w4 ⟨⟨x,rfl⟩,hb4⟩)
                           | fail)
                          go_ret2
                          exact StrRes.bad HN.out _ _ (Ac (Ac (Ac (Ac HB.out hb2) hb3) bl5) hb4)
                        ·have HX:=hid hx;clear hx
                         by_cases hbig:1114111 < x1
                         ·
                          as_aux_lemma=>
                           have HN:Hid (AZ c0.toNat r [] = none):=hid (by rw [HA3.out,NH h6 HX.out hbig])
                           have hbI:(1114111:Int) < (x1:Int):=by omega
                           go_wp2_with (first
                            | ((with_reducible refine Cb ?_); refine Am _ (by rfl) _ 22 5 rfl Tryz.underlying22 _ _ _ rfl (HVL.out.below hb2) ?_)
                            | ((with_reducible refine Dk ?_); refine AP _ (by rfl) _ _ _ 22 5 rfl Tryz.underlying22 Af _ _ _ rfl (HVL.out.below hb2) _ _ (2:Int) (10:Int) rfl rfl (by omega) (by omega) h6le ?_; intro vs1 hvs1; replace hvs1:=hvs1.eq ((rfl:_ = l3.take 8)))
                            | ((with_reducible refine BT ?_); refine Ap _ (by rfl) _ 22 9 5 rfl Tryz.underlying22 Tryz.underlying5 Tryz.underlying9 _ _ _ rfl hvs1 ?_)
                            | (go_at_call 84; refine (DV (l3.take 8) x1 _ HT1.out HT8.out HX.out).mono ?_; rintro e w3 ⟨rfl,hb3⟩)
                            | ((with_reducible refine DX ?_); refine A9 _ (by rfl) _ _ 22 5 rfl Tryz.underlying22 Af _ _ _ rfl (HVL.out.below (Ac hb2 hb3)) _ (10:Int) rfl (by decide) h6le ?_; intro vsU hvsU)
                            | (go_at_call 47; refine (AF _ _ _ _ (by decide)).mono ?_; rintro e w4 ⟨⟨x,rfl⟩,hb4⟩)
                            | fail)
                           go_ret2
                           exact StrRes.bad HN.out _ _ (Ac (Ac (Ac (Ac HB.out hb2) hb3) bl5) hb4)
                         ·have hbI:¬ (1114111:Int) < (x1:Int):=by omega
                          have hx1:x1≤1114111:=by omega
                          go_upto_region 80 with (first
                           | ((with_reducible refine Cb ?_); refine Am _ (by rfl) _ 22 5 rfl Tryz.underlying22 _ _ _ rfl (HVL.out.below hb2) ?_)
                           | ((with_reducible refine Dk ?_); refine AP _ (by rfl) _ _ _ 22 5 rfl Tryz.underlying22 Af _ _ _ rfl (HVL.out.below hb2) _ _ (2:Int) (10:Int) rfl rfl (by omega) (by omega) h6le ?_; intro vs1 hvs1; replace hvs1:=hvs1.eq ((rfl:_ = l3.take 8)))
                           | ((with_reducible refine BT ?_); refine Ap _ (by rfl) _ 22 9 5 rfl Tryz.underlying22 Tryz.underlying5 Tryz.underlying9 _ _ _ rfl hvs1 ?_)
                           | (go_at_call 84; refine (DV (l3.take 8) x1 _ HT1.out HT8.out HX.out).mono ?_; rintro e w3 ⟨rfl,hb3⟩)
                           | ((with_reducible refine CE ?_); refine Az _ (by rfl) _ _ 22 5 rfl Tryz.underlying22 Af _ _ _ rfl (HVL.out.below (Ac hb2 hb3)) _ (10:Int) rfl (by decide) h6le ?_; intro vs2 hvs2)
                           | fail)
                          replace hvs2:View w3 g vs2 (l3.drop 8):=hvs2;have hb23:=Ac hb2 hb3;have hb3s:=hb3.size
                          cases hs:FR x1 with
                          | false=>
                           as_aux_lemma=>
                            have HA4:Hid (AZ c0.toNat r [] = AZ c0.toNat (l3.drop 8) (out++Fu x1)):=hid (by rw [HA3.out,NG h6 HX.out hbig hs]; rfl);have HENC:=hid (KD (c:=x1) (by unfold FR at hs; simp at hs; omega));have HS:=hid hs;clear hs
                            go_upto_region 88 with (first
                             | (go_at_call 85; refine (Hc _ _).mono ?_; rintro e w' ⟨rfl,rfl⟩; rw [HS.out])
                             | fail)
                            have henc:=HENC.out
                            go_wp2_with (first
                             | ((with_reducible refine Im ?_); refine CD _ (by rfl) _ _ 22 9 (by rfl) 5 Tryz.underlying22 Tryz.underlying9 Af w.heap.size (by have:=hb3.size; omega) _ out (by rfl) (HOL.out.below hb23) (Fu x1) (by rfl) (JD _) (by have:=Gm x1; omega) ?_; intro v4 w4 hown4 hb4)
                             | fail)
                            have hbE:Below w.heap.size wr w4:=(hb23.mono HB.out.size).trans hb4
                            go_roundw
                            case rel=>exact ⟨_,_,hvs2.keptB hb4 HGGw.out,.inl hown4,OwnB.apart hown4 hpB,HA4.out,HB.out.trans hbE,by have:=HL3.out; simp only [List.length_drop]; omega,by have:=Gm x1; simp only [List.length_drop,List.length_cons,List.length_append] at ho4 ⊢; omega⟩
                            case measure=>exact Cf hvs2 HVL.out (by simp only [List.length_drop,List.length_cons]; omega)
                          | true=>
                           have HS:=hid hs;clear hs
                           go_upto_region 81 with (first
                            | (go_at_call 85; refine (Hc _ _).mono ?_; rintro e w' ⟨rfl,rfl⟩; rw [HS.out])
                            | fail)
                           by_cases h46:(l3.drop 8).length < 6
                           ·
                            as_aux_lemma=>
                             have HN:Hid (AZ c0.toNat r [] = none):=hid (by rw [HA3.out,J4 h6 HX.out HS.out h46]);have hgl3:=(hb23.cell (World.block_lt_of_cell? _ _ hgl)).trans hgl
                             have h46i:((l3.length - 8:Nat):Int) < 6:=by simp at h46; omega
                             have h46j:l3.length - 8 < 6:=by simp at h46; omega
                             go_upto_region 82 with (first | ((with_reducible refine Cb ?_); refine Am _ (by rfl) _ 22 5 rfl Tryz.underlying22 _ _ _ rfl hvs2 ?_) | fail)
                             go_quiet (fail)
                             go_wp2_with fail
                             go_ret2
                             exact StrRes.bad HN.out _ _ ((Ac HB.out hb23).trans ⟨rfl,rfl,rfl,Nat.le_refl _,fun _ _=>rfl⟩)
                           ·have h46i:decide ((((l3.drop 8).length:Nat):Int) < 6) = false:=by simp only [decide_eq_false_iff_not]; omega
                            obtain ⟨e1,f1,l5,hl4⟩:∃ e1 f1 l5,l3.drop 8 = e1::f1::l5:=by
                             rcases hq:l3.drop 8 with _ | ⟨e1,_ | ⟨f1,l5⟩⟩
                             ·rw [hq] at h46; simp at h46
                             ·rw [hq] at h46; simp at h46
                             ·exact ⟨e1,f1,l5,rfl⟩
                            have h5l:4≤l5.length:=by rw [hl4] at h46; simp at h46; omega
                            have hl3l:l3.length = l5.length+10:=by have:=congrArg List.length hl4; simp at this; omega
                            rw [hl4] at hvs2;have HV2:=hid hvs2
                            have h46n:¬ ((e1::f1::l5).length:Int) < 6:=by simp <;> omega
                            have h6le2:(6:Int)≤((e1::f1::l5).length:Int):=by simp <;> omega
                            have HT5a:Hid (1≤(l5.take 4).length):=hid (by simp; omega);have HT5:Hid ((l5.take 4).length≤4):=hid (by simp; omega);clear hvs2 h46 h46i
                            rcases hx2:CI 0 (l5.take 4) with _ | x2
                            ·
                             as_aux_lemma=>
                              have HN:Hid (AZ c0.toNat r [] = none):=hid (by rw [HA3.out,Ib h6 HX.out HS.out hl4 h5l,hx2]);have HX2:=hid hx2;have hpz:=Lh x1;clear hx2
                              go_upto_region 84 with (first
                               | ((with_reducible refine Cb ?_); refine Am _ (by rfl) _ 22 5 rfl Tryz.underlying22 _ _ _ rfl HV2.out ?_)
                               | ((with_reducible refine Dk ?_); refine AP _ (by rfl) _ _ _ 22 5 rfl Tryz.underlying22 Af _ _ _ rfl HV2.out _ _ (2:Int) (6:Int) rfl rfl (by omega) (by omega) h6le2 ?_; intro vs3 hvs3; replace hvs3:=hvs3.eq ((rfl:_ = l5.take 4)))
                               | ((with_reducible refine BT ?_); refine Ap _ (by rfl) _ 22 9 5 rfl Tryz.underlying22 Tryz.underlying5 Tryz.underlying9 _ _ _ rfl hvs3 ?_)
                               | (go_at_call 84; refine (GO (l5.take 4) _ HT5a.out HT5.out HX2.out (HDR.out _ hb23).glob.syn).mono ?_; rintro e w5 ⟨⟨te5,x5,rfl⟩,hb5⟩)
                               | fail)
                              have hcs3:((e1.toNat:Int) != 92) = true∨((e1.toNat:Int) != 92) = false∧(((f1.toNat:Int) != 117) = true∨((f1.toNat:Int) != 117) = false):=by
                               cases ((e1.toNat:Int) != 92) <;> cases ((f1.toNat:Int) != 117) <;> simp
                              rcases hcs3 with q1 | ⟨q1,q2 | q2⟩
                              all_goals
                               go_wp2_with (first
                               | (go_at_call 86; refine (GQ _ _ _).mono ?_; rintro e w' ⟨rfl,rfl⟩; rw [hpz])
                               | ((with_reducible refine AA ?_); refine Ae _ (by rfl) _ _ 22 5 rfl Tryz.underlying22 Af _ _ _ rfl (HV2.out.below hb5) _ (0:Int) rfl (by decide) (by simp) ?_; intro ad3 hc3; simp only [Int.toNat_zero,List.getElem_cons_zero] at hc3)
                               | ((with_reducible refine AA ?_); refine Ae _ (by rfl) _ _ 22 5 rfl Tryz.underlying22 Af _ _ _ rfl (HV2.out.below hb5) _ (1:Int) rfl (by decide) (by simp) ?_; intro ad4 hc4; simp only [Int.toNat_one,List.getElem_cons_succ,List.getElem_cons_zero] at hc4)
                               | ((with_reducible refine DX ?_); refine A9 _ (by rfl) _ _ 22 5 rfl Tryz.underlying22 Af _ _ _ rfl (HV2.out.below hb5) _ (6:Int) rfl (by decide) h6le2 ?_; intro vsU hvsU)
                               | (go_at_call 47; refine (AF _ _ _ _ (by decide)).mono ?_; rintro e w4 ⟨⟨x,rfl⟩,hb4⟩)
                               | fail)
                               go_ret2
                               exact StrRes.bad HN.out _ _ (Ac (Ac (Ac (Ac HB.out hb23) hb5) bl5) hb4)
                            ·
                             as_aux_lemma=>
                              have HX2:=hid hx2
                              have hx2l:x2 < 65536:=by have h1:=Nk _ _ _ hx2; have h2:=Nat.pow_le_pow_right (show 0 < 16 by omega) HT5.out; omega
                              have HM:=hid (Ib (b:=b) (c:=d) h6 HX.out HS.out hl4 h5l);rw [hx2] at HM;clear hx2
                              go_upto_region 84 with (first
                               | ((with_reducible refine Cb ?_); refine Am _ (by rfl) _ 22 5 rfl Tryz.underlying22 _ _ _ rfl HV2.out ?_)
                               | ((with_reducible refine Dk ?_); refine AP _ (by rfl) _ _ _ 22 5 rfl Tryz.underlying22 Af _ _ _ rfl HV2.out _ _ (2:Int) (6:Int) rfl rfl (by omega) (by omega) h6le2 ?_; intro vs3 hvs3; replace hvs3:=hvs3.eq ((rfl:_ = l5.take 4)))
                               | ((with_reducible refine BT ?_); refine Ap _ (by rfl) _ 22 9 5 rfl Tryz.underlying22 Tryz.underlying5 Tryz.underlying9 _ _ _ rfl hvs3 ?_)
                               | (go_at_call 84; refine (GN (l5.take 4) x2 _ HT5a.out HT5.out HX2.out).mono ?_; rintro e w5 ⟨rfl,hb5⟩)
                               | fail)
                              have hb25:=Ac hb23 hb5
                              by_cases hok:e1.toNat = 92∧f1.toNat = 117∧CB x1 x2≠65533
                              ·have HA4:Hid (AZ c0.toNat r [] = AZ c0.toNat ((b::d::l3).drop 16) (out++Fu (CB x1 x2))):=hid (by rw [HA3.out,HM.out]; (try simp only); rw [if_pos hok]);have HPR:=hid (Og hok.2.2);have HENC:=hid (KD (c:=CB x1 x2) (by have:=HPR.out; omega))
                               have q1:((e1.toNat:Int) != 92) = false:=by simp; omega
                               have q2:((f1.toNat:Int) != 117) = false:=by simp; omega
                               have q3:((CB x1 x2:Int) == 65533) = false:=by have:=hok.2.2; simp; omega
                               clear hok HM;obtain ⟨v6,hsl6,hv6⟩:=Dt (P:=Tryz.prog) HV2.out 22 5 Tryz.underlying22 Af .i64 6 6 rfl (by simp; omega)
                               go_upto_region 88 with (first
                               | (go_at_call 86; refine (GQ _ _ _).mono ?_; rintro e w' ⟨rfl,rfl⟩)
                               | ((with_reducible refine AA ?_); refine Ae _ (by rfl) _ _ 22 5 rfl Tryz.underlying22 Af _ _ _ rfl (HV2.out.below hb5) _ (0:Int) rfl (by decide) (by simp) ?_; intro ad3 hc3; simp only [Int.toNat_zero,List.getElem_cons_zero] at hc3)
                               | ((with_reducible refine AA ?_); refine Ae _ (by rfl) _ _ 22 5 rfl Tryz.underlying22 Af _ _ _ rfl (HV2.out.below hb5) _ (1:Int) rfl (by decide) (by simp) ?_; intro ad4 hc4; simp only [Int.toNat_one,List.getElem_cons_succ,List.getElem_cons_zero] at hc4)
                                | fail)
                               have henc:=HENC.out
                               go_wp2_with (first
                                | ((with_reducible refine Im ?_); refine CD _ (by rfl) _ _ 22 9 (by rfl) 5 Tryz.underlying22 Tryz.underlying9 Af w.heap.size (by have:=hb25.size; omega) _ out (by rfl) (HOL.out.below hb25) (Fu (CB x1 x2)) (by rfl) (JD _) (by have:=Gm (CB x1 x2); omega) ?_; intro v4 w4 hown4 hb4)
                                | fail)
                               have hbE:Below w.heap.size wr w4:=(hb25.mono HB.out.size).trans hb4
                               have hv7:View w3 g v6 ((b::d::l3).drop 16):=by
                                have:(b::d::l3).drop 16 = (e1::f1::l5).drop 6:=by rw [←hl4]; simp [List.drop_drop]
                                rw [this]; exact hv6
                               go_roundw
                               case rel=>exact ⟨_,_,hv7.keptB ((hb5.mono (Nat.le_trans HB.out.size hb23.size)).trans hb4) HGGw.out,.inl hown4,OwnB.apart hown4 hpB,HA4.out,HB.out.trans hbE,by have:=HL3.out; simp only [List.length_drop,List.length_cons]; omega,by have:=Gm (CB x1 x2); simp only [List.length_drop,List.length_cons,List.length_append] at ho4 ⊢; omega⟩
                               case measure=>exact Cf hv7 HVL.out (by simp only [List.length_drop,List.length_cons]; omega)
                              ·have HN:Hid (AZ c0.toNat r [] = none):=hid (by rw [HA3.out,HM.out]; (try simp only); rw [if_neg hok])
                               have hcs3:((e1.toNat:Int) != 92) = true∨((e1.toNat:Int) != 92) = false∧(((f1.toNat:Int) != 117) = true∨((f1.toNat:Int) != 117) = false∧((CB x1 x2:Int) == 65533) = true):=by
                                simp at hok ⊢; omega
                               clear hok HM
                               rcases hcs3 with q1 | ⟨q1,q2 | ⟨q2,q3⟩⟩
                               all_goals
                                go_wp2_with (first
                               | (go_at_call 86; refine (GQ _ _ _).mono ?_; rintro e w' ⟨rfl,rfl⟩)
                               | ((with_reducible refine AA ?_); refine Ae _ (by rfl) _ _ 22 5 rfl Tryz.underlying22 Af _ _ _ rfl (HV2.out.below hb5) _ (0:Int) rfl (by decide) (by simp) ?_; intro ad3 hc3; simp only [Int.toNat_zero,List.getElem_cons_zero] at hc3)
                               | ((with_reducible refine AA ?_); refine Ae _ (by rfl) _ _ 22 5 rfl Tryz.underlying22 Af _ _ _ rfl (HV2.out.below hb5) _ (1:Int) rfl (by decide) (by simp) ?_; intro ad4 hc4; simp only [Int.toNat_one,List.getElem_cons_succ,List.getElem_cons_zero] at hc4)
                               | ((with_reducible refine DX ?_); refine A9 _ (by rfl) _ _ 22 5 rfl Tryz.underlying22 Af _ _ _ rfl (HV2.out.below hb5) _ (6:Int) rfl (by decide) h6le2 ?_; intro vsU hvsU)
                                 | (go_at_call 47; refine (AF _ _ _ _ (by decide)).mono ?_; rintro e w4 ⟨⟨x,rfl⟩,hb4⟩)
                                 | fail)
                                go_ret2
                                exact StrRes.bad HN.out _ _ (Ac (Ac (Ac (Ac HB.out hb23) hb5) bl5) hb4)
                      ·have hn85:¬ d.toNat = 85:=hdL;clear hdL;have HN:Hid (AZ c0.toNat r [] = none):=hid (by rw [HA4.out,if_neg hn117,if_neg hn85])
                       as_aux_lemma=>
                        have hz117:((d.toNat:Int) == 117) = false:=by simp; omega
                        have hz85:((d.toNat:Int) == 85) = false:=by simp; omega
                        have h2le:(2:Int)≤((b::d::l3).length:Int):=by simp <;> omega
                        clear HSL hn117 hn85
                        go_wp2_with (first
                         | ((with_reducible refine DX ?_); refine A9 _ (by rfl) _ _ 22 5 rfl Tryz.underlying22 Af _ _ _ rfl (HVL.out.below hb2) _ (2:Int) rfl (by decide) h2le ?_; intro vsU hvsU)
                         | (go_at_call 47; refine (AF _ _ _ _ (by decide)).mono ?_; rintro e w4 ⟨⟨x,rfl⟩,hb4⟩)
                         | fail)
                        go_ret2
                        exact StrRes.bad HN.out _ _ (Ac (Ac (Ac HB.out hb2) bl5) hb4)
      ·have HA2:Hid (AZ c0.toNat r [] = AZ c0.toNat (l.drop (n+Es (l.drop n))) (out++l.take (n+Es (l.drop n)))):=hid (by
        rw [HST.out,HA.out,if_neg h010,if_neg hcq,if_neg h92,JK hq (l.drop n),List.drop_drop,List.append_assoc,List.take_add])
       as_aux_lemma=>
        obtain ⟨i2,hi2⟩:∃ i2,i2 = Es (l.drop n):=⟨_,rfl⟩
        have hi2l:n+i2≤l.length:=by have:=Bp FY (l.drop n); rw [show Aq FY (l.drop n) = Es (l.drop n) from rfl,←hi2] at this; simp at this; omega
        rw [←hi2] at HA2;have HNB2:=hid fun (v':Value) (w':World) (hv':View w' g v' (l.drop n))=>Ix v' (l.drop n) g w' hv' (by simp; omega);rw [←hi2] at HNB2
        have e4:((c:Int) == 92) = false:=by simp; omega
        have hnl:(n:Int)≤(l.length:Int):=by omega
        obtain ⟨v6,hsl6,hv6⟩:=Dt (P:=Tryz.prog) HVL.out 22 5 Tryz.underlying22 Af .i64 ((n:Int)+(i2:Int)) (n+i2) (by omega) hi2l;obtain ⟨ao7,cp7,hsl7,hv7⟩:=Qt (P:=Tryz.prog) HVL.out 22 5 Tryz.underlying22 Af .i64 ((n:Int)+(i2:Int)) (n+i2) (by omega) hi2l;have hwr:IntKind.i64.wrap ((n:Int)+(i2:Int)) = (n:Int)+(i2:Int):=ND (k:=r.length) (by omega) hlr hi2l;have hn1:1≤n+i2:=Nat.le_trans hsz.1 (Nat.le_add_right _ _);have hb2c:=HB.out.size;have hb2s:=hb2.size;obtain ⟨ad7,hao7,hcells7⟩:∃ ad:Addr,ao7 = some ad∧∀ j u,(byteCells (l.take (n+i2)))[j]? = some u→wr.cell? (ad.add j) = some u:=O2 hv7 (RI hn1 hi2l);subst hao7;have hcs:=HCS.out;clear h010 hcq h92 hi2
        rcases hcs with e1 | ⟨e1,e5⟩
        all_goals
         go_upto_region 11 with (first
          | ((with_reducible refine CE ?_); refine Az _ (by rfl) _ _ 22 5 rfl Tryz.underlying22 Af _ _ _ rfl (HVL.out.below hb2) _ (n:Int) rfl (by omega) hnl ?_; intro vs1 hvs1; try simp only [Int.toNat_natCast] at hvs1)
          | (go_at_call 82; refine (HNB2.out _ _ hvs1).mono ?_; rintro e w3 ⟨rfl,rfl⟩)
          | fail)
         go_region_held3 (fun _=>True) (trivial)
          ((refine Bb _ (by rfl) _ _ 22 (by rfl) 5 Tryz.underlying22 Af w.heap.size (by show _≤w2.heap.size; omega) _ out (by rfl) (HOL.out.below (Ac hb2 bl5)) ad7 (n+i2) cp7 (l.take (n+i2)) (by rfl) (by simp; omega) (by omega) (fun j u hu=>((Ac hb2 bl5).cell (World.block_lt_of_cell? _ _ (hcells7 j u hu))).trans (hcells7 j u hu)) (by omega) ?_; intro v4 w4 hown4 hb4))
         all_goals
          have hbE:Below w.heap.size wr w4:=((Ac hb2 bl5).mono HB.out.size).trans hb4
          go_wp2_with fail
          go_roundw
          case rel=>exact ⟨_,_,hv6.kept (hbE.block g HGG.out),.inl hown4,OwnB.apart hown4 hpB,HA2.out,HB.out.trans hbE,by simp; omega,by simp; omega⟩
          case measure=>exact Cf hv6 HVL.out (by simp; omega)
end Go.Proofs.YtgdnpnipahegaaaGreatDoor
