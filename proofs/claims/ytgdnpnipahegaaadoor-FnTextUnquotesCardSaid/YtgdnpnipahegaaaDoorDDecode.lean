/-
 The library's decoder of UTF-8 on bytes: it is the reading of the characters An.
-/
import Derived.Test.YtgdnpnipahegaaaDoorQ0
import Derived.Shelf.Unicode.DecodeSlow
namespace Go.Proofs.YtgdnpnipahegaaaDoor
open Go.ChangeShapes Go.WideShapes Go.ChangeAt Go.RowKit Go.Lib
def dec (l:List UInt8):Nat × Nat:=decodeN l.length (l.getD 0 0).toNat (l.getD 1 0).toNat (l.getD 2 0).toNat (l.getD 3 0).toNat
theorem E1 (c:UInt8):BW c = true↔c.toNat / 64 = 2:=by simp [BW]
theorem G6 (n acc:Nat):Ae (n+1) acc [] = none:=rfl
theorem BB (n acc:Nat) (c:UInt8) (l:List UInt8):Ae (n+1) acc (c::l) = if c.toNat / 64 = 2 then Ae n (acc * 64+c.toNat % 64) l else none:=by
 rw [Ae]
 by_cases h:c.toNat / 64 = 2
 ·rw [if_pos h,if_pos ((E1 c).2 h)]
 ·rw [if_neg h,if_neg (fun h'=>h ((E1 c).1 h'))]
theorem take_zero (acc:Nat) (l:List UInt8):Ae 0 acc l = some acc:=by cases l <;> rfl
theorem D9 {least v:Nat} (h:least≤v∧v≤1114111∧¬ (55296≤v∧v < 57344)):Co least v = true:=by
 unfold Co; simp; omega
def chr (l:List UInt8):Nat × Nat:=match An l with
 | some p=>p
 | none=>(65533,1)
theorem Ev {c:UInt8} {l:List UInt8} {n least first v:Nat} (h1:¬ c.toNat < 128) (hh:Ar c.toNat = some (n,least,first)) (ht:Ae n first l = some v) (ho:Co least v = true):chr (c::l) = (v,n+1):=by
 unfold chr;rw [Af,if_neg h1,hh];simp only;rw [ht];simp only;rw [if_pos ho]
theorem dec_bad {n b0 b1 b2 b3:Nat} (h0:¬ b0 < 128) (h1:¬ (b0 / 32 = 6∧(1 < n∧b1 / 64 = 2)∧128≤b0 % 32 * 64+b1 % 64))
  (h2:¬ (b0 / 16 = 14∧(1 < n∧b1 / 64 = 2)∧(2 < n∧b2 / 64 = 2)∧2048≤b0 % 16 * 4096+b1 % 64 * 64+b2 % 64∧(b0 % 16 * 4096+b1 % 64 * 64+b2 % 64 < 55296∨(57344≤b0 % 16 * 4096+b1 % 64 * 64+b2 % 64∧b0 % 16 * 4096+b1 % 64 * 64+b2 % 64≤1114111))))
  (h3:¬ (b0 / 8 = 30∧(1 < n∧b1 / 64 = 2)∧(2 < n∧b2 / 64 = 2)∧(3 < n∧b3 / 64 = 2)∧65536≤b0 % 8 * 262144+b1 % 64 * 4096+b2 % 64 * 64+b3 % 64∧(b0 % 8 * 262144+b1 % 64 * 4096+b2 % 64 * 64+b3 % 64 < 55296∨(57344≤b0 % 8 * 262144+b1 % 64 * 4096+b2 % 64 * 64+b3 % 64∧b0 % 8 * 262144+b1 % 64 * 4096+b2 % 64 * 64+b3 % 64≤1114111)))) :
  decodeN n b0 b1 b2 b3 = (65533,1):=by
 unfold decodeN;rw [if_neg h0]
 split
 ·rename_i h
  rw [if_neg (fun h'=>h1 ⟨h.1,h.2,h'⟩)]
 ·split
  ·rename_i h
   rw [if_neg (fun h'=>h2 ⟨h.1,h.2.1,h.2.2,h'⟩)]
  ·split
   ·rename_i h
    rw [if_neg (fun h'=>h3 ⟨h.1,h.2.1,h.2.2.1,h.2.2.2,h'⟩)]
   ·rfl
theorem Bz {n a:Nat} {l:List UInt8} {v:Nat} (h:Ae (n+1) a l = some v):∃ d r,l = d::r∧d.toNat / 64 = 2∧Ae n (a * 64+d.toNat % 64) r = some v:=by
 cases l with
 | nil=>rw [G6] at h; cases h
 | cons d r=>
  rw [BB] at h
  by_cases hd:d.toNat / 64 = 2
  ·rw [if_pos hd] at h; exact ⟨d,r,rfl,hd,h⟩
  ·rw [if_neg hd] at h; cases h
theorem Bn (c:UInt8) (l:List UInt8):(c::l).getD 0 0 = c:=rfl
theorem AO (c:UInt8) (l:List UInt8) (k:Nat):(c::l).getD (k+1) 0 = l.getD k 0:=rfl
theorem F4 {c:UInt8} {l:List UInt8} {p:Nat × Nat} (h1:¬ c.toNat < 128) (h:An (c::l) = some p):∃ n least first v,Ar c.toNat = some (n,least,first)∧Ae n first l = some v∧Co least v = true∧p = (v,n+1):=by
 rw [Af,if_neg h1] at h
 rcases hh:Ar c.toNat with _ | ⟨n,least,first⟩
 ·rw [hh] at h; cases h
 ·rw [hh] at h;simp only at h
  rcases ht:Ae n first l with _ | v
  ·rw [ht] at h; cases h
  ·rw [ht] at h;simp only at h
   by_cases ho:Co least v = true
   ·rw [if_pos ho] at h
    injection h with h
    exact ⟨n,least,first,v,rfl,ht,ho,h.symm⟩
   ·rw [if_neg ho] at h; cases h
theorem G1 {least v:Nat} (h:Co least v = true):least≤v∧v≤1114111∧¬ (55296≤v∧v < 57344):=by
 unfold Co at h; simp at h; omega
theorem F3 {b n least first:Nat} (h:Ar b = some (n,least,first)):(n = 1∧least = 128∧first = b % 32∧194≤b∧b < 224)∨(n = 2∧least = 2048∧first = b % 16∧224≤b∧b < 240)∨(n = 3∧least = 65536∧first = b % 8∧240≤b∧b < 245):=by
 unfold Ar at h
 by_cases a:194≤b∧b < 224
 ·rw [if_pos a] at h; injection h with h; simp only [Prod.mk.injEq] at h; exact .inl ⟨h.1.symm,h.2.1.symm,h.2.2.symm,a⟩
 ·rw [if_neg a] at h
  by_cases a2:224≤b∧b < 240
  ·rw [if_pos a2] at h; injection h with h; simp only [Prod.mk.injEq] at h; exact .inr (.inl ⟨h.1.symm,h.2.1.symm,h.2.2.symm,a2⟩)
  ·rw [if_neg a2] at h
   by_cases a3:240≤b∧b < 245
   ·rw [if_pos a3] at h; injection h with h; simp only [Prod.mk.injEq] at h; exact .inr (.inr ⟨h.1.symm,h.2.1.symm,h.2.2.symm,a3⟩)
   ·rw [if_neg a3] at h; cases h
theorem getD_ge (l:List UInt8):(1 < l.length→∃ a b r,l = a::b::r)∧(2 < l.length→∃ a b d r,l = a::b::d::r)∧(3 < l.length→∃ a b d e r,l = a::b::d::e::r):=by
 refine ⟨fun h=>?_,fun h=>?_,fun h=>?_⟩
 ·match l,h with
  | a::b::r,_=>exact ⟨a,b,r,rfl⟩
 ·match l,h with
  | a::b::d::r,_=>exact ⟨a,b,d,r,rfl⟩
 ·match l,h with
  | a::b::d::e::r,_=>exact ⟨a,b,d,e,r,rfl⟩
theorem u8head1 {b:Nat} (h:194≤b∧b < 224):Ar b = some (1,128,b % 32):=by unfold Ar; rw [if_pos h]
theorem u8head2 {b:Nat} (h:224≤b∧b < 240):Ar b = some (2,2048,b % 16):=by unfold Ar; rw [if_neg (by omega),if_pos h]
theorem u8head3 {b:Nat} (h:240≤b∧b < 245):Ar b = some (3,65536,b % 8):=by unfold Ar; rw [if_neg (by omega),if_neg (by omega),if_pos h]
theorem Hy (l:List UInt8) (hne:l≠[]):dec l = chr l:=by
 obtain ⟨c,l,rfl⟩:=List.exists_cons_of_ne_nil hne;have bc:=c.toNat_lt
 by_cases h1:c.toNat < 128
 ·unfold dec decodeN chr;rw [Af,if_pos h1,Bn,if_pos h1]
 ·rcases hu:An (c::l) with _ | p
  ·have hc:chr (c::l) = (65533,1):=by unfold chr; rw [hu]
   rw [hc];unfold dec;rw [Bn];have hgd:=getD_ge (c::l);refine dec_bad h1 ?_ ?_ ?_
   ·rintro ⟨a1,⟨a2,a3⟩,a4⟩;obtain ⟨c',d,r,e⟩:=hgd.1 a2
    injection e with e1 e2
    subst e1 e2;rw [AO,Bn] at a3 a4;have hh:=u8head1 (b:=c.toNat) (by omega)
    have ht:Ae 1 (c.toNat % 32) (d::r) = some (c.toNat % 32 * 64+d.toNat % 64):=by rw [BB,if_pos a3,take_zero]
    have:=Ev h1 hh ht (D9 (by omega));rw [hc] at this; simp at this
   ·rintro ⟨a1,⟨a2,a3⟩,⟨a4,a5⟩,a6,a7⟩;obtain ⟨c',d,d2,r,e⟩:=hgd.2.1 a4
    injection e with e1 e2
    subst e1 e2;rw [AO,Bn] at a3;rw [AO,AO,Bn] at a5;rw [AO,Bn,AO,AO,Bn] at a6 a7;have hh:=u8head2 (b:=c.toNat) (by omega)
    have ht:Ae 2 (c.toNat % 16) (d::d2::r) = some ((c.toNat % 16 * 64+d.toNat % 64) * 64+d2.toNat % 64):=by rw [BB,if_pos a3,BB,if_pos a5,take_zero]
    have:=Ev h1 hh ht (D9 (by omega));rw [hc] at this; simp at this
   ·rintro ⟨a1,⟨a2,a3⟩,⟨a4,a5⟩,⟨a6,a7⟩,a8,a9⟩;obtain ⟨c',d,d2,d3,r,e⟩:=hgd.2.2 a6
    injection e with e1 e2
    subst e1 e2;rw [AO,Bn] at a3;rw [AO,AO,Bn] at a5;rw [AO,AO,AO,Bn] at a7;rw [AO,Bn,AO,AO,Bn,AO,AO,AO,Bn] at a8 a9;have hh:=u8head3 (b:=c.toNat) (by omega)
    have ht:Ae 3 (c.toNat % 8) (d::d2::d3::r) = some (((c.toNat % 8 * 64+d.toNat % 64) * 64+d2.toNat % 64) * 64+d3.toNat % 64):=by rw [BB,if_pos a3,BB,if_pos a5,BB,if_pos a7,take_zero]
    have:=Ev h1 hh ht (D9 (by omega));rw [hc] at this; simp at this
  ·obtain ⟨n,least,first,v,hh,ht,ho,rfl⟩:=F4 h1 hu
   have hc:chr (c::l) = (v,n+1):=by unfold chr; rw [hu]
   rw [hc];have hov:=G1 ho;unfold dec;rw [Bn]
   rcases F3 hh with ⟨rfl,rfl,rfl,a⟩ | ⟨rfl,rfl,rfl,a⟩ | ⟨rfl,rfl,rfl,a⟩
   ·obtain ⟨d,r,rfl,hd,ht1⟩:=Bz ht;rw [take_zero] at ht1
    injection ht1 with ht1
    have bd:=d.toNat_lt;rw [AO,Bn];unfold decodeN;rw [if_neg h1,if_pos ⟨by omega,by simp,hd⟩,if_pos (by omega),ht1]
   ·obtain ⟨d,r,rfl,hd,ht1⟩:=Bz ht;obtain ⟨d2,r2,rfl,hd2,ht2⟩:=Bz ht1;rw [take_zero] at ht2
    injection ht2 with ht2
    rw [AO,Bn,AO,AO,Bn];unfold decodeN;rw [if_neg h1,if_neg (by omega),if_pos ⟨by omega,⟨by simp,hd⟩,by simp,hd2⟩,if_pos (by omega)]
    congr 1; omega
   ·obtain ⟨d,r,rfl,hd,ht1⟩:=Bz ht;obtain ⟨d2,r2,rfl,hd2,ht2⟩:=Bz ht1;obtain ⟨d3,r3,rfl,hd3,ht3⟩:=Bz ht2;rw [take_zero] at ht3
    injection ht3 with ht3
    rw [AO,Bn,AO,AO,Bn,AO,AO,AO,Bn];unfold decodeN;rw [if_neg h1,if_neg (by omega),if_neg (by omega),if_pos ⟨by omega,⟨by simp,hd⟩,⟨by simp,hd2⟩,by simp,hd3⟩,if_pos (by omega)]
    congr 1; omega
def DD (l:List UInt8):Value:=.tuple #[.int .i32 (chr l).1,.int .i64 (chr l).2]
set_option maxHeartbeats 4000000 in
set_option maxRecDepth 100000 in
theorem C0 (v:Value) (l:List UInt8) (g:Nat) (w:World) (hv:View w g v l) (hne:l≠[]) (hm:l.length≤100000000) (hT:Lib.Utf8Tabs 1 2 w) :
  Calls Tryd.prog 35 #[v] w fun e w'=>e = .returned (DD l)∧Below w.heap.size w w':=by
 have hlt:=hv.lt hne;obtain ⟨ao,cap,rfl,hlc,hcm,hn0,off,hao,hcell⟩:=hv;obtain rfl:=hao hne
 have hz0:(0:Int) < (l.length:Int):=by have:=List.length_pos_iff.2 hne; omega
 have hz0':¬ ((l.length:Int) < 1):=by omega
 have hc:∀ k,k < l.length→w.cell? ⟨g,off+k,none⟩ = some (.int .u8 ((l.getD k 0).toNat:Int)):=fun k hk=>by
  rw [hcell k hk,List.getD_eq_getElem?_getD,List.getElem?_eq_getElem hk]; rfl
 have hdv:DD l = .tuple #[.int .i32 (decodeN l.length (l.getD 0 0).toNat (l.getD 1 0).toNat (l.getD 2 0).toNat (l.getD 3 0).toNat).1,.int .i64 (decodeN l.length (l.getD 0 0).toNat (l.getD 1 0).toNat (l.getD 2 0).toNat (l.getD 3 0).toNat).2]:=by
  unfold DD; rw [←Hy l hne]; rfl
 rw [hdv];clear hdv hcell hao hn0;have c0:=hc 0 (by omega);have c1:=hc 1;have c2:=hc 2;have c3:=hc 3;rw [Nat.add_zero] at c0;generalize l.getD 0 0 = x0 at *;generalize l.getD 1 0 = x1 at *;generalize l.getD 2 0 = x2 at *;generalize l.getD 3 0 = x3 at *;have l0:=x0.toNat_lt; have l1:=x1.toNat_lt; have l2:=x2.toNat_lt; have l3:=x3.toNat_lt;have hc0:=hT.1 x0.toNat (by omega);have hres:firstT x0.toNat < 240→decodeN l.length x0.toNat x1.toNat x2.toNat x3.toNat = slowN l.length x0.toNat x1.toNat x2.toNat x3.toNat (firstT x0.toNat % 8) (accLo (firstT x0.toNat / 16)) (accHi (firstT x0.toNat / 16)):=
  fun h=>(Lib.slow_eq _ _ _ _ _ (by omega) (by omega) (by omega) (by omega) h).symm
 have hlt1:1 < w.heap.size:=World.block_lt_of_cell? w _ hc0;clear hc
 rcases Lib.firstT_cases x0.toNat with hX | hX | hX | hX | hX | hX | hX | hX | hX
 ·rw [Lib.ascii_eq _ _ _ _ _ hX];rw [hX] at hc0;clear hres hT hX
  go_enter Tryd.func35,Tryd.ntmps35
  go_wp2
  rw [Utf8W.mask240,Utf8W.keep_byte ⟨x0.toNat,l0⟩]
  go_ret2
  exact ⟨rfl,Below.refl _ _⟩
 ·rw [Lib.bad_eq _ _ _ _ _ (by omega) hX];rw [hX] at hc0;clear hres hT hX
  go_enter Tryd.func35,Tryd.ntmps35
  go_wp2
  rw [Utf8W.mask241,Utf8W.drop_byte ⟨x0.toNat,l0⟩]
  go_ret2
  exact ⟨rfl,Below.refl _ _⟩
 all_goals replace hres:=hres (by omega)
 ·rw [hX] at hc0 hres;have ha0:=(hT.2 0 (by omega)).1;have ha1:=(hT.2 0 (by omega)).2;simp only [accLo,accHi,Nat.reduceMul,Nat.reduceAdd,Nat.reduceEqDiff,if_true,if_false,Nat.reduceMod,Nat.reduceDiv] at ha0 ha1 hres;rw [hres];clear hres hT hX
  by_cases hn:l.length < 2
  ·have hnz:(l.length:Int) < 2:=by omega
   clear c1 c2 c3
   go_enter Tryd.func35,Tryd.ntmps35
   go_wp2
   all_goals (go_ret2; refine ⟨?_,(Below.refl _ _).alloc (Nat.le_refl _) _⟩; utf8_leaf)
  ·have hnz:¬ (l.length:Int) < 2:=by omega
   have hz1:(1:Int) < (l.length:Int):=by omega
   replace c1:=c1 (by omega);clear c2 c3
   go_enter Tryd.func35,Tryd.ntmps35
   go_wp2
   all_goals (go_ret2; refine ⟨?_,(Below.refl _ _).alloc (Nat.le_refl _) _⟩; utf8_leaf)
 ·rw [hX] at hc0 hres;have ha0:=(hT.2 1 (by omega)).1;have ha1:=(hT.2 1 (by omega)).2;simp only [accLo,accHi,Nat.reduceMul,Nat.reduceAdd,Nat.reduceEqDiff,if_true,if_false,Nat.reduceMod,Nat.reduceDiv] at ha0 ha1 hres;rw [hres];clear hres hT hX
  by_cases hn:l.length < 3
  ·have hnz:(l.length:Int) < 3:=by omega
   clear c1 c2 c3
   go_enter Tryd.func35,Tryd.ntmps35
   go_wp2
   all_goals (go_ret2; refine ⟨?_,(Below.refl _ _).alloc (Nat.le_refl _) _⟩; utf8_leaf)
  ·have hnz:¬ (l.length:Int) < 3:=by omega
   have hz1:(1:Int) < (l.length:Int):=by omega
   replace c1:=c1 (by omega)
   have hz2:(2:Int) < (l.length:Int):=by omega
   replace c2:=c2 (by omega);clear c3
   go_enter Tryd.func35,Tryd.ntmps35
   go_wp2
   all_goals (go_ret2; refine ⟨?_,(Below.refl _ _).alloc (Nat.le_refl _) _⟩; utf8_leaf)
 ·rw [hX] at hc0 hres;have ha0:=(hT.2 0 (by omega)).1;have ha1:=(hT.2 0 (by omega)).2;simp only [accLo,accHi,Nat.reduceMul,Nat.reduceAdd,Nat.reduceEqDiff,if_true,if_false,Nat.reduceMod,Nat.reduceDiv] at ha0 ha1 hres;rw [hres];clear hres hT hX
  by_cases hn:l.length < 3
  ·have hnz:(l.length:Int) < 3:=by omega
   clear c1 c2 c3
   go_enter Tryd.func35,Tryd.ntmps35
   go_wp2
   all_goals (go_ret2; refine ⟨?_,(Below.refl _ _).alloc (Nat.le_refl _) _⟩; utf8_leaf)
  ·have hnz:¬ (l.length:Int) < 3:=by omega
   have hz1:(1:Int) < (l.length:Int):=by omega
   replace c1:=c1 (by omega)
   have hz2:(2:Int) < (l.length:Int):=by omega
   replace c2:=c2 (by omega);clear c3
   go_enter Tryd.func35,Tryd.ntmps35
   go_wp2
   all_goals (go_ret2; refine ⟨?_,(Below.refl _ _).alloc (Nat.le_refl _) _⟩; utf8_leaf)
 ·rw [hX] at hc0 hres;have ha0:=(hT.2 2 (by omega)).1;have ha1:=(hT.2 2 (by omega)).2;simp only [accLo,accHi,Nat.reduceMul,Nat.reduceAdd,Nat.reduceEqDiff,if_true,if_false,Nat.reduceMod,Nat.reduceDiv] at ha0 ha1 hres;rw [hres];clear hres hT hX
  by_cases hn:l.length < 3
  ·have hnz:(l.length:Int) < 3:=by omega
   clear c1 c2 c3
   go_enter Tryd.func35,Tryd.ntmps35
   go_wp2
   all_goals (go_ret2; refine ⟨?_,(Below.refl _ _).alloc (Nat.le_refl _) _⟩; utf8_leaf)
  ·have hnz:¬ (l.length:Int) < 3:=by omega
   have hz1:(1:Int) < (l.length:Int):=by omega
   replace c1:=c1 (by omega)
   have hz2:(2:Int) < (l.length:Int):=by omega
   replace c2:=c2 (by omega);clear c3
   go_enter Tryd.func35,Tryd.ntmps35
   go_wp2
   all_goals (go_ret2; refine ⟨?_,(Below.refl _ _).alloc (Nat.le_refl _) _⟩; utf8_leaf)
 ·rw [hX] at hc0 hres;have ha0:=(hT.2 3 (by omega)).1;have ha1:=(hT.2 3 (by omega)).2;simp only [accLo,accHi,Nat.reduceMul,Nat.reduceAdd,Nat.reduceEqDiff,if_true,if_false,Nat.reduceMod,Nat.reduceDiv] at ha0 ha1 hres;rw [hres];clear hres hT hX
  by_cases hn:l.length < 4
  ·have hnz:(l.length:Int) < 4:=by omega
   clear c1 c2 c3
   go_enter Tryd.func35,Tryd.ntmps35
   go_wp2
   all_goals (go_ret2; refine ⟨?_,(Below.refl _ _).alloc (Nat.le_refl _) _⟩; utf8_leaf)
  ·have hnz:¬ (l.length:Int) < 4:=by omega
   have hz1:(1:Int) < (l.length:Int):=by omega
   replace c1:=c1 (by omega)
   have hz2:(2:Int) < (l.length:Int):=by omega
   replace c2:=c2 (by omega)
   have hz3:(3:Int) < (l.length:Int):=by omega
   replace c3:=c3 (by omega)
   go_enter Tryd.func35,Tryd.ntmps35
   go_wp2
   all_goals (go_ret2; refine ⟨?_,(Below.refl _ _).alloc (Nat.le_refl _) _⟩; utf8_leaf)
 ·rw [hX] at hc0 hres;have ha0:=(hT.2 0 (by omega)).1;have ha1:=(hT.2 0 (by omega)).2;simp only [accLo,accHi,Nat.reduceMul,Nat.reduceAdd,Nat.reduceEqDiff,if_true,if_false,Nat.reduceMod,Nat.reduceDiv] at ha0 ha1 hres;rw [hres];clear hres hT hX
  by_cases hn:l.length < 4
  ·have hnz:(l.length:Int) < 4:=by omega
   clear c1 c2 c3
   go_enter Tryd.func35,Tryd.ntmps35
   go_wp2
   all_goals (go_ret2; refine ⟨?_,(Below.refl _ _).alloc (Nat.le_refl _) _⟩; utf8_leaf)
  ·have hnz:¬ (l.length:Int) < 4:=by omega
   have hz1:(1:Int) < (l.length:Int):=by omega
   replace c1:=c1 (by omega)
   have hz2:(2:Int) < (l.length:Int):=by omega
   replace c2:=c2 (by omega)
   have hz3:(3:Int) < (l.length:Int):=by omega
   replace c3:=c3 (by omega)
   go_enter Tryd.func35,Tryd.ntmps35
   go_wp2
   all_goals (go_ret2; refine ⟨?_,(Below.refl _ _).alloc (Nat.le_refl _) _⟩; utf8_leaf)
 ·rw [hX] at hc0 hres;have ha0:=(hT.2 4 (by omega)).1;have ha1:=(hT.2 4 (by omega)).2;simp only [accLo,accHi,Nat.reduceMul,Nat.reduceAdd,Nat.reduceEqDiff,if_true,if_false,Nat.reduceMod,Nat.reduceDiv] at ha0 ha1 hres;rw [hres];clear hres hT hX
  by_cases hn:l.length < 4
  ·have hnz:(l.length:Int) < 4:=by omega
   clear c1 c2 c3
   go_enter Tryd.func35,Tryd.ntmps35
   go_wp2
   all_goals (go_ret2; refine ⟨?_,(Below.refl _ _).alloc (Nat.le_refl _) _⟩; utf8_leaf)
  ·have hnz:¬ (l.length:Int) < 4:=by omega
   have hz1:(1:Int) < (l.length:Int):=by omega
   replace c1:=c1 (by omega)
   have hz2:(2:Int) < (l.length:Int):=by omega
   replace c2:=c2 (by omega)
   have hz3:(3:Int) < (l.length:Int):=by omega
   replace c3:=c3 (by omega)
   go_enter Tryd.func35,Tryd.ntmps35
   go_wp2
   all_goals (go_ret2; refine ⟨?_,(Below.refl _ _).alloc (Nat.le_refl _) _⟩; utf8_leaf)
end Go.Proofs.YtgdnpnipahegaaaDoor
